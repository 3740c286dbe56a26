import PyProof.Rows.All
import Wide.All
import OpenK.AllK
import Wide.FinOn
import PyProof.InstStoreFacts
import PyProof.ExcAttrAll.Exception
import PyProof.FactsTree
import PyProof.RulesRaise
import PyProof.NoPylong
import PyProof.FString5
import PyProof.DictTable
import PyProof.Rows.CatchOwn
import PyProof.Rows.CatchBare
import PyProof.DictRoads
import KE.KCallOwn
import Lean
import PySem.Challenge.RW_km0063_01
open PySem PySem.W PySem.Spec PySem.Calls PyProof.Rows
set_option Elab.async false
set_option maxRecDepth 100000
set_option maxHeartbeats 8000000
set_option hygiene false in
local macro_rules | `(tactic| walk_at "lk") => `(tactic| first | exact lk_hit | (refine' lk_miss (by decide +kernel) ?_; walk_at "lk"))
set_option hygiene false in
local macro_rules | `(tactic| walk_at "mem") => `(tactic| first | exact List.Mem.head _ | (refine' List.Mem.tail _ ?_; walk_at "mem"))
set_option hygiene false in
local macro_rules | `(tactic| walk_at "at") => `(tactic| first | exact At.here | (apply At.there; walk_at "at"))
set_option hygiene false in
local macro_rules | `(tactic| walk_at "sz") => `(tactic| ((try simp only [sv_len, List.length_cons, List.length_nil, List.length_append, List.length_drop, List.length_take, List.length_map]); (have szE := sizeLine_eq); first | omega | (exact Nat.le_of_ble_eq_true rfl)))
set_option hygiene false in
local macro_rules | `(tactic| walk_at "m1") => `(tactic| with_reducible first
  | refine' m_execs_cons ?_
  | refine' wpAny_execs_nil ?_
  | refine' m_ift ?_
  | refine' m_iff ?_
  | (refine' m_Assign_Name ?hs ?_; (case hs => with_unfolding_all rfl))
  | (refine' m_store (by assumption) ?hx ?hk ?_; (case hx => with_unfolding_all rfl); (case hk => with_unfolding_all rfl); clear S; intro h tk S)
  | (refine' m_local (by assumption) ?hv ?hx ?hk ?hd ?_; (case hv => walk_at "lk"); (case hx => with_unfolding_all rfl); (case hk => with_unfolding_all rfl); (case hd => decide +kernel))
  | (refine' m_free (by assumption) ?hx ?hk ?hd ?hn ?hc ?hm ?ho ?_; (case hx => with_unfolding_all rfl); (case hk => with_unfolding_all rfl); (case hd => decide +kernel); (case hn => decide +kernel); (case hc => assumption); (case hm => k_dflt (walk_at "mem")); (case ho => assumption))
  | (refine' m_cell (by assumption) ?hx ?hk ?hd ?hc ?hm ?ho ?_; (case hx => with_unfolding_all rfl); (case hk => with_unfolding_all rfl); (case hd => decide +kernel); (case hc => assumption); (case hm => k_dflt (walk_at "mem")); (case ho => assumption))
  | (refine' m_int ?_; intro t tk)
  | (refine' m_str ?_; intro t tk)
  | refine' m_none ?_
  | refine' m_bool ?_
  | (refine' m_blt (by assumption) ?hx ?hk ?hd ?hn ?X ?T ?e ?hv ?_; (case hx => with_unfolding_all rfl); (case hk => with_unfolding_all rfl); (case hd => decide +kernel); (case hn => decide +kernel); (case X => assumption); (case T => assumption); (case e => k_is); (case hv => boot_fast))
  | (refine' m_glob (by assumption) ?hx ?hk ?hd ?X ?T ?e ?_; (case hx => with_unfolding_all rfl); (case hk => with_unfolding_all rfl); (case hd => decide +kernel); (case X => assumption); (case T => assumption); (case e => k_is))
  | refine' wpAny_If ?_
  | (refine' m_isTrue_Compare ?hb ?_; (case hb => with_unfolding_all rfl))
  | (refine' m_Compare ?hb ?_; (case hb => with_unfolding_all rfl))
  | refine' wpAny_BinOp ?_
  | refine' wpAny_AugAssign_Name ?_
  | (refine' m_load (by assumption) ?hv ?hx ?hk ?_; (case hv => walk_at "lk"); (case hx => with_unfolding_all rfl); (case hk => with_unfolding_all rfl))
  | (refine' m_Expr ?hi ?hs ?_; (case hi => with_unfolding_all rfl); (case hs => with_unfolding_all rfl))
  | refine' wpAny_Return_some ?_
  | (refine' m_Method ?hc ?_; (case hc => with_unfolding_all rfl))
  | (refine' m_Call ?hc ?_; (case hc => with_unfolding_all rfl))
  | (refine' m_cw_builtin ?hs ?hp ?_; (case hs => with_unfolding_all rfl); (case hp => with_unfolding_all rfl))
  | (refine' m_cw_type ?hs ?hp ?_; (case hs => with_unfolding_all rfl); (case hp => with_unfolding_all rfl))
  | (refine' m_Assign_Attr ?hs ?_; (case hs => with_unfolding_all rfl))
  | refine' m_AugAttr ?_
  | refine' m_JoinedStr ?_
  | (refine' m_joinCons ?he ?_; (case he => with_unfolding_all rfl))
  | (refine' m_joinNil ?he ?hz ?_; (case he => with_unfolding_all rfl); (case hz => k_dflt (walk_at "fits")); intro t tk)
  | refine' m_FVs ?_
  | (refine' m_convStr ?hz ?_; (case hz => k_dflt (walk_at "fits")); intro t tk)
  | (refine' m_convInt ?ha ?_; (case ha => k_dflt (exact log_small (by omega) (by omega))); intro t tk)
  | (refine' m_fmtStr ?hz ?_; (case hz => k_dflt (walk_at "fits")); intro t tk)
  | (refine' m_Attr ?he ?_; (case he => with_unfolding_all rfl))
  | (refine' m_cw_method1 ?hs ?hp ?_; (case hs => with_unfolding_all rfl); (case hp => with_unfolding_all rfl))
  | (refine' m_spliced_cons ?hs ?_; (case hs => with_unfolding_all rfl))
  | refine' spliced_none ?_
  | refine' List_ ?_
  | refine' Tuple_ ?_
  | (refine' m_newList (by assumption) ?hz ?_; (case hz => exact Nat.le_of_ble_eq_true rfl); clear S; intro l h S)
  | (refine' m_newTuple (by assumption) ?hz ?_; (case hz => exact Nat.le_of_ble_eq_true rfl); clear S; intro l h S)
  | refine' Subscript_ ?_
  | refine' m_evalPart_some ?_
  | refine' m_evalPart_none ?_
  | refine' IfExp_ ?_
  | (refine' m_add ?_; intro t tk)
  | (refine' m_sub ?_; intro t tk)
  | (refine' m_iadd ?_; intro t tk)
  | (refine' m_abs ?_; intro t tk)
  | refine' m_lt ?_
  | refine' m_gt ?_
  | refine' m_eq ?_
  | refine' m_eqs ?_
  | refine' m_ins ?_
  | refine' m_truthb ?_
  | (refine' m_inStrs (by assumption) ?hm ?_; (case hm => k_dflt (walk_at "mem")))
  | (refine' m_len (by assumption) ?hm ?hz ?_; (case hm => k_dflt (walk_at "mem")); (case hz => k_dflt (walk_at "sz")); intro t tk)
  | (refine' m_addLists (by assumption) ?hl ?hb ?hz ?_; (case hl => k_dflt (walk_at "mem")); (case hb => k_dflt (walk_at "mem")); (case hz => k_dflt (walk_at "sz")); clear S; intro ls h S)
  | (refine' m_lenStr ?hz ?_; (case hz => k_dflt (walk_at "sz")); intro t tk)
  | (refine' m_append (by assumption) ?U ?hz ?_; (case U => k_dflt (walk_at "at")); (case hz => k_dflt (walk_at "sz")); clear S; intro h S)
  | (refine' m_iadds ?hz ?_; (case hz => k_dflt (walk_at "sz")); intro t tk)
  | (refine' m_iter (by assumption) ?hm ?_; (case hm => k_dflt (walk_at "mem")); clear S; intro it h S)
  | refine' m_sliceP ?_
  | (refine' m_newSlice (by assumption) ?_; clear S; intro sl h S)
  | (refine' m_getAppend (by assumption) ?hm ?_; (case hm => k_dflt (walk_at "mem")))
  | refine' m_getJoin ?_
  | refine' m_assignName ?_
  | refine' m_inOrder ?_
  | refine' m_inOrder0 ?_
  | (refine' me_local (by assumption) ?hC ?hv ?hx ?hk ?hd ?_; (case hC => with_unfolding_all rfl); (case hv => walk_at "lk"); (case hx => with_unfolding_all rfl); (case hk => with_unfolding_all rfl); (case hd => decide +kernel))
  | (refine' me_cell (by assumption) ?hx ?hk ?hd ?hc ?hm ?ho ?_; (case hx => with_unfolding_all rfl); (case hk => with_unfolding_all rfl); (case hd => decide +kernel); (case hc => with_unfolding_all rfl); (case hm => k_dflt (walk_at "mem")); (case ho => assumption))
  | (refine' me_blt (by assumption) ?hg ?hx ?hk ?hd ?hn ?hbn ?X ?T ?e ?hv ?_; (case hg => with_unfolding_all rfl); (case hx => with_unfolding_all rfl); (case hk => with_unfolding_all rfl); (case hd => decide +kernel); (case hn => decide +kernel); (case hbn => with_unfolding_all rfl); (case X => assumption); (case T => assumption); (case e => k_is); (case hv => boot_fast))
  | refine' bindName_ ?_
  | refine' wpAny_Continue ?_
  | refine' wpAny_Break ?_
  | refine' isTrue_and ?_
  | refine' isTrue_and_nil ?_
  | (refine' m_Assign_Tuple ?hs ?hw ?_; (case hs => with_unfolding_all rfl); (case hw => with_unfolding_all rfl))
  | (refine' m_isTrue_plain ?hp ?_; (case hp => with_unfolding_all rfl)))
set_option hygiene false in
local macro_rules | `(tactic| walk_at "m") => `(tactic| first | walk_at "m1" | (dsimp only; walk_at "m1") | (dsimp only; refine' and_K ?hz ?_; (case hz => walk_at "fits")))
set_option hygiene false in
local macro_rules | `(tactic| walk_at "fits") => `(tactic| exact tot_ok (by (try simp only [Str.length_append]); omega))
set_option hygiene false in
local macro_rules | `(tactic| walk_at "sub") => `(tactic| first | exact List.Sublist.refl _ | (refine' List.Sublist.cons₂ _ ?_; walk_at "sub") | (refine' List.Sublist.cons _ ?_; walk_at "sub"))
namespace Mine
open_top hd1 for PySem.Challenge.rw_km0063_01
end Mine

namespace Mine

/-- what is known of the frame at hand and of the objects that the call may turn -/
structure St (g : Heap) (L : Addr) (h : Heap) (lo : List (Str × Value)) (own : List (Addr × Obj)) : Prop where
  fr : ∃ m, Fr g L h m ∧ ∀ x v, lo.lookup x = some v → m x = some v
  nw : News g L h own
  nd : (own.map (·.1)).Nodup

inductive At (a : Addr) (o o' : Obj) : List (Addr × Obj) → List (Addr × Obj) → Prop
  | here {r} : At a o o' ((a, o) :: r) ((a, o') :: r)
  | there {p r r'} : At a o o' r r' → At a o o' (p :: r) (p :: r')

theorem At.keys {a : Addr} {o o' : Obj} {l l' : List (Addr × Obj)} (U : At a o o' l l') : l'.map (·.1) = l.map (·.1) := by
  induction U with
  | here => rfl
  | there _ ih => simp only [List.map_cons, ih]
theorem At.mem {a : Addr} {o o' : Obj} {l l' : List (Addr × Obj)} (U : At a o o' l l') : (a, o) ∈ l := by
  induction U with
  | here => exact .head _
  | there _ ih => exact .tail _ ih
theorem At.split {a : Addr} {o o' : Obj} {l l' : List (Addr × Obj)} (U : At a o o' l l') (nd : (l.map (·.1)).Nodup) : ∀ p ∈ l', p = (a, o') ∨ (p ∈ l ∧ p.1 ≠ a) := by
  induction U with
  | @here r =>
    intro p hp
    rcases List.mem_cons.mp hp with rfl | hp
    · exact .inl rfl
    · refine .inr ⟨.tail _ hp, fun e => ?_⟩
      rw [List.map_cons, List.nodup_cons] at nd
      have z := List.mem_map_of_mem (f := (·.1)) hp
      exact nd.1 (e ▸ z)
  | @there q r r' U ih =>
    intro p hp
    rw [List.map_cons, List.nodup_cons] at nd
    rcases List.mem_cons.mp hp with rfl | hp
    · refine .inr ⟨.head _, fun e => nd.1 ?_⟩
      rw [e]; exact List.mem_map_of_mem U.mem
    · rcases ih nd.2 p hp with e | ⟨m, ne⟩
      · exact .inl e
      · exact .inr ⟨.tail _ m, ne⟩

section
variable {g h h' : Heap} {L a : Addr} {lo : List (Str × Value)} {own own' : List (Addr × Obj)} {o o' : Obj}

theorem St.at (S : St g L h lo own) (hm : (a, o) ∈ own) : h.get? a = some o := (S.nw _ hm).1
theorem St.ltL (S : St g L h lo own) : L < h.objs.size := by
  obtain ⟨m, F, _⟩ := S.fr
  exact F.ns.lt
theorem St.gkeep (S : St g L h lo own) : ∀ b ob, g.get? b = some ob → h.get? b = some ob := by
  obtain ⟨m, F, _⟩ := S.fr
  exact F.keep
theorem St.upd (S : St g L h lo own) (U : At a o o' own own') (hs : Heap.ExtBut a h h') (ho : h'.get? a = some o') : St g L h' lo own' := by
  obtain ⟨m, F, hl⟩ := S.fr
  obtain ⟨h1, h2, h3⟩ := S.nw _ U.mem
  refine ⟨⟨m, ⟨F.ns.extBut hs (Ne.symm h2), fun b ob e => hs b ob (fun q => ?_) (F.keep b ob e), F.above⟩, hl⟩, fun p hp => ?_, U.keys ▸ S.nd⟩
  · rw [q, h3] at e; cases e
  · rcases U.split S.nd p hp with rfl | ⟨m, ne⟩
    · exact ⟨ho, h2, h3⟩
    · have z := S.nw _ m
      exact ⟨hs _ _ ne z.1, z.2⟩
theorem St.keeps (S : St g L h lo own) (k : ∀ b ob, h.get? b = some ob → h'.get? b = some ob) : St g L h' lo own := by
  obtain ⟨m, F, hl⟩ := S.fr
  exact ⟨⟨m, F.keeps k, hl⟩, fun p hp => ⟨k _ _ (S.nw p hp).1, (S.nw p hp).2⟩, S.nd⟩
theorem St.gnone (S : St g L h lo own) (hn : h.get? a = none) : g.get? a = none := by
  cases q : g.get? a with
  | none => rfl
  | some ob => have := S.gkeep _ _ q; rw [hn] at this; cases this
theorem St.new (S : St g L h lo own) (k : ∀ b ob, h.get? b = some ob → h'.get? b = some ob) (hn : h.get? a = none) (ho : h'.get? a = some o) : St g L h' lo ((a, o) :: own) := by
  obtain ⟨m, F, hl⟩ := S.fr
  refine ⟨⟨m, F.keeps k, hl⟩, fun p hp => ?_, ?_⟩
  · rcases List.mem_cons.mp hp with rfl | hp
    · refine ⟨ho, fun e => ?_, S.gnone hn⟩
      obtain ⟨oL, _, _, hL, _⟩ := F.ns
      dsimp only at e
      rw [← e, hn] at hL; cases hL
    · exact ⟨k _ _ (S.nw p hp).1, (S.nw p hp).2⟩
  · rw [List.map_cons, List.nodup_cons]
    refine ⟨fun hm => ?_, S.nd⟩
    obtain ⟨p, hp, e⟩ := List.mem_map.mp hm
    have := (S.nw p hp).1
    dsimp only at e
    rw [e, hn] at this; cases this
theorem St.push (S : St g L h lo own) (hf : o.isFreed = false := by rfl) : St g L (h.push o) lo ((h.objs.size, o) :: own) :=
  S.new (fun _ _ e => Heap.get?_push_of_some _ e) (Heap.get?_none_of_le (Nat.le_refl _)) (Heap.get?_push_size _ hf)
theorem St.set (S : St g L h lo own) {x : Str} {v : Value} {h' : Heap} {m : Str → Option Value} (hm : ∀ y v, lo.lookup y = some v → m y = some v)
    (hn : h'.Ns L (fun y => if y = x then some v else m y)) (hs : Heap.SameBut L h h') : St g L h' ((x, v) :: lo) own := by
  obtain ⟨m', F, _⟩ := S.fr
  refine ⟨⟨_, F.set hn hs, fun y u e => ?_⟩, S.nw.set hs, S.nd⟩
  rw [List.lookup_cons] at e
  by_cases q : y = x
  · subst q
    rw [if_pos rfl]
    simpa using e
  · rw [if_neg q]
    have : (y == x) = false := by simpa using q
    rw [this] at e
    exact hm y u e
theorem St.low (S : St g L h lo own) {lo' : List (Str × Value)} (hl : ∀ x v, lo'.lookup x = some v → lo.lookup x = some v) : St g L h lo' own := by
  obtain ⟨m, F, q⟩ := S.fr
  exact ⟨⟨m, F, fun x v e => q x v (hl x v e)⟩, S.nw, S.nd⟩
theorem St.sub (S : St g L h lo own) (hm : ∀ p ∈ own', p ∈ own) (hn : (own'.map (·.1)).Nodup) : St g L h lo own' := ⟨S.fr, fun p hp => S.nw p (hm p hp), hn⟩
theorem lo_nil {lo : List (Str × Value)} : ∀ x v, ([] : List (Str × Value)).lookup x = some v → lo.lookup x = some v := fun _ _ e => by cases e
theorem lo_cons {lo r : List (Str × Value)} {y : Str} {u : Value} (e : lo.lookup y = some u) (hr : ∀ x v, r.lookup x = some v → lo.lookup x = some v) :
    ∀ x v, ((y, u) :: r).lookup x = some v → lo.lookup x = some v := fun x v q => by
  rw [List.lookup_cons] at q
  by_cases z : x = y
  · subst z
    have : v = u := by simpa using q.symm
    rw [this]; exact e
  · have : (x == y) = false := by simpa using z
    rw [this] at q
    exact hr x v q
end
end Mine

namespace Mine

abbrev tupOf (vs : List Value) : Obj := { cls := .type "tuple", data := .seq vs.toArray }
abbrev sliceOf (l u s : Value) : Obj := { cls := .type "slice", data := .fields #[l, u, s] }

section names
variable {M : Model} {A : Around} {E : Value → Shared → Prop} {g h : Heap} {L a : Addr} {lo : List (Str × Value)} {own : List (Addr × Obj)} {G : Array GenState} {D : Drawn} {tk : Nat} {O : OsState}
  {K : Frag} {mg mb : Str → Option Value} {p : Program} {loose : List Str} {cn : Str} {cs : Scope} {ccd : Value} {cl : List (Str × Addr)} {x : Str} {pos : Pos} {v : Value} {c : Addr} {o : Obj}

theorem m_local {Q : Value → Shared → Prop} (S : St g L h lo own) (hv : lo.lookup x = some v) (hx : (envX cn cs L a ccd cl).kindOf x = some .local) (hk : cs.kind = .function) (hd : (x == ("__debug__" : Str)) = false)
    (q : Q v ⟨h, G, D, tk, O⟩) : wpAny M A (eval (.Name x pos) (envX cn cs L a ccd cl)) Q E ⟨h, G, D, tk, O⟩ := by
  obtain ⟨m, F, hl⟩ := S.fr
  exact wpAny_Name (wpAny_loadName_local hk hx F.ns (hl _ _ hv) q) hd
theorem m_load {Q : Value → Shared → Prop} (S : St g L h lo own) (hv : lo.lookup x = some v) (hx : (envX cn cs L a ccd cl).kindOf x = some .local) (hk : cs.kind = .function)
    (q : Q v ⟨h, G, D, tk, O⟩) : wpAny M A (loadName (envX cn cs L a ccd cl) x) Q E ⟨h, G, D, tk, O⟩ := by
  obtain ⟨m, F, hl⟩ := S.fr
  exact wpAny_loadName_local hk hx F.ns (hl _ _ hv) q
theorem m_cell {Q : Value → Shared → Prop} (S : St g L h lo own) (hx : (envX cn cs L a ccd cl).kindOf x = some .cell) (hk : cs.kind = .function) (hd : (x == ("__debug__" : Str)) = false)
    (hc : cl.lookup x = some c) (hm : (c, o) ∈ own) (ho : o.data = .cell (some v))
    (q : Q v ⟨h, G, D, tk, O⟩) : wpAny M A (eval (.Name x pos) (envX cn cs L a ccd cl)) Q E ⟨h, G, D, tk, O⟩ :=
  wpAny_Name (wpAny_loadName_cell hk hx hc ⟨o, S.at hm, ho⟩ q) hd
theorem m_free {Q : Value → Shared → Prop} (S : St g L h lo own) (hx : (envX cn cs L a ccd cl).kindOf x = some .free) (hk : cs.kind = .function) (hd : (x == ("__debug__" : Str)) = false) (hn : (x == ("__classdict__" : Str)) = false)
    (hc : cl.lookup x = some c) (hm : (c, o) ∈ own) (ho : o.data = .cell (some v))
    (q : Q v ⟨h, G, D, tk, O⟩) : wpAny M A (eval (.Name x pos) (envX cn cs L a ccd cl)) Q E ⟨h, G, D, tk, O⟩ :=
  wpAny_Name (wpAny_loadName_free hk hx hc ⟨o, S.at hm, ho⟩ q hn) hd
theorem m_glob {Q : Value → Shared → Prop} (S : St g L h lo own) (hx : (envX cn cs L a ccd cl).kindOf x = some .globalImplicit) (hk : cs.kind = .function) (hd : (x == ("__debug__" : Str)) = false)
    (X : K.In g) (T : TopRead p loose mg mb g) (e : nsIn K mainGlobals x = some (some v))
    (q : Q v ⟨h, G, D, tk, O⟩) : wpAny M A (eval (.Name x pos) (envX cn cs L a ccd cl)) Q E ⟨h, G, D, tk, O⟩ := by
  obtain ⟨m, F, hl⟩ := S.fr
  exact nameX_K F X T e q hk hx hd
theorem m_blt {Q : Value → Shared → Prop} (S : St g L h lo own) (hx : (envX cn cs L a ccd cl).kindOf x = some .globalImplicit) (hk : cs.kind = .function) (hd : (x == ("__debug__" : Str)) = false) (hn : x ≠ "__name__")
    (X : K.In g) (T : TopRead p loose mg mb g) (e : nsIn K mainGlobals x = some none) (hv : bootBuiltins x = some v)
    (q : Q v ⟨h, G, D, tk, O⟩) : wpAny M A (eval (.Name x pos) (envX cn cs L a ccd cl)) Q E ⟨h, G, D, tk, O⟩ := by
  obtain ⟨m, F, hl⟩ := S.fr
  exact nameX_B F X T e hv hn q hk hx hd
theorem m_store {Q : Unit → Shared → Prop} (S : St g L h lo own) (hx : (envX cn cs L a ccd cl).kindOf x = some .local) (hk : cs.kind = .function)
    (q : ∀ h' tk', St g L h' ((x, v) :: lo) own → Q () ⟨h', G, D, tk', O⟩) : wpAny M A (storeName (envX cn cs L a ccd cl) x v) Q E ⟨h, G, D, tk, O⟩ := by
  obtain ⟨m, F, hl⟩ := S.fr
  exact wpAny_storeName_local hx F.ns (fun h' hn hs => q h' _ (S.set hl hn hs)) (by show (cs.kind == .class || (cs.kind == .module && L != mainGlobals)) = false; rw [hk]; rfl)
end names

section syntax_
variable {M : Model} {A : Around} {E : Value → Shared → Prop} {s : Shared} {env : Env}

theorem m_execs_cons {st : Stmt} {rest : List Stmt} {Q : Flow → Shared → Prop}
    (h : wpAny M A (exec st env) (fun f s' => match f with | .next => wpAny M A (execs rest env) Q E s' | f => Q f s') E s) : wpAny M A (execs (st :: rest) env) Q E s := wpAny_execs_cons h
theorem m_Assign_Name {x : Str} {pos' pos : Pos} {value : Expr} {Q : Flow → Shared → Prop} (hs : swapsWith value (some (Expr.Name x pos')) pos.line env = pure false)
    (h : wpAny M A (eval value env) (fun v s₁ => wpAny M A (storeName env x v) (fun _ => Q .next) E s₁) E s) : wpAny M A (exec (.Assign [.Name x pos'] value pos) env) Q E s := wpAny_Assign_Name h hs
theorem m_Assign_Attr {o : Expr} {attr : Str} {pos' pos : Pos} {value : Expr} {Q : Flow → Shared → Prop} (hs : swapsWith value (some (Expr.Attribute o attr pos')) pos.line env = pure false)
    (h : wpAny M A (eval value env) (fun v s₁ => wpAny M A (eval o env) (fun ov s₂ => wpAny M A (setAttr ov attr v) (fun _ => Q .next) E s₂) E s₁) E s) : wpAny M A (exec (.Assign [.Attribute o attr pos'] value pos) env) Q E s :=
  plainObj_wpAny_Assign_Attribute h hs
theorem m_Assign_Sub {o i : Expr} {pos' pos : Pos} {value : Expr} {Q : Flow → Shared → Prop} (hs : swapsWith value (some (Expr.Subscript o i pos')) pos.line env = pure false)
    (h : wpAny M A (eval value env) (fun v s₁ => wpAny M A (eval o env) (fun ov s₂ => wpAny M A (eval i env) (fun iv s₃ => wpAny M A (setItem ov iv v) (fun _ => Q .next) E s₃) E s₂) E s₁) E s) :
    wpAny M A (exec (.Assign [.Subscript o i pos'] value pos) env) Q E s := wpAny_Assign_Subscript h hs
theorem m_Assign_Tuple {elts : List Expr} {k : Nat} {tpos pos : Pos} {value : Expr} {Q : Flow → Shared → Prop} (hs : swapsWithSole [Expr.Tuple elts k tpos] value pos.line env = pure false) (hw : swappedStores [Expr.Tuple elts k tpos] value env = pure none)
    (h : wpAny M A (eval value env) (fun v s₁ => wpAny M A (assign (.Tuple elts k tpos) env v) (fun _ => Q .next) E s₁) E s) : wpAny M A (exec (.Assign [.Tuple elts k tpos] value pos) env) Q E s := Assign_Tuple h hs hw
theorem m_Expr {e : Expr} {pos : Pos} {Q : Flow → Shared → Prop} (hi : interactive env = false) (hs : swapsWith e none pos.line env = pure false)
    (h : wpAny M A (eval e env) (fun v s' => match v with | .ref _ => False | _ => Q .next s') E s) : wpAny M A (exec (.Expr e pos) env) Q E s := wpAny_Expr h hi hs
theorem m_AugSub {o i value : Expr} {pos' pos : Pos} {op : Operator} {Q : Flow → Shared → Prop}
    (hs : ∀ ov iv new : Value, augStore i ov iv new = (do holding [new, ov, iv] (setItem ov iv new); release [new, ov, iv] []; pure Flow.next))
    (h : wpAny M A (eval o env) (fun ov s₁ => wpAny M A (eval i env) (fun iv s₂ => wpAny M A (getItem ov iv) (fun old s₃ => wpAny M A (eval value env) (fun v s₄ =>
      wpAny M A (inplaceOp op old v) (fun new s₅ => wpAny M A (setItem ov iv new) (fun _ => Q .next) E s₅) E s₄) E s₃) E s₂) E s₁) E s) :
    wpAny M A (exec (.AugAssign (.Subscript o i pos') op value pos) env) Q E s := wpAny_AugAssign_Subscript_any h hs
theorem m_isTrue_Compare {l r : Expr} {op : CmpOp} {pos : Pos} {whole : Sem Value} {Q : Bool → Shared → Prop} (hb : behindInMarks op r = false)
    (h : wpAny M A (eval l env) (fun a s₁ => wpAny M A (eval r env) (fun b s₂ => wpAny M A (compareOp op a b) (fun c s₃ => wpAny M A (truthy c) Q E s₃) E s₂) E s₁) E s) :
    wpAny M A (isTrue (.Compare l [op] [r] pos) env whole) Q E s := wpAny_isTrue_Compare1 h hb
theorem m_Compare {l r : Expr} {op : CmpOp} {pos : Pos} {Q : Value → Shared → Prop} (hb : behindInMarks op r = false)
    (h : wpAny M A (eval l env) (fun a s₁ => wpAny M A (eval r env) (fun b s₂ => wpAny M A (compareOp op a b) Q E s₂) E s₁) E s) :
    wpAny M A (eval (.Compare l [op] [r] pos) env) Q E s := wpAny_Compare1 h hb
theorem m_isTrue_plain {e : Expr} {whole : Sem Value} {Q : Bool → Shared → Prop} (hp : isTrue e env whole = (do let v ← whole; standAt e.pos; holding [v] (truthy v)))
    (h : wpAny M A whole (fun v s₁ => wpAny M A (truthy v) Q E s₁) E s) : wpAny M A (isTrue e env whole) Q E s := isTrue_plain h hp
theorem m_Call {func : Expr} {args : List Expr} {pos : Pos} {Q : Value → Shared → Prop}
    (hc : eval (.Call func args [] pos) env = (do callWith pos (← eval func env) [] (backTo pos (starEach args env)) (backToKw pos (keywordEach [] env))))
    (h : wpAny M A (eval func env) (fun f s₁ => wpAny M A (callWith pos f [] (backTo pos (starEach args env)) []) Q E s₁) E s) : wpAny M A (eval (.Call func args [] pos) env) Q E s := Call_ h hc
theorem m_cw_builtin {id : String} {e : Expr} {rest : List Expr} {pos : Pos} {Q : Value → Shared → Prop}
    (hs : starEach (e :: rest) env = (false, eval e env) :: starEach rest env) (hp : ((backTo pos (starEach rest env)).any fun x => x.1) = false)
    (h : wpAny M A (spliced (backTo pos (starEach (e :: rest) env))) (fun vs s₁ => wpAny M A (call (.builtin id) vs) Q E s₁) E s) :
    wpAny M A (callWith pos (.builtin id) [] (backTo pos (starEach (e :: rest) env)) []) Q E s := PyProof.Rows.callWith_builtin1 h hs hp
theorem m_cw_type {T : String} {e : Expr} {rest : List Expr} {pos : Pos} {Q : Value → Shared → Prop}
    (hs : starEach (e :: rest) env = (false, eval e env) :: starEach rest env) (hp : ((backTo pos (starEach rest env)).any fun x => x.1) = false)
    (h : wpAny M A (spliced (backTo pos (starEach (e :: rest) env))) (fun vs s₁ => wpAny M A (call (.type T) vs) Q E s₁) E s) :
    wpAny M A (callWith pos (.type T) [] (backTo pos (starEach (e :: rest) env)) []) Q E s := PyProof.Rows.callWith_type1 h hs hp
theorem m_cw_method {id : String} {first : List Value} {e : Expr} {rest : List Expr} {pos : Pos} {Q : Value → Shared → Prop}
    (hs : starEach (e :: rest) env = (false, eval e env) :: starEach rest env) (hp : ((backTo pos (starEach rest env)).any fun x => x.1) = false)
    (h : wpAny M A (spliced (backTo pos (starEach (e :: rest) env))) (fun vs s₁ => wpAny M A (call (.builtin id) (first ++ vs)) Q E s₁) E s) :
    wpAny M A (callWith pos (.builtin id) first (backTo pos (starEach (e :: rest) env)) []) Q E s := callWith_method1 h hs hp
theorem m_Method {o : Expr} {name : Str} {apos pos : Pos} {args : List Expr} {pl : Sem Bool} {Q : Value → Shared → Prop}
    (hc : eval (.Call (.Attribute o name apos) args [] pos) env = (do let ov ← eval o env; standAt (Pos.atName apos); let __x ← holding [ov] (getMethod ov name pl); match __x with | (f, first) => callWith pos f first (backTo pos (starEach args env)) []))
    (h : wpAny M A (eval o env) (fun ov s₁ => wpAny M A (getMethod ov name pl) (fun fx s₂ => wpAny M A (callWith pos fx.1 fx.2 (backTo pos (starEach args env)) []) Q E s₂) E s₁) E s) :
    wpAny M A (eval (.Call (.Attribute o name apos) args [] pos) env) Q E s := MethodCall_ h hc
theorem m_spliced_cons {e : Expr} {rest : List Expr} {pos : Pos} {Q : List Value → Shared → Prop} (hs : starEach (e :: rest) env = (false, eval e env) :: starEach rest env)
    (h : wpAny M A (eval e env) (fun v s₁ => wpAny M A (spliced (backTo pos (starEach rest env))) (fun vs s₂ => Q (v :: vs) s₂) E s₁) E s) : wpAny M A (spliced (backTo pos (starEach (e :: rest) env))) Q E s := spliced_more h hs
theorem m_evalPart_some {e : Expr} {Q : Value → Shared → Prop} (h : wpAny M A (eval e env) Q E s) : wpAny M A (evalPart (some e) env) Q E s := h
theorem m_evalPart_none {Q : Value → Shared → Prop} (h : Q .none s) : wpAny M A (evalPart none env) Q E s := wpAny_pure h
end syntax_
end Mine

namespace Mine

section
variable {prog : Program} {w : World} {A : Around} {E : Value → Shared → Prop} {g h : Heap} {L a b l sl : Addr} {lo : List (Str × Value)} {own own' : List (Addr × Obj)} {G : Array GenState} {D : Drawn} {tk : Nat} {O : OsState}
  {vs ws : List Value} {n m : Nat}

theorem isList_of (e : h.get? l = some (listOf vs.toArray n)) : h.IsList l vs.toArray := ⟨_, e, rfl, n, rfl⟩
theorem St.isList (S : St g L h lo own) (hm : (l, listOf vs.toArray n) ∈ own) : h.IsList l vs.toArray := isList_of (S.at hm)
theorem St.isTup (S : St g L h lo own) (hm : (l, tupOf vs) ∈ own) : IsTup h l vs.toArray := ⟨_, S.at hm, rfl, _, rfl⟩
theorem lt_fit {k : Nat} (h : k ≤ sizeLine) : ((k : Nat) : Int) < 2 ^ 63 := by have := sizeLine_eq; omega

theorem m_newList {Q : Value → Shared → Prop} (S : St g L h lo own) (hsz : vs.length ≤ sizeLine)
    (q : ∀ l h', St g L h' lo ((l, listOf vs.toArray 0) :: own) → Q (.ref l) ⟨h', G, D, tk, O⟩) : wpAny (model prog w) A (newList vs) Q E ⟨h, G, D, tk, O⟩ :=
  wpAny_newObj_type (q _ _ S.push) (by show vs.toArray.size ≤ sizeLine; rw [List.size_toArray]; exact hsz)
theorem m_newTuple {Q : Value → Shared → Prop} (S : St g L h lo own) (hsz : vs.length ≤ sizeLine)
    (q : ∀ l h', St g L h' lo ((l, tupOf vs) :: own) → Q (.ref l) ⟨h', G, D, tk, O⟩) : wpAny (model prog w) A (newTuple vs) Q E ⟨h, G, D, tk, O⟩ :=
  wpAny_newObj_type (q _ _ S.push) (by show vs.toArray.size ≤ sizeLine; rw [List.size_toArray]; exact hsz)
theorem m_slice {env : Env} {lower upper step : Option Expr} {pos : Pos} {Q : Value → Shared → Prop} {s : Shared}
    (q : wpAny (model prog w) A (evalPart lower env) (fun vl s₁ => wpAny (model prog w) A (evalPart upper env) (fun vu s₂ => wpAny (model prog w) A (evalPart step env) (fun vs s₃ =>
      Q (.ref s₃.heap.objs.size) { s₃ with heap := s₃.heap.push (sliceOf vl vu vs) }) E s₂) E s₁) E s) : wpAny (model prog w) A (eval (.Slice lower upper step pos) env) Q E s := wpAny_Slice q
theorem m_append {Q : Value → Shared → Prop} {x : Value} (S : St g L h lo own) (U : At l (listOf vs.toArray n) (listOf (vs ++ [x]).toArray (n + 1)) own own') (hsz : vs.length ≤ sizeLine)
    (q : ∀ h', St g L h' lo own' → Q .none ⟨h', G, D, tk, O⟩) : wpAny (model prog w) A (call (.builtin "list.append") [.ref l, x]) Q E ⟨h, G, D, tk, O⟩ :=
  append_at (S.at U.mem) (fun h' hs ho => q h' (S.upd U hs.extBut (by rw [ho]; simp))) (by rw [List.size_toArray]; exact hsz)
theorem m_len {Q : Value → Shared → Prop} (S : St g L h lo own) (hm : (l, listOf vs.toArray n) ∈ own) (hsz : vs.length ≤ sizeLine)
    (q : ∀ t tk', Q (.int vs.length t) ⟨h, G, D, tk', O⟩) : wpAny (model prog w) A (call (.builtin "len") [.ref l]) Q E ⟨h, G, D, tk, O⟩ := by
  refine call_len_list (S.isList hm) (by rw [List.size_toArray]; exact lt_fit hsz) ?_
  rw [List.size_toArray]; exact q _ _
theorem m_truthy_list {Q : Bool → Shared → Prop} (S : St g L h lo own) (hm : (l, listOf vs.toArray n) ∈ own) (hsz : vs.length ≤ sizeLine)
    (q : ∀ tk', Q (!vs.isEmpty) ⟨h, G, D, tk', O⟩) : wpAny (model prog w) A (truthy (.ref l)) Q E ⟨h, G, D, tk, O⟩ :=
  wpAny_truthy_list (S.isList hm) (by rw [List.size_toArray]; exact lt_fit hsz) (by
    have e : (!vs.toArray.isEmpty) = !vs.isEmpty := by cases vs <;> simp
    rw [e]; exact q _)
theorem m_idx {value slice : Expr} {k : Int} {u : Tok} {x : Value} {Q : Value → Shared → Prop} (S : St g L h lo own) (hm : (l, listOf vs.toArray n) ∈ own) (hsz : vs.length ≤ sizeLine) (h0 : 0 ≤ k) (hx : vs[k.toNat]? = some x)
    (hs : subscripted slice false (.ref l) (.int k u) = operate [.ref l, .int k u] (getItem (.ref l) (.int k u)))
    (q : Q x ⟨h, G, D, tk, O⟩) : wpAny (model prog w) A (subscriptTail value slice (.ref l) (.int k u)) Q E ⟨h, G, D, tk, O⟩ := by
  have hk : k.toNat < vs.length := (List.getElem?_eq_some_iff.mp hx).1
  have := lt_fit hsz
  exact tail_any (S.isList hm).typeIs slot_list_getitem.lookup (wpAny_getItem_list (S.isList hm) h0 (by omega) (by simpa using hx) q) hs
theorem m_getItem_list {k : Int} {u : Tok} {x : Value} {Q : Value → Shared → Prop} (S : St g L h lo own) (hm : (l, listOf vs.toArray n) ∈ own) (hsz : vs.length ≤ sizeLine) (h0 : 0 ≤ k) (hx : vs[k.toNat]? = some x)
    (q : Q x ⟨h, G, D, tk, O⟩) : wpAny (model prog w) A (getItem (.ref l) (.int k u)) Q E ⟨h, G, D, tk, O⟩ := by
  have hk : k.toNat < vs.length := (List.getElem?_eq_some_iff.mp hx).1
  have := lt_fit hsz
  exact wpAny_getItem_list (S.isList hm) h0 (by omega) (by simpa using hx) q
theorem m_tidx {value slice : Expr} {k : Int} {u : Tok} {x : Value} {Q : Value → Shared → Prop} (S : St g L h lo own) (hm : (l, tupOf vs) ∈ own) (hsz : vs.length ≤ sizeLine) (h0 : 0 ≤ k) (hx : vs[k.toNat]? = some x)
    (hs : subscripted slice false (.ref l) (.int k u) = operate [.ref l, .int k u] (getItem (.ref l) (.int k u)))
    (q : Q x ⟨h, G, D, tk, O⟩) : wpAny (model prog w) A (subscriptTail value slice (.ref l) (.int k u)) Q E ⟨h, G, D, tk, O⟩ := by
  have hk : k.toNat < vs.length := (List.getElem?_eq_some_iff.mp hx).1
  have := lt_fit hsz
  have hj : seqIndex? k vs.toArray.size = some k.toNat := by
    have h1 : ¬ k < 0 := by omega
    have h2 : k < (vs.length : Int) := by omega
    simp [seqIndex?, h1, h0, h2]
  exact item_tupleT (S.isTup hm) (by omega) (by omega) hj (by simpa using hx) q hs
/-- a list's slice, its bounds written or counted -/
theorem m_cut {value slice : Expr} {vl vu : Value} {lb ub : Option Int} {Q : Value → Shared → Prop} (S : St g L h lo own) (hm : (l, listOf vs.toArray n) ∈ own) (hs : (sl, sliceOf vl vu .none) ∈ own) (pl : IsPart vl lb) (pu : IsPart vu ub) (hsz : vs.length ≤ sizeLine)
    (he : subscripted slice false (.ref l) (.ref sl) = operate [.ref sl, .ref l] (getItem (.ref l) (.ref sl))) {xs : List Value} (hx : slicePick vs.toArray lb ub none = xs.toArray)
    (q : ∀ r h', St g L h' lo ((r, listOf xs.toArray 0) :: own) → Q (.ref r) ⟨h', G, D, tk, O⟩) : wpAny (model prog w) A (subscriptTail value slice (.ref l) (.ref sl)) Q E ⟨h, G, D, tk, O⟩ :=
  tail_any (S.isList hm).typeIs slot_list_getitem.lookup (wpAny_getItem_list_slice (S.isList hm) ⟨_, S.at hs, rfl, rfl⟩ pl pu .none (by simp) (by rw [hx]; exact q _ _ S.push) (by rw [List.size_toArray]; exact hsz)) he
end

section
variable {prog : Program} {w : World} {A : Around} {E : Value → Shared → Prop} {h : Heap} {G : Array GenState} {D : Drawn} {tk : Nat} {O : OsState} {i j : Int} {t u : Tok} {x y : Str}
theorem m_int {k : Nat} {pos : Pos} {env : Env} {Q : Value → Shared → Prop} (q : ∀ t tk', Q (.int i t) ⟨h, G, D, tk', O⟩) : wpAny (model prog w) A (eval (.Constant (.int i) k pos) env) Q E ⟨h, G, D, tk, O⟩ := wpAny_Constant_int (q _ _)
theorem m_str {k : Nat} {pos : Pos} {env : Env} {Q : Value → Shared → Prop} (q : ∀ t tk', Q (.str x t) ⟨h, G, D, tk', O⟩) : wpAny (model prog w) A (eval (.Constant (.str x) k pos) env) Q E ⟨h, G, D, tk, O⟩ := Calls.Constant_str (q _ _)
theorem m_none {k : Nat} {pos : Pos} {env : Env} {s : Shared} {Q : Value → Shared → Prop} (q : Q .none s) : wpAny (model prog w) A (eval (.Constant .none k pos) env) Q E s := wpAny_pure q
theorem m_bool {k : Nat} {pos : Pos} {env : Env} {s : Shared} {b : Bool} {Q : Value → Shared → Prop} (q : Q (.bool b) s) : wpAny (model prog w) A (eval (.Constant (.bool b) k pos) env) Q E s := wpAny_pure q
theorem m_add {Q : Value → Shared → Prop} (q : ∀ t' tk', Q (.int (i + j) t') ⟨h, G, D, tk', O⟩) : wpAny (model prog w) A (binaryOp .Add (.int i t) (.int j u)) Q E ⟨h, G, D, tk, O⟩ := add_int (q _ _)
theorem m_sub {Q : Value → Shared → Prop} (q : ∀ t' tk', Q (.int (i - j) t') ⟨h, G, D, tk', O⟩) : wpAny (model prog w) A (binaryOp .Sub (.int i t) (.int j u)) Q E ⟨h, G, D, tk, O⟩ := sub_int (q _ _)
theorem m_iadd {Q : Value → Shared → Prop} (q : ∀ t' tk', Q (.int (i + j) t') ⟨h, G, D, tk', O⟩) : wpAny (model prog w) A (inplaceOp .Add (.int i t) (.int j u)) Q E ⟨h, G, D, tk, O⟩ := iadd_int (q _ _)
theorem m_lt {s : Shared} {Q : Value → Shared → Prop} (q : Q (.bool (decide (i < j))) s) : wpAny (model prog w) A (compareOp .Lt (.int i t) (.int j u)) Q E s := lt_int q
theorem m_gt {s : Shared} {Q : Value → Shared → Prop} (q : Q (.bool (decide (j < i))) s) : wpAny (model prog w) A (compareOp .Gt (.int i t) (.int j u)) Q E s := gt_int q
theorem m_eq {s : Shared} {Q : Value → Shared → Prop} (q : Q (.bool (i == j)) s) : wpAny (model prog w) A (compareOp .Eq (.int i t) (.int j u)) Q E s := eq_int q
theorem m_eqs {s : Shared} {Q : Value → Shared → Prop} (q : Q (.bool (x == y)) s) : wpAny (model prog w) A (compareOp .Eq (.str x t) (.str y u)) Q E s := PyProof.Rows.eq_str q
theorem m_ins {s : Shared} {Q : Value → Shared → Prop} (q : Q (.bool !List.isEmpty (Builtin.Str.occurrences x y 0 x.length 1)) s) : wpAny (model prog w) A (compareOp .In (.str y u) (.str x t)) Q E s := in_str q
theorem m_iadds {Q : Value → Shared → Prop} (hsz : x.length + y.length ≤ sizeLine) (q : ∀ t' tk', Q (.str (x ++ y) t') ⟨h, G, D, tk', O⟩) : wpAny (model prog w) A (inplaceOp .Add (.str x t) (.str y u)) Q E ⟨h, G, D, tk, O⟩ := iadd_str (fun t' tk' => q t' tk') hsz
theorem m_truthb {s : Shared} {b : Bool} {Q : Bool → Shared → Prop} (q : Q b s) : wpAny (model prog w) A (truthy (.bool b)) Q E s := wpAny_truthy_bool q
end
end Mine

namespace Mine

abbrev gOf (h : Heap) (own : List (Addr × Obj)) : Heap := hideAll h (own.map (·.1))
theorem gOf_get {h : Heap} {own : List (Addr × Obj)} {b : Addr} {o : Obj} (e : (gOf h own).get? b = some o) : h.get? b = some o := of_hideAll _ e
theorem gOf_keep {h : Heap} {own : List (Addr × Obj)} {b : Addr} {o : Obj} (e : h.get? b = some o) (hn : b ∉ own.map (·.1)) : (gOf h own).get? b = some o := hideAll_get _ e hn

/-- the callee's first state -/
theorem st_start {h h₁ : Heap} {own : List (Addr × Obj)} {binds : List (Str × Value)} (hown : ∀ p ∈ own, h.get? p.1 = some p.2) (hnd : (own.map (·.1)).Nodup)
    (hns : h₁.Ns h.objs.size (fun y => binds.reverse.lookup y)) (hk : ∀ b o, h.get? b = some o → h₁.get? b = some o) : St (gOf h own) h.objs.size h₁ binds.reverse own :=
  ⟨⟨_, ⟨hns, fun b o e => hk b o (gOf_get e), Nat.le_of_eq (hideAll_size _ _)⟩, fun _ _ e => e⟩,
    fun p hp => ⟨hk _ _ (hown p hp), Nat.ne_of_lt (Heap.lt_size (hown p hp)), hideAll_none _ (List.mem_map_of_mem hp)⟩, hnd⟩

/-- what the callee leaves: all that was, but its own -/
theorem St.back {h h' : Heap} {L : Addr} {lo : List (Str × Value)} {own own' : List (Addr × Obj)} (S : St (gOf h own) L h' lo own') (hm : ∀ p ∈ own, p ∈ own') (hown : ∀ p ∈ own, h.get? p.1 = some p.2) :
    ∀ b o, h.get? b = some o → h'.get? b = some o := fun b o e => by
  by_cases q : b ∈ own.map (·.1)
  · obtain ⟨p, hp, rfl⟩ := List.mem_map.mp q
    have z := hown p hp
    rw [e] at z
    cases z
    exact (S.nw p (hm p hp)).1
  · exact S.gkeep b o (gOf_keep e q)
theorem St.keptBut {h h' : Heap} {L : Addr} {lo : List (Str × Value)} {own own' : List (Addr × Obj)} (S : St (gOf h own) L h' lo own') :
    ∀ b o, h.get? b = some o → b ∉ own.map (·.1) → h'.get? b = some o := fun b o e q => S.gkeep b o (gOf_keep e q)

section
variable {prog : Program} {w : World} {A : Around} {h : Heap} {G : Array GenState} {D : Drawn} {tk : Nat} {O : OsState} {K : Frag} {b0 : Heap}
  {R : Result → Shared → Prop} {name qual : Str} {params : Arguments} {body : List Stmt} {scope : Scope} {dV kV doc pm cdv ct oc : Value} {an od : Option Addr} {osl : Array (Option Value)} {f : Addr} {args : Args} {binds : List (Str × Value)} {own : List (Addr × Obj)}

theorem m_enter (X : K.In b0) (hlim : b0.NoLimit) (hb : b0.StaysIn h) (hown : ∀ p ∈ own, h.get? p.1 = some p.2) (hnd : (own.map (·.1)).Nodup)
    (ho : K.lookup f = some ⟨oc, od, .func (fnX name qual params body scope [] dV kV doc pm an cdv ct), osl⟩) (hcd : codeIn K cdv qual = true) (hroom : A.depth < recursionLimit)
    (hbind : BindsTo ⟨h, G, D, tk, O⟩ (fnX name qual params body scope [] dV kV doc pm an cdv ct) args binds) (hloc : ∀ y ∈ binds, scope.names.lookup y.1 = some .local)
    (hcell : ∀ x ∈ scope.names, x.2 ≠ .cell) (hco : scope.isCoroutine = false) (hgen : scope.isGenerator = false) (hk : scope.kind = .function)
    (q : ∀ L h₁ tk₁, L = h.objs.size → (∀ b o, h.get? b = some o → h₁.get? b = some o) → St (gOf h own) L h₁ binds.reverse own →
      wpAny (model prog w) (A.deeper (envX qual scope L f cdv [])) (execs body (envX qual scope L f cdv []))
        (fun fl s' => R (.ok (.ret (match fl with | .ret v => v | _ => .none))) s')
        (fun e s' => wpAny (model prog w) (A.deeper (envX qual scope L f cdv [])) (leaving (envX qual scope L f cdv []) e) (fun _ s'' => R (.error e) s'') (fun e' s'' => R (.error e') s'') s')
        ⟨h₁, G, D, tk₁, O⟩) : codeAny (model prog w) A (.call (.ref f) args) R ⟨h, G, D, tk, O⟩ :=
  codeAny_call_def (fd := fnX name qual params body scope [] dV kV doc pm an cdv ct) (body := body) (binds := binds) hroom (hb _ _ (X _ _ ho)) rfl (hlim.keeps hb) (codeRec_of (X.keeps hb) hcd) rfl hbind hcell hloc
    (fun h₁ hns hk₁ => q _ h₁ _ rfl hk₁ (st_start hown hnd hns hk₁)) hco hgen hk
end

theorem lk_hit {x : Str} {v : Value} {r : List (Str × Value)} : ((x, v) :: r).lookup x = some v := by simp [List.lookup_cons]
theorem lk_miss {x y : Str} {u : Value} {v : Option Value} {r : List (Str × Value)} (hn : (x == y) = false) (h : r.lookup x = v) : ((y, u) :: r).lookup x = v := by rw [List.lookup_cons, hn]; exact h
end Mine

namespace Mine

abbrev iterOf (l : Addr) (i : Nat) : Obj := { cls := .type "list_iterator", data := .fields #[.ref l, .int i 0] }
abbrev deadIter : Obj := { cls := .type "list_iterator", data := .fields #[.none, .none] }

section
variable {prog : Program} {w : World} {A : Around} {E : Value → Shared → Prop} {g h : Heap} {L a b l it sl t : Addr} {lo : List (Str × Value)} {own own' : List (Addr × Obj)} {G : Array GenState} {D : Drawn} {tk : Nat} {O : OsState}
  {vs ws : List Value} {n m i : Nat}

theorem m_eqd {x y : Value} {da db : PyData} {as bs : List Addr} {s : Shared} {Q : Value → Shared → Prop} (ra : Reads s.heap x da as) (rb : Reads s.heap y db bs) (ha : SeqAt.shaped da = true) (hb : SeqAt.shaped db = true) (hu : A.units + 64 < cLine)
    (q : Q (.bool (PyData.eqv da db)) s) : wpAny (model prog w) A (compareOp .Eq x y) Q E s := eq_dataH ra rb ha hb hu q
theorem m_ned {x y : Value} {da db : PyData} {as bs : List Addr} {s : Shared} {Q : Value → Shared → Prop} (ra : Reads s.heap x da as) (rb : Reads s.heap y db bs) (ha : SeqAt.shaped da = true) (hb : SeqAt.shaped db = true) (hu : A.units + 64 < cLine)
    (q : Q (.bool (!PyData.eqv da db)) s) : wpAny (model prog w) A (compareOp .NotEq x y) Q E s := ne_dataH ra rb ha hb hu q

theorem m_iter {Q : Value → Shared → Prop} (S : St g L h lo own) (hm : (l, listOf vs.toArray n) ∈ own)
    (q : ∀ it h', St g L h' lo ((it, iterOf l 0) :: own) → Q (.ref it) ⟨h', G, D, tk, O⟩) : wpAny (model prog w) A (pyIter (.ref l)) Q E ⟨h, G, D, tk, O⟩ :=
  wpAny_pyIter_list (S.isList hm) (q _ _ S.push)
theorem m_next {Q : Option Value → Shared → Prop} {x : Value} (S : St g L h lo own) (U : At it (iterOf l i) (iterOf l (i + 1)) own own') (hm : (l, listOf vs.toArray n) ∈ own) (hx : vs[i]? = some x)
    (q : ∀ h', St g L h' lo own' → Q (some x) ⟨h', G, D, tk, O⟩) : wpAny (model prog w) A (pyNext (.ref it)) Q E ⟨h, G, D, tk, O⟩ := by
  have ho := S.at U.mem
  unfold pyNext
  refine wpAny_bind (wpAny_attempt (wpAny_callSpecial?_slot (name := Str.ofString "__next__") (s := ⟨h, G, D, tk, O⟩) (⟨_, ho, rfl⟩ : Shared.TypeIs ⟨h, G, D, tk, O⟩ (.ref it) "list_iterator") slot_listiter_next
    (wpAny_call_entry slot_listiter_next ⟨_, ho, rfl⟩ entry_listiter_next ?_ (args_listiter_next _))))
  show wpAny _ _ (field (.ref it) 0 >>= _) _ _ _
  refine wpAny_bind (wpAny_field ho rfl (x := .ref l) rfl ?_)
  show wpAny _ _ (if (Value.ref l == Value.none) = true then _ else _) _ _ _
  rw [if_neg (show ¬ ((Value.ref l == Value.none) = true) from Bool.false_ne_true)]
  show wpAny _ _ (field (.ref it) 1 >>= _) _ _ _
  refine wpAny_bind (wpAny_field ho rfl (x := .int i 0) rfl ?_)
  show wpAny _ _ (seqItems? (.ref l) >>= _) _ _ _
  refine wpAny_bind (wpAny_seqItems (S.at hm) rfl ?_)
  have hx' : vs.toArray[i]? = some x := by simpa using hx
  simp only [Int.toNat_natCast, hx']
  refine wpAny_bind (wpAny_setField ho rfl (by show 1 < 2; decide) (wpAny_pure ⟨x, rfl, wpAny_pure (q _ ?_)⟩))
  refine S.upd U (Heap.SameBut.update ..).extBut ?_
  rw [Heap.get?_update_self _ ho rfl]
  simp [Obj.mapFields, rawInt]
theorem m_nextEnd {Q : Option Value → Shared → Prop} (S : St g L h lo own) (hh : A.handled = none) (hi : (it, iterOf l i) ∈ own) (hm : (l, listOf vs.toArray n) ∈ own) (hx : vs[i]? = none) (hs : ∀ p ∈ own', p ∈ own ∧ p.1 ≠ it) (hn : (own'.map (·.1)).Nodup)
    (q : ∀ h', St g L h' lo own' → Q none ⟨h', G, D, tk, O⟩) : wpAny (model prog w) A (pyNext (.ref it)) Q E ⟨h, G, D, tk, O⟩ := by
  refine wpAny_pyNext_list_end (s := ⟨h, G, D, tk, O⟩) hh ⟨_, S.at hi, rfl, rfl⟩ (S.isList hm) (by simpa using hx) fun h' he => q h' ?_
  obtain ⟨m, F, hl⟩ := S.fr
  have z := S.nw _ hi
  refine ⟨⟨m, ⟨F.ns.extBut he (Ne.symm z.2.1), fun b ob e => he b ob (fun q => ?_) (F.keep b ob e), F.above⟩, hl⟩, fun p hp => ?_, hn⟩
  · rw [q] at e; rw [z.2.2] at e; cases e
  · obtain ⟨h1, h2⟩ := hs p hp
    exact ⟨he _ _ h2 (S.nw _ h1).1, (S.nw _ h1).2⟩

theorem m_unpack {elts : List Expr} {k : Nat} {pos : Pos} {env : Env} {Q : Unit → Shared → Prop} (S : St g L h lo own) (hm : (t, tupOf vs) ∈ own) (hh : A.handled = none)
    (hn : (assignEach elts env).length = vs.length) (hstar : (assignEach elts env).findIdx? (·.1) = none)
    (q : ∀ h', St g L h' lo own → wpAny (model prog w) A (assignInOrder ((assignEach elts env).map (·.2)) vs) Q E ⟨h', G, D, tk, O⟩) :
    wpAny (model prog w) A (assign (.Tuple elts k pos) env (.ref t)) Q E ⟨h, G, D, tk, O⟩ := by
  refine assign_Tuple_tuple hh (S.isTup hm) (by simpa using hn) hstar fun h' he => ?_
  refine q h' (S.keeps fun b o e => he b o (Nat.ne_of_lt (Heap.lt_size e)) e)
theorem m_inOrder {x : Value} {xs : List Value} {f : Value → Sem Unit} {fs : List (Value → Sem Unit)} {s : Shared} {Q : Unit → Shared → Prop}
    (q : wpAny (model prog w) A (f x) (fun _ s' => wpAny (model prog w) A (assignInOrder fs xs) Q E s') E s) : wpAny (model prog w) A (assignInOrder (f :: fs) (x :: xs)) Q E s := by
  unfold assignInOrder
  exact wpAny_bind (wpAny_holding q)
theorem m_inOrder0 {s : Shared} {Q : Unit → Shared → Prop} (q : Q () s) : wpAny (model prog w) A (assignInOrder [] []) Q E s := wpAny_pure q
theorem m_assignName {x : Str} {pos : Pos} {v : Value} {env : Env} {s : Shared} {Q : Unit → Shared → Prop} (q : wpAny (model prog w) A (storeName env x v) Q E s) : wpAny (model prog w) A (assign (.Name x pos) env v) Q E s := wpAny_assign_Name q

theorem m_join {sep : Str} {t : Tok} {cs : List (Str × Tok)} {Q : Value → Shared → Prop} (S : St g L h lo own) (hm : (l, listOf (strValues cs).toArray n) ∈ own) (hok : JoinOk sep (cs.map (·.1)) = true)
    (q : ∀ t' tk', Q (.str (Txt.join sep (cs.map (·.1))) t') ⟨h, G, D, tk', O⟩) : wpAny (model prog w) A (call (.builtin "str.join") [.str sep t, .ref l]) Q E ⟨h, G, D, tk, O⟩ :=
  SC.join (S.isList hm) rfl hok fun t' k => q t' k

/-- the first two of three -/
theorem m_tcut2 {value slice : Expr} {u : Tok} {x y z : Value} {Q : Value → Shared → Prop} (S : St g L h lo own) (hm : (t, tupOf [x, y, z]) ∈ own) (hs : (sl, sliceOf .none (.int 2 u) .none) ∈ own)
    (he : subscripted slice false (.ref t) (.ref sl) = operate [.ref sl, .ref t] (getItem (.ref t) (.ref sl)))
    (q : ∀ r h', St g L h' lo ((r, tupOf [x, y]) :: own) → Q (.ref r) ⟨h', G, D, tk, O⟩) : wpAny (model prog w) A (subscriptTail value slice (.ref t) (.ref sl)) Q E ⟨h, G, D, tk, O⟩ := by
  refine tail_any (S.isTup hm).typeIs slot_tuple_getitem.lookup ?_ he
  have hos := S.at hs
  have ht := S.isTup hm
  have hTs : Shared.TypeIs ⟨h, G, D, tk, O⟩ (.ref sl) "slice" := ⟨_, hos, rfl⟩
  unfold getItem
  try with_reducible refine wpAny_holding ?_
  first | refine wpAny_bind (wpAny_pure ?_) | skip
  refine wpAny_bind (wpAny_sequenceKey (s := ⟨h, G, D, tk, O⟩) ht.typeIs (by decide) ?_)
  refine wpAny_bind (wpAny_callSpecial?_slot (name := Str.ofString "__getitem__") ht.typeIs slot_tuple_getitem
    (wpAny_call_entry slot_tuple_getitem ht.typeIs entry_tuple_getitem ?_ (args_tuple_getitem _ _)))
  show wpAny _ _ (Builtin.Tuple.tupleItemsOf (.ref t) >>= _) _ _ _
  refine wpAny_bind (tupleItemsOf_ ht ?_)
  refine wpAny_bind (wpAny_typeOf hTs ?_)
  rw [if_pos (by decide)]
  refine wpAny_bind ?_
  unfold Builtin.Slice.sliceApplied Builtin.Slice.sliceFields
  refine wpAny_bind (wpAny_bind (wpAny_field hos rfl (x := .none) rfl (wpAny_bind (wpAny_field hos rfl (x := .int 2 u) rfl (wpAny_bind (wpAny_field hos rfl (x := .none) rfl (wpAny_pure ?_)))))))
  refine wpAny_bind (slicePart_none ?_)
  show wpAny _ _ (if ((1 : Int) == 0) = true then _ else _) _ _ _
  rw [if_neg (by decide)]
  refine wpAny_bind (slicePart_none (wpAny_bind (slicePart_int (wpAny_bind (wpAny_pure ?_)))))
  have e1 : Builtin.Slice.sliceAdjust none (some 2) 1 ((#[x, y, z] : Array Value).size : Int) = (0, 2) := rfl
  have e2 : Builtin.Slice.slicePlaces 0 2 1 = 2 := rfl
  show wpAny _ _ (match Builtin.Slice.sliceAdjust none (some 2) 1 ((#[x, y, z] : Array Value).size : Int) with | (lo, hi) => pure (lo, (1 : Int), Builtin.Slice.slicePlaces lo hi 1)) _ _ _
  rw [e1]
  show wpAny _ _ (pure ((0 : Int), (1 : Int), Builtin.Slice.slicePlaces 0 2 1)) _ _ _
  rw [e2]
  refine wpAny_pure ?_
  show wpAny _ _ (if ((0 : Int) == 0 && (1 : Int) == 1 && (2 : Nat) == (#[x, y, z] : Array Value).size) = true then _ else _) _ _ _
  rw [if_neg (by simp)]
  have e3 : ((List.range 2).filterMap fun (k : Nat) => (#[x, y, z] : Array Value)[((0 : Int) + (k : Int) * 1).toNat]?).toArray = [x, y].toArray := rfl
  rw [show ((List.range 2).filterMap fun (k : Nat) => [x, y, z].toArray[((0 : Int) + (k : Int) * 1).toNat]?).toArray = [x, y].toArray from rfl]
  have hq := fun r h' S' => q r h' S'
  first
    | exact wpAny_bind (m := Builtin.Tuple.tupleExact _) (wpAny_newObj_type (wpAny_pure ⟨_, rfl, wpAny_pure (q _ _ S.push)⟩) (by show 2 ≤ sizeLine; exact Nat.le_of_ble_eq_true rfl))
    | exact wpAny_bind (m := Builtin.Tuple.tupleExact _) (wpAny_newObj_type (wpAny_bind (wpAny_pure (wpAny_pure ⟨_, rfl, wpAny_pure (q _ _ S.push)⟩))) (by show 2 ≤ sizeLine; exact Nat.le_of_ble_eq_true rfl))
    | exact wpAny_bind (wpAny_bind (m := Builtin.Tuple.tupleExact _) (wpAny_newObj_type (wpAny_pure (wpAny_pure ⟨_, rfl, wpAny_pure (q _ _ S.push)⟩)) (by show 2 ≤ sizeLine; exact Nat.le_of_ble_eq_true rfl)))
    | exact wpAny_bind (wpAny_bind (m := Builtin.Tuple.tupleExact _) (wpAny_newObj_type (wpAny_pure ⟨_, rfl, wpAny_pure (q _ _ S.push)⟩) (by show 2 ≤ sizeLine; exact Nat.le_of_ble_eq_true rfl)))
end
end Mine

namespace Mine

theorem sv_len (l : List (Str × Tok)) : (strValues l).length = l.length := by simp [strValues]
theorem sv_get (l : List (Str × Tok)) (i : Nat) : (strValues l)[i]? = (l[i]?).map fun p => Value.str p.1 p.2 := by simp [strValues]
theorem sv_drop (l : List (Str × Tok)) (i : Nat) : (strValues l).drop i = strValues (l.drop i) := by simp [strValues, List.map_drop]
theorem sv_take (l : List (Str × Tok)) (i : Nat) : (strValues l).take i = strValues (l.take i) := by simp [strValues, List.map_take]
theorem sv_append (l r : List (Str × Tok)) : strValues l ++ strValues r = strValues (l ++ r) := by simp [strValues]

/-- a cut between two counted places -/
theorem pick_nat (vs : List Value) (a b : Nat) : slicePick vs.toArray (some (a : Int)) (some (b : Int)) none = ((vs.drop a).take (b - a)).toArray := by
  rw [slicePick_plain]
  simp only [Option.elim, clipAt_nat, List.size_toArray]
  congr 1
  rcases Nat.le_total a vs.length with h | h
  · rw [Nat.min_eq_left h]
    rcases Nat.le_total b vs.length with h' | h'
    · rw [Nat.min_eq_left h']
    · rw [Nat.min_eq_right h', List.take_of_length_le (by simp), List.take_of_length_le (by simp; omega)]
  · rw [Nat.min_eq_right h]
    simp [List.drop_of_length_le h]
theorem pick_to (vs : List Value) (b : Nat) : slicePick vs.toArray none (some (b : Int)) none = (vs.take b).toArray := by rw [slicePick_upto']
theorem pick_from (vs : List Value) (a : Nat) : slicePick vs.toArray (some (a : Int)) none none = (vs.drop a).toArray := by rw [slicePick_from']

structure Mark where
  s : Str
  hop : Nat
  b : Nat
def bs : Str := "\\"
def marksOf : List Str → Nat → List Mark
  | [], _ => []
  | [c], i => if c == bs then [⟨Str.empty, 2, i + 2⟩] else [⟨c, 1, i + 1⟩]
  | c :: d :: r, i => if c == bs then ⟨d, 2, i + 2⟩ :: marksOf r (i + 2) else ⟨c, 1, i + 1⟩ :: marksOf (d :: r) (i + 1)
def inS (x y : Str) : Bool := !List.isEmpty (Builtin.Str.occurrences x y 0 x.length 1)
def wsL : Str := " \t\r\n"
def dropWs (ms : List Mark) : List Mark := ms.dropWhile fun m => decide (m.hop = 1) && inS wsL m.s
def scanM (ends : Str) : List Mark → Str → Str × Nat
  | [], tok => (tok, 0)
  | m :: r, tok => if decide (m.hop = 1) && inS ends m.s then (tok, m.b) else scanM ends r (tok ++ m.s)
def qt : Str := "\""
def readOf (cs : List Str) : Str × Nat := match dropWs (marksOf cs 0) with
  | [] => scanM wsL [] Str.empty
  | m :: r => if m.s == qt && decide (m.hop = 1) then scanM qt r Str.empty else scanM wsL (m :: r) Str.empty

/-- the ledger bears the marks -/
inductive Mk (ts : List (Addr × Obj)) : List Mark → List Value → Prop
  | nil : Mk ts [] []
  | cons {a : Addr} {m : Mark} {t1 t2 t3 : Tok} {ms : List Mark} {vs : List Value} : (a, tupOf [.str m.s t1, .int m.hop t2, .int m.b t3]) ∈ ts → Mk ts ms vs → Mk ts (m :: ms) (.ref a :: vs)
theorem Mk.mono {ts ts' : List (Addr × Obj)} {ms : List Mark} {vs : List Value} (H : Mk ts ms vs) (k : ∀ p ∈ ts, p ∈ ts') : Mk ts' ms vs := by
  induction H with
  | nil => exact .nil
  | cons hm _ ih => exact .cons (k _ hm) ih
theorem Mk.snoc {ts : List (Addr × Obj)} {ms : List Mark} {vs : List Value} {a : Addr} {m : Mark} {t1 t2 t3 : Tok} (H : Mk ts ms vs) (hm : (a, tupOf [.str m.s t1, .int m.hop t2, .int m.b t3]) ∈ ts) : Mk ts (ms ++ [m]) (vs ++ [.ref a]) := by
  induction H with
  | nil => exact .cons hm .nil
  | cons h _ ih => exact .cons h ih
theorem Mk.length {ts : List (Addr × Obj)} {ms : List Mark} {vs : List Value} (H : Mk ts ms vs) : vs.length = ms.length := by
  induction H with
  | nil => rfl
  | cons _ _ ih => simp [ih]
theorem Mk.reads {g h : Heap} {L : Addr} {lo : List (Str × Value)} {own ts : List (Addr × Obj)} {ms : List Mark} {vs : List Value} (S : St g L h lo own) (k : ∀ p ∈ ts, p ∈ own) (H : Mk ts ms vs) :
    ReadsAll h vs (ms.map fun m => PyData.tuple [.str m.s, .int m.hop, .int m.b]) [] := by
  induction H with
  | nil => exact .nil
  | cons hm _ ih => exact .cons (as := []) (reads_tuple_at (S.at (k _ hm)) rfl rfl (.cons (.str _ _) (.cons (.int _ _) (.cons (.int _ _) .nil)))) ih
end Mine
namespace Mine
theorem m_if {c : Prop} [Decidable c] {P Q : Prop} (h1 : c → P) (h2 : ¬ c → Q) : if decide c = true then P else Q := by
  by_cases h : c
  · simp only [h, decide_true, if_true]; exact h1 h
  · simp only [h, decide_false, Bool.false_eq_true, if_false]; exact h2 h
theorem m_ifb {b : Bool} {P Q : Prop} (h1 : b = true → P) (h2 : b = false → Q) : if b = true then P else Q := by
  cases b
  · simp only [Bool.false_eq_true, if_false]; exact h2 rfl
  · simp only [if_true]; exact h1 rfl
end Mine

namespace Mine

section
variable {prog : Program} {w : World} {A : Around} {E : Value → Shared → Prop} {g h : Heap} {L a b l it sl t : Addr} {lo : List (Str × Value)} {own own' : List (Addr × Obj)} {G : Array GenState} {D : Drawn} {tk : Nat} {O : OsState}
  {vs ws : List Value} {n m i : Nat}
theorem m_getAppend {pl : Sem Bool} {Q : Value × List Value → Shared → Prop} (S : St g L h lo own) (hm : (l, listOf vs.toArray n) ∈ own)
    (q : Q (.builtin "list.append", [.ref l]) ⟨h, G, D, tk, O⟩) : wpAny (model prog w) A (getMethod (.ref l) "append" pl) Q E ⟨h, G, D, tk, O⟩ := getMethod_list_append (S.at hm) rfl rfl q
theorem m_getJoin {pl : Sem Bool} {x : Str} {t : Tok} {s : Shared} {Q : Value × List Value → Shared → Prop} (q : Q (.builtin "str.join", [.str x t]) s) : wpAny (model prog w) A (getMethod (.str x t) "join" pl) Q E s := GM.join q
def newSlice (l u s : Value) : Sem Value := newFields "slice" [l, u, s]
theorem m_sliceP {env : Env} {lower upper step : Option Expr} {pos : Pos} {Q : Value → Shared → Prop} {s : Shared}
    (q : wpAny (model prog w) A (evalPart lower env) (fun vl s₁ => wpAny (model prog w) A (evalPart upper env) (fun vu s₂ => wpAny (model prog w) A (evalPart step env) (fun vs s₃ =>
      wpAny (model prog w) A (newSlice vl vu vs) Q E s₃) E s₂) E s₁) E s) : wpAny (model prog w) A (eval (.Slice lower upper step pos) env) Q E s := by
  rw [arm_eval_Slice]
  exact wpAny_bind (wpAny_mono q (fun l s₁ h₁ => wpAny_bind (wpAny_holding (wpAny_mono h₁ (fun u s₂ h₂ => wpAny_bind (wpAny_holding (wpAny_mono h₂ (fun st s₃ h₃ => h₃) fun _ _ x => x))) fun _ _ x => x))) fun _ _ x => x)
theorem m_newSlice {vl vu vt : Value} {Q : Value → Shared → Prop} (S : St g L h lo own) (q : ∀ sl h', St g L h' lo ((sl, sliceOf vl vu vt) :: own) → Q (.ref sl) ⟨h', G, D, tk, O⟩) : wpAny (model prog w) A (newSlice vl vu vt) Q E ⟨h, G, D, tk, O⟩ := by
  show wpAny _ _ (newObj (.type "slice") (.fields [vl, vu, vt].toArray)) _ _ _
  exact wpAny_newObj_type (q _ _ S.push) (by show 3 ≤ sizeLine + 2; exact Nat.le_of_ble_eq_true rfl)
/-- a list's cut between two counted places -/
theorem m_cutN {value slice : Expr} {i j : Int} {t u : Tok} {a b : Nat} {Q : Value → Shared → Prop} (S : St g L h lo own) (hm : (l, listOf vs.toArray n) ∈ own) (hs : (sl, sliceOf (.int i t) (.int j u) .none) ∈ own) (hsz : vs.length ≤ sizeLine) (ha : i = a) (hb : j = b)
    (he : subscripted slice false (.ref l) (.ref sl) = operate [.ref sl, .ref l] (getItem (.ref l) (.ref sl)))
    (q : ∀ r h', St g L h' lo ((r, listOf ((vs.drop a).take (b - a)).toArray 0) :: own) → Q (.ref r) ⟨h', G, D, tk, O⟩) : wpAny (model prog w) A (subscriptTail value slice (.ref l) (.ref sl)) Q E ⟨h, G, D, tk, O⟩ := by
  subst ha hb
  exact m_cut S hm hs (.int _ _) (.int _ _) hsz he (pick_nat vs a b) q
theorem m_cutTo {value slice : Expr} {j : Int} {u : Tok} {b : Nat} {Q : Value → Shared → Prop} (S : St g L h lo own) (hm : (l, listOf vs.toArray n) ∈ own) (hs : (sl, sliceOf .none (.int j u) .none) ∈ own) (hsz : vs.length ≤ sizeLine) (hb : j = b)
    (he : subscripted slice false (.ref l) (.ref sl) = operate [.ref sl, .ref l] (getItem (.ref l) (.ref sl)))
    (q : ∀ r h', St g L h' lo ((r, listOf (vs.take b).toArray 0) :: own) → Q (.ref r) ⟨h', G, D, tk, O⟩) : wpAny (model prog w) A (subscriptTail value slice (.ref l) (.ref sl)) Q E ⟨h, G, D, tk, O⟩ := by
  subst hb
  exact m_cut S hm hs .none (.int _ _) hsz he (pick_to vs b) q
theorem m_cutFrom {value slice : Expr} {i : Int} {t : Tok} {a : Nat} {Q : Value → Shared → Prop} (S : St g L h lo own) (hm : (l, listOf vs.toArray n) ∈ own) (hs : (sl, sliceOf (.int i t) .none .none) ∈ own) (hsz : vs.length ≤ sizeLine) (ha : i = a)
    (he : subscripted slice false (.ref l) (.ref sl) = operate [.ref sl, .ref l] (getItem (.ref l) (.ref sl)))
    (q : ∀ r h', St g L h' lo ((r, listOf (vs.drop a).toArray 0) :: own) → Q (.ref r) ⟨h', G, D, tk, O⟩) : wpAny (model prog w) A (subscriptTail value slice (.ref l) (.ref sl)) Q E ⟨h, G, D, tk, O⟩ := by
  subst ha
  exact m_cut S hm hs (.int _ _) .none hsz he (pick_from vs a) q
end
/-- a ledger put in another order, or cut -/
theorem St.pick {g h : Heap} {L : Addr} {lo : List (Str × Value)} {own own' : List (Addr × Obj)} (S : St g L h lo own) (hs : List.Sublist own' own) : St g L h lo own' :=
  ⟨S.fr, fun p hp => S.nw p (hs.subset hp), List.Nodup.sublist (hs.map _) S.nd⟩
theorem St.perm {g h : Heap} {L : Addr} {lo : List (Str × Value)} {own own' : List (Addr × Obj)} (S : St g L h lo own) (hp : List.Perm own own') : St g L h lo own' :=
  ⟨S.fr, fun p h => S.nw p (hp.mem_iff.mpr h), (hp.map _).nodup_iff.mp S.nd⟩
/-- the entry of an address first -/
theorem St.first {g h : Heap} {L : Addr} {lo : List (Str × Value)} {own : List (Addr × Obj)} {p : Addr × Obj} {pre post : List (Addr × Obj)} (S : St g L h lo own) (e : own = pre ++ p :: post) : St g L h lo (p :: (pre ++ post)) :=
  S.perm (e ▸ List.perm_middle)
end Mine

namespace Mine

theorem joinOk_small (l : List Str) (hl : l.length ≤ 64) (hs : ∀ x ∈ l, x.length ≤ 8) : JoinOk Str.empty l = true := by
  have key : ∀ (l : List Str) (a : Nat), (∀ x ∈ l, x.length ≤ 8) → l.foldl (fun n x => n + x.length + Str.empty.length) a ≤ a + 8 * l.length := by
    intro l
    induction l with
    | nil => intro a _; simp
    | cons x r ih =>
      intro a hs
      have h1 := hs x (.head _)
      have h2 := ih (a + x.length + Str.empty.length) (fun y hy => hs y (.tail _ hy))
      have h3 : Str.empty.length = 0 := rfl
      simp only [List.foldl_cons, List.length_cons]
      omega
  have k := key l 0 hs
  have sz := sizeLine_eq
  unfold JoinOk Builtin.Str.tooLong
  rw [List.foldl_toArray]
  simp only [Bool.not_eq_true', decide_eq_false_iff_not]
  omega
theorem marks_two {cs : List Str} {i : Nat} {rest : List Str} (h : cs.drop i = bs :: rest) : marksOf (cs.drop i) i = ⟨Txt.join Str.empty (rest.take 1), 2, i + 2⟩ :: marksOf (cs.drop (i + 2)) (i + 2) := by
  have h2 : cs.drop (i + 2) = rest.drop 1 := by rw [← List.drop_drop, h]; rfl
  rw [h2, h]
  cases rest with
  | nil => rfl
  | cons d r => rfl
theorem marks_one {cs : List Str} {i : Nat} {c : Str} {rest : List Str} (h : cs.drop i = c :: rest) (hc : (c == bs) = false) : marksOf (cs.drop i) i = ⟨Txt.join Str.empty [c], 1, i + 1⟩ :: marksOf (cs.drop (i + 1)) (i + 1) := by
  have h2 : cs.drop (i + 1) = rest := by rw [← List.drop_drop, h]; rfl
  rw [h2, h]
  cases rest with
  | nil => simp only [marksOf, hc]; rfl
  | cons d r => simp only [marksOf, hc]; rfl
theorem rot2 {α : Type} (a b c : α) (r : List α) : List.Perm (a :: b :: c :: r) (b :: c :: a :: r) :=
  (List.Perm.swap b a (c :: r)).trans (.cons b (.swap c a r))
theorem Mk.snoc' {ts : List (Addr × Obj)} {ms : List Mark} {vs : List Value} {a : Addr} {s : Str} {hop b : Nat} {i1 i2 : Int} {t1 t2 t3 : Tok} (H : Mk ts ms vs) (hm : (a, tupOf [.str s t1, .int i1 t2, .int i2 t3]) ∈ ts) (e1 : i1 = (hop : Int)) (e2 : i2 = (b : Int)) : Mk ts (ms ++ [⟨s, hop, b⟩]) (vs ++ [.ref a]) := by
  subst e1 e2
  exact H.snoc (m := ⟨s, hop, b⟩) hm
theorem join_one (x : Str) : (Txt.join Str.empty [x]).length = x.length := rfl
structure OkS (x : Str) : Prop where
  len : x.length ≤ 8
  ok : PyData.strOk x = true
theorem marks_ok (l : List Str) (i : Nat) (hs : ∀ x ∈ l, OkS x) : ∀ m ∈ marksOf l i, OkS m.s := by
  fun_induction marksOf l i with
  | case1 => intro m hm; cases hm
  | case2 c i hc => intro m hm; rcases List.mem_singleton.mp hm with rfl; exact (⟨by decide, by decide +kernel⟩ : OkS Str.empty)
  | case3 c i hc => intro m hm; rcases List.mem_singleton.mp hm with rfl; exact hs _ (.head _)
  | case4 c i d r hc ih =>
    intro m hm
    rcases List.mem_cons.mp hm with rfl | hm
    · exact hs _ (.tail _ (.head _))
    · exact ih (fun x hx => hs x (.tail _ (.tail _ hx))) m hm
  | case5 c i d r hc ih =>
    intro m hm
    rcases List.mem_cons.mp hm with rfl | hm
    · exact hs _ (.head _)
    · exact ih (fun x hx => hs x (.tail _ hx)) m hm
abbrev markD (m : Mark) : PyData := .tuple [.str m.s, .int m.hop, .int m.b]
theorem marks_lay (ms : List Mark) (h : ∀ m ∈ ms, OkS m.s) : PyData.canLayAll0 (ms.map markD) = true ∧ PyData.depthAll (ms.map markD) ≤ 1 := by
  induction ms with
  | nil => exact ⟨rfl, by simp [PyData.depthAll]⟩
  | cons m r ih =>
    obtain ⟨h1, h2⟩ := ih (fun m hm => h m (.tail _ hm))
    have h3 := (h m (.head _)).ok
    constructor
    · simp [markD, PyData.canLayAll0, PyData.canLay0, h1, h3]
    · simp [markD, PyData.depthAll, PyData.depth, h2]
theorem marks_shaped (ms : List Mark) (h : ∀ m ∈ ms, OkS m.s) : SeqAt.shaped (.list (ms.map markD)) = true := by
  obtain ⟨h1, h2⟩ := marks_lay ms h
  have h3 : PyData.depth (.list (ms.map markD)) ≤ 64 := by simp only [PyData.depth]; omega
  have h4 : PyData.canLay0 (.list (ms.map markD)) = true := by simp only [PyData.canLay0, h1]
  simp only [SeqAt.shaped, h4, h3, Bool.true_and, decide_true]
theorem mark_eqv_nil (ms : List Mark) : PyData.eqv (.list (ms.map markD)) (.list []) = ms.isEmpty := by
  cases ms <;> simp [PyData.eqv, PyData.eqvAll]
theorem units_ok {A : Around} (h : A.units < 600) : A.units + 64 < cLine := by
  have : 5000 < cLine := by decide
  omega
theorem m_ned_marks {prog : Program} {w : World} {A : Around} {E : Value → Shared → Prop} {g h : Heap} {L l l0 : Addr} {lo : List (Str × Value)} {own ts : List (Addr × Obj)} {G : Array GenState} {D : Drawn} {tk : Nat} {O : OsState} {ms : List Mark} {mv : List Value} {n n0 : Nat} {Q : Value → Shared → Prop}
    (S : St g L h lo own) (h1 : (l, listOf mv.toArray n) ∈ own) (h0 : (l0, listOf ([] : List Value).toArray n0) ∈ own) (HM : Mk ts ms mv) (hk : ∀ p ∈ ts, p ∈ own) (hok : ∀ m ∈ ms, OkS m.s) (hu : A.units < 600)
    (q : Q (.bool (!ms.isEmpty)) ⟨h, G, D, tk, O⟩) : wpAny (model prog w) A (compareOp .NotEq (.ref l) (.ref l0)) Q E ⟨h, G, D, tk, O⟩ := by
  refine m_ned (s := ⟨h, G, D, tk, O⟩) (reads_list_at (S.at h1) rfl rfl (HM.reads S hk)) (reads_list_at (S.at h0) rfl rfl .nil) (marks_shaped _ hok) rfl (units_ok hu) ?_
  rw [mark_eqv_nil]; exact q
theorem Mk.getAt {ts : List (Addr × Obj)} {ms : List Mark} {vs : List Value} (H : Mk ts ms vs) : ∀ {i : Nat} {m : Mark}, ms[i]? = some m → ∃ a t1 t2 t3, vs[i]? = some (.ref a) ∧ (a, tupOf [.str m.s t1, .int m.hop t2, .int m.b t3]) ∈ ts := by
  induction H with
  | nil => intro i m h; cases h
  | @cons a m t1 t2 t3 ms vs hm _ ih =>
    intro i m' h
    cases i with
    | zero => cases h; exact ⟨a, t1, t2, t3, rfl, hm⟩
    | succ i => exact ih h
theorem mark_eqv_two (x y : Str) (i j : Int) : PyData.eqv (.tuple [.str x, .int i]) (.tuple [.str y, .int j]) = (x == y && i == j) := by simp [PyData.eqv, PyData.eqvAll]
theorem mark_shaped_two {x : Str} (h : OkS x) (i : Int) : SeqAt.shaped (.tuple [.str x, .int i]) = true := by
  simp [SeqAt.shaped, PyData.canLay0, PyData.canLayAll0, PyData.depth, PyData.depthAll, h.ok]
theorem qt_ok : OkS qt := ⟨by decide, by decide +kernel⟩
theorem m_ift {P Q : Prop} (h : P) : if true = true then P else Q := by rw [if_pos rfl]; exact h
theorem m_iff {P Q : Prop} (h : Q) : if false = true then P else Q := by rw [if_neg (by decide)]; exact h
theorem m_cw_method1 {M : Model} {A : Around} {E : Value → Shared → Prop} {s : Shared} {env : Env} {id : String} {x : Value} {e : Expr} {rest : List Expr} {pos : Pos} {Q : Value → Shared → Prop}
    (hs : starEach (e :: rest) env = (false, eval e env) :: starEach rest env) (hp : ((backTo pos (starEach rest env)).any fun x => x.1) = false)
    (h : wpAny M A (spliced (backTo pos (starEach (e :: rest) env))) (fun vs s₁ => wpAny M A (call (.builtin id) (x :: vs)) Q E s₁) E s) :
    wpAny M A (callWith pos (.builtin id) [x] (backTo pos (starEach (e :: rest) env)) []) Q E s := m_cw_method hs hp h
end Mine

namespace Mine
theorem m_letOwned {prog : Program} {w : World} {A : Around} {E : Value → Shared → Prop} {g h : Heap} {L l it a : Addr} {lo : List (Str × Value)} {own : List (Addr × Obj)} {G : Array GenState} {D : Drawn} {tk : Nat} {O : OsState} {i : Nat} {elts : List Expr} {x1} {pos : Pos} {Q : Unit → Shared → Prop}
    (S : St g L h lo own) (hi : (it, iterOf l i) ∈ own) (q : Q () ⟨h, G, D, tk, O⟩) : wpAny (model prog w) A (letOwnedTupleGo (.Tuple elts x1 pos) (.ref it) (.ref a)) Q E ⟨h, G, D, tk, O⟩ :=
  wpAny_letOwnedTupleGo_listiter (s := ⟨h, G, D, tk, O⟩) (l := l) (i := i) ⟨_, S.at hi, rfl, rfl⟩ q
theorem St.fresh {h0 h : Heap} {L a : Addr} {o : Obj} {lo : List (Str × Value)} {own0 own : List (Addr × Obj)} (S : St (gOf h0 own0) L h lo own) (hm : (a, o) ∈ own) (hn : a ∉ own0.map (·.1)) : h0.get? a = none := by
  cases q : h0.get? a with
  | none => rfl
  | some ob =>
    have := gOf_keep q hn
    rw [(S.nw _ hm).2.2] at this
    cases this
/-- the first entry is no other -/
theorem St.apart {g h : Heap} {L a b : Addr} {o o' : Obj} {lo : List (Str × Value)} {own : List (Addr × Obj)} (S : St g L h lo ((a, o) :: own)) (hm : (b, o') ∈ own) : a ≠ b := by
  have := S.nd
  rw [List.map_cons, List.nodup_cons] at this
  rintro rfl
  exact this.1 (List.mem_map_of_mem (f := (·.1)) hm)
end Mine

namespace Mine

/-- an exception on its way, its own dict and its first field known -/
structure Fly (base : Heap) (l : List Env) (e : Addr) (cls : Value) (dd : Option Addr) (a0 fl : Value) (h : Heap) : Prop where
  stays : base.StaysIn h
  new : base.get? e = none
  frames : h.FunFrames base l
  exc : ∃ oe vs T oT ts, (h.get? e = some oe ∧ oe.cls = cls ∧ oe.dict = dd ∧ oe.data = .fields vs ∧ vs[0]? = some a0 ∧ vs[1]? = some (.ref T)) ∧ base.get? T = none ∧ T ≠ e ∧ h.get? T = some oT ∧ oT.data = .fields ts ∧ ts[3]? = some fl

theorem Obj.dict_mapF {o : Obj} {f : Array Value → Array Value} : (o.mapFields f).dict = o.dict := by
  unfold Obj.mapFields
  split <;> rfl

theorem frames_pop {h base : Heap} {env : Env} {l : List Env} (x : h.FunFrames base (env :: l)) : h.FunFrames base l := x.2.2

section
variable {M : Model} {A : Around} {E : Value → Shared → Prop} {s : Shared} {base : Heap} {env : Env} {outer l : List Env} {L e : Addr} {cls a0 fl : Value} {dd : Option Addr}

/-- a record changed in place leaves all but records and keeps the base -/
theorem upd_keeps {h : Heap} {a : Addr} {o : Obj} {vs : Array Value} {f : Obj → Obj} (ho : h.get? a = some o) (hd : o.data = .fields vs) {b : Addr} {ob : Obj} (hb : h.get? b = some ob) (hn : ∀ ws, ob.data ≠ .fields ws) : (h.update a f).get? b = some ob := by
  refine (Heap.get?_update_other _ _ ?_).trans hb
  rintro rfl
  rw [ho] at hb; cases hb
  exact hn _ hd
theorem upd_base {h : Heap} {a : Addr} {f : Obj → Obj} (hk : base.StaysIn h) (hn : base.get? a = none) : base.StaysIn (h.update a f) := fun b o q => by
  refine (Heap.get?_update_other _ _ ?_).trans (hk b o q)
  rintro rfl
  rw [hn] at q; cases q

theorem fly_entry {oe : Obj} {vs : Array Value} {head : Value} {hadNext : Bool} {Q : Unit → Shared → Prop}
    (hfr : A.frames = some (env :: outer)) (hl : s.heap.FunFrames base (env :: outer)) (hf : env.frame = some L) (he : s.heap.get? e = some oe) (hkb : base.StaysIn s.heap) (hen : base.get? e = none)
    (hd : oe.data = .fields vs) (hsz : 1 < vs.size) (h0 : vs[0]? = some a0)
    (q : ∀ h', Fly base (env :: outer) e oe.cls oe.dict a0 (rawInt L) h' → s.heap.UpToSlots h' → Q () { s with heap := h' }) :
    wpAny M A (do let a ← frameOf env; let pl ← entryPlaceOf L hadNext; let b ← EntryCells.newEntry head a .none (rawInt L) .none pl; setField (.ref e) 1 b) Q E s := by
  have hne : e ∉ (env :: outer).filterMap (·.frame) := fun hm => by
    obtain ⟨_, o, ho, hnf⟩ := hl.mem hm
    rw [he] at ho
    cases ho
    exact hnf vs hd
  refine wpAny_bind (wpAny_frameOf_fun hfr hl hf fun h₁ hs => wpAny_bind (wpAny_entryPlaceOf fun pl hpl => ?_))
  have he1 : h₁.get? e = some oe := (hs.2.1 e hne).trans he
  have hk1 : base.StaysIn h₁ := fun b o hb => by
    rw [hs.2.1 b fun hm => by rw [(hl.mem hm).1] at hb; cases hb]
    exact hkb b o hb
  unfold EntryCells.newEntry newFields
  refine wpAny_bind (wpAny_newObj_type ?_ (hpl.sizeOk5 _ _ _ _ _))
  generalize hT : ({ cls := .type "traceback", dict := none, data := .fields ([head, .ref L, .none, rawInt L, .none] ++ (if pl.isEmpty then List.replicate 6 Value.none else pl)).toArray } : Obj) = oT
  have hTd : ∃ ts, oT.data = .fields ts ∧ ts[3]? = some (rawInt L) := by
    subst hT
    exact ⟨_, rfl, by simp⟩
  have hTf : oT.isFreed = false := by obtain ⟨ts, q, _⟩ := hTd; exact Obj.isFreed_of_fields q
  have he2 : (h₁.push oT).get? e = some oe := Heap.get?_push_of_some _ he1
  have hne2 : h₁.objs.size ≠ e := Nat.ne_of_gt (Heap.lt_size he1)
  have hbT : base.get? h₁.objs.size = none := hk1.fresh
  have hTg : (h₁.push oT).get? h₁.objs.size = some oT := Heap.get?_push_size _ hTf
  have hd3 := Obj.data_mapFields hd (·.setIfInBounds 1 (Value.ref h₁.objs.size))
  refine wpAny_setField he2 hd hsz (q _ ⟨upd_base (fun b o x => Heap.get?_push_of_some _ (hk1 b o x)) hen, hen, ?_, ?_⟩ ?_)
  · refine hl.of_keeps fun b o hb hn => ?_
    obtain ⟨sl, h2⟩ := hs.2.2 b o hb
    exact ⟨_, upd_keeps he2 hd (Heap.get?_push_of_some _ h2) hn, rfl⟩
  · obtain ⟨ts, ht, ht3⟩ := hTd
    exact ⟨_, _, h₁.objs.size, oT, ts, ⟨Heap.get?_update_self _ he2 (Obj.isFreed_of_fields hd3), Obj.cls_mapFields _ _, Obj.dict_mapF, hd3, by rw [Array.getElem?_setIfInBounds_ne (by decide)]; exact h0, by simp [hsz]⟩, hbT, hne2,
      (Heap.get?_update_other _ _ hne2.symm).trans hTg, ht, ht3⟩
  · intro b o hb hn
    obtain ⟨sl, h2⟩ := hs.2.2 b o hb
    exact ⟨sl, upd_keeps he2 hd (Heap.get?_push_of_some _ h2) hn⟩

/-- the frame at hand is noted, the first time -/
theorem fly_note {Q : Unit → Shared → Prop} (hfr : A.frames = some (env :: outer)) (hf : env.frame = some L) (hfl : Fly base (env :: outer) e cls dd a0 .none s.heap)
    (q : ∀ h', Fly base (env :: outer) e cls dd a0 (rawInt L) h' → s.heap.UpToSlots h' → Q () { s with heap := h' }) : wpAny M A (noteFrame (.ref e) env) Q E s := by
  obtain ⟨k1, k2, k3, oe, vs, T, oT, ts, ⟨he, rfl, rfl, hd, h0, h1⟩, hbT, hTe, hT, hTd, h3⟩ := hfl
  unfold noteFrame
  simp only [hf]
  refine wpAny_bind (wpAny_field he hd h1 ?_)
  rw [if_pos (by simp : (Value.ref T != Value.none) = true)]
  refine wpAny_bind (wpAny_field hT hTd h3 ?_)
  rw [if_neg (by simp [rawInt] : ¬ ((Value.none == rawInt L) = true))]
  refine wpAny_bind (wpAny_setField hT hTd (Array.getElem?_eq_some_iff.mp h3).1 ?_)
  refine fly_entry hfr (k3.of_keeps fun b o hb hn => ⟨o, upd_keeps hT hTd hb hn, rfl⟩) hf ((Heap.get?_update_other _ _ hTe).trans he) (upd_base k1 hbT) k2 hd (Array.getElem?_eq_some_iff.mp h1).1 h0
    fun h' x y => q h' x (Heap.UpToSlots.trans (fun b o hb hn => ⟨o.slots, upd_keeps hT hTd hb hn⟩) y)
/-- it is noted already -/
theorem fly_again {Q : Unit → Shared → Prop} (hf : env.frame = some L) (hfl : Fly base l e cls dd a0 (rawInt L) s.heap) (q : Q () s) : wpAny M A (noteFrame (.ref e) env) Q E s := by
  obtain ⟨k1, k2, k3, oe, vs, T, oT, ts, ⟨he, _, _, hd, h0, h1⟩, hbT, hTe, hT, hTd, h3⟩ := hfl
  unfold noteFrame
  simp only [hf]
  refine wpAny_bind (wpAny_field he hd h1 ?_)
  rw [if_pos (by simp : (Value.ref T != Value.none) = true)]
  refine wpAny_bind (wpAny_field hT hTd h3 ?_)
  rw [if_pos (by simp : (rawInt L == rawInt L) = true)]
  exact wpAny_pure q
theorem fly_set {fr : Option Addr} {Q : Unit → Shared → Prop} (hfl : Fly base l e cls dd a0 fl s.heap)
    (q : ∀ h', Fly base l e cls dd a0 (fr.elim .none fun f => rawInt f) h' → s.heap.UpToSlots h' → Q () { s with heap := h' }) : wpAny M A (setFlight (.ref e) fr) Q E s := by
  obtain ⟨k1, k2, k3, oe, vs, T, oT, ts, ⟨he, hc, hdd, hd, h0, h1⟩, hbT, hTe, hT, hTd, h3⟩ := hfl
  have hs3 : 3 < ts.size := (Array.getElem?_eq_some_iff.mp h3).1
  unfold setFlight
  refine wpAny_bind (wpAny_field he hd h1 ?_)
  rw [if_pos (by simp : (Value.ref T != Value.none) = true)]
  refine wpAny_setField hT hTd hs3 (q _ ⟨upd_base k1 hbT, k2, k3.of_keeps fun b o hb hn => ⟨o, upd_keeps hT hTd hb hn, rfl⟩, oe, vs, T, _, _, ⟨(Heap.get?_update_other _ _ hTe).trans he, hc, hdd, hd, h0, h1⟩, hbT, hTe,
    Heap.get?_update_self _ hT (Obj.isFreed_of_fields (Obj.data_mapFields hTd _)), Obj.data_mapFields hTd _, by simp [hs3]⟩ fun b o hb hn => ⟨o.slots, upd_keeps hT hTd hb hn⟩)
theorem Fly.pop (x : Fly base (env :: l) e cls dd a0 fl s.heap) : Fly base l e cls dd a0 fl s.heap := ⟨x.stays, x.new, frames_pop x.frames, x.exc⟩
theorem Fly.pop' {h : Heap} (x : Fly base (env :: l) e cls dd a0 fl h) : Fly base l e cls dd a0 fl h := ⟨x.stays, x.new, frames_pop x.frames, x.exc⟩

/-- an exception leaves the frame at hand: just made, on its way, or held -/
theorem fly_first {oe : Obj} {vs : Array Value} {Q : Unit → Shared → Prop} (hfr : A.frames = some (env :: outer)) (hf : env.frame = some L) (hl : s.heap.FunFrames base (env :: outer)) (hkb : base.StaysIn s.heap) (hen : base.get? e = none)
    (he : s.heap.get? e = some oe) (hd : oe.data = .fields vs) (h0 : vs[0]? = some a0) (h1 : vs[1]? = some .none)
    (q : ∀ h', Fly base outer e oe.cls oe.dict a0 .none h' → s.heap.UpToSlots h' → Q () { s with heap := h' }) : wpAny M A (leaving env (.ref e)) Q E s := by
  unfold leaving noteFrame
  simp only [hf]
  refine wpAny_bind (wpAny_bind (wpAny_field he hd h1 ?_))
  rw [if_neg (by decide)]
  refine fly_entry hfr hl hf he hkb hen hd (Array.getElem?_eq_some_iff.mp h1).1 h0 fun h' x y => ?_
  exact fly_set (fr := none) (s := { s with heap := h' }) x fun h2 x2 y2 => q h2 x2.pop' (y.trans y2)
theorem fly_leave {Q : Unit → Shared → Prop} (hfr : A.frames = some (env :: outer)) (hf : env.frame = some L) (hfl : Fly base (env :: outer) e cls dd a0 fl s.heap) (hfo : fl = .none ∨ fl = rawInt L)
    (q : ∀ h', Fly base outer e cls dd a0 .none h' → s.heap.UpToSlots h' → Q () { s with heap := h' }) : wpAny M A (leaving env (.ref e)) Q E s := by
  unfold leaving
  rcases hfo with rfl | rfl
  · exact wpAny_bind (fly_note hfr hf hfl fun h' x y => fly_set (fr := none) (s := { s with heap := h' }) x fun h2 x2 y2 => q h2 x2.pop' (y.trans y2))
  · exact wpAny_bind (fly_again hf hfl (fly_set (fr := none) hfl fun h2 x2 y2 => q h2 x2.pop' y2))
/-- noted by a block of the frame -/
theorem fly_noted {X : Value → Shared → Prop} (hfr : A.frames = some (env :: outer)) (hf : env.frame = some L) (hfl : Fly base (env :: outer) e cls dd a0 fl s.heap) (hfo : fl = .none ∨ fl = rawInt L)
    (q : ∀ h', Fly base (env :: outer) e cls dd a0 (rawInt L) h' → s.heap.UpToSlots h' → X (.ref e) { s with heap := h' }) : notedBy M A env X (.ref e) s := by
  unfold notedBy
  rcases hfo with rfl | rfl
  · exact fly_note hfr hf hfl q
  · exact fly_again hf hfl (q s.heap hfl (.refl _))
theorem fly_back {X : Value → Shared → Prop} (hf : env.frame = some L) (hfl : Fly base (env :: outer) e cls dd a0 fl s.heap)
    (q : ∀ h', Fly base (env :: outer) e cls dd a0 (rawInt L) h' → s.heap.UpToSlots h' → X (.ref e) { s with heap := h' }) : cameBackBy M A env X (.ref e) s := by
  unfold cameBackBy
  obtain ⟨oe, vs, T, oT, ts, ⟨he, _, _, hd, _, h1⟩, _⟩ := hfl.exc
  refine wpAny_bind (wpAny_field he hd h1 ?_)
  rw [if_neg (by simp : ¬ ((Value.ref T == Value.none) = true))]
  rw [hf]
  exact fly_set hfl q
end
end Mine

namespace Mine

abbrev frs (l : List Env) : List Addr := l.filterMap (·.frame)
abbrev keys (own : List (Addr × Obj)) : List Addr := own.map (·.1)

/-- an exception on its way through `l`: what stood in `h0` beside `ks` and the frames stands, so does `own'` -/
structure Flown (h0 : Heap) (ks : List Addr) (l : List Env) (e : Addr) (cls : Value) (dd : Option Addr) (a0 fl : Value) (own' : List (Addr × Obj)) (h' : Heap) : Prop where
  fly : ∃ B, Fly B l e cls dd a0 fl h' ∧ (∀ q ∈ own', B.get? q.1 = some q.2) ∧ ∀ b o, h0.get? b = some o → b ∉ ks → b ∉ frs l → B.get? b = some o
  slots : ∀ L ∈ frs l, ∀ o, h0.get? L = some o → ∃ sl, h'.get? L = some { o with slots := sl }
  fresh : ∀ q ∈ own', h0.get? q.1 = none ∨ q.1 ∈ ks
  nd : (own'.map (·.1)).Nodup

/-- what a caller lays under a callee that may raise -/
theorem below_call {A : Around} {bF g h : Heap} {outer : List Env} {L a : Addr} {lo : List (Str × Value)} {own own0 : List (Addr × Obj)} {cn : Str} {cs : Scope} {ccd : Value} {cl : List (Str × Addr)}
    (K : Below A bF outer g) (S : St g L h lo own) (hs : ∀ p ∈ own0, p ∈ own) (hk : cs.kind = .function) :
    Below (A.deeper (envX cn cs L a ccd cl)) bF (envX cn cs L a ccd cl :: outer) (gOf h own0) := by
  obtain ⟨m, F, _⟩ := S.fr
  have nL : L ∉ keys own0 := fun hm => by
    obtain ⟨p, hp, e⟩ := List.mem_map.mp hm
    exact (S.nw p (hs p hp)).2.1 e
  have ng : ∀ b o, g.get? b = some o → b ∉ keys own0 := fun b o q hm => by
    obtain ⟨p, hp, e⟩ := List.mem_map.mp hm
    have := (S.nw p (hs p hp)).2.2
    rw [e, q] at this; cases this
  have gk : ∀ b o, g.get? b = some o → (gOf h own0).get? b = some o := fun b o q => gOf_keep (F.keep b o q) (ng b o q)
  refine ⟨Around.frames_deeper K.stack, fun b o q => gk b o (K.stays b o q), ?_⟩
  obtain ⟨oL, es, ep, hL, hd, _⟩ := F.ns
  refine ⟨by show cs.kind ≠ _; rw [hk]; decide, ⟨L, oL, rfl, ?_, gOf_keep hL nL, fun vs q => by rw [hd] at q; cases q⟩, ?_⟩
  · cases q : bF.get? L with
    | none => rfl
    | some o =>
      exact absurd (Nat.lt_of_lt_of_le (Heap.lt_size (K.stays _ _ q)) F.above) (Nat.lt_irrefl _)
  · refine K.frames.of_keeps fun b o q _ => ⟨o, gk b o q, rfl⟩

section
variable {M : Model} {A : Around} {E : Value → Shared → Prop} {s : Shared} {bF h0 h : Heap} {outer : List Env} {L a e : Addr} {lo : List (Str × Value)} {own own0 own1 own2 : List (Addr × Obj)} {cn : Str} {cs : Scope} {ccd : Value} {cl : List (Str × Addr)} {cls a0 fl : Value} {dd : Option Addr}

theorem frs_g {g : Heap} {bF : Heap} {A : Around} {outer : List Env} (K : Below A bF outer g) {b : Addr} (hb : b ∈ frs outer) : ∃ o, g.get? b = some o ∧ ∀ vs, o.data ≠ .fields vs := (K.frames.mem hb).2

theorem flown_fresh {b : Addr} (hn : (gOf h0 own0).get? b = none) : h0.get? b = none ∨ b ∈ keys own0 := by
  by_cases z : b ∈ keys own0
  · exact .inr z
  · refine .inl ?_
    cases q : h0.get? b with
    | none => rfl
    | some o =>
      have := gOf_keep q z
      rw [hn] at this; cases this
/-- a new exception leaves the frame -/
theorem flown_first {oe : Obj} {vs : Array Value} {Q : Unit → Shared → Prop} (K : Below A bF outer (gOf h0 own0)) (S : St (gOf h0 own0) L s.heap lo ((e, oe) :: own)) (hd : oe.data = .fields vs) (h0' : vs[0]? = some a0) (h1 : vs[1]? = some .none) (hk : cs.kind = .function)
    (q : ∀ h', Flown h0 (keys own0) outer e oe.cls oe.dict a0 .none own h' → Q () { s with heap := h' }) :
    wpAny M (A.deeper (envX cn cs L a ccd cl)) (leaving (envX cn cs L a ccd cl) (.ref e)) Q E s := by
  obtain ⟨m, F, _⟩ := S.fr
  have K' := below_call (own0 := []) (cn := cn) (a := a) (ccd := ccd) (cl := cl) K S (fun _ h => nomatch h) hk
  have he := S.at (.head _)
  have hgf : ∀ b ∈ frs outer, ∃ o, (gOf h0 own0).get? b = some o ∧ ∀ vs, o.data ≠ .fields vs := fun b hb => frs_g K hb
  refine fly_first (base := hideAll s.heap (e :: frs (envX cn cs L a ccd cl :: outer))) (Around.frames_deeper K.stack) rfl ?_ (fun b o q => of_hideAll _ q) (hideAll_none _ (.head _)) he hd h0' h1 fun h' x y => q h' ⟨⟨_, x, ?_, ?_⟩, ?_, fun p hp => flown_fresh (S.nw p (.tail _ hp)).2.2, (S.pick (.cons _ (List.Sublist.refl _))).nd⟩
  · refine funFrames_hide (base := bF) (h := s.heap) ?_ fun env hm b hb => .tail _ (List.mem_filterMap.mpr ⟨env, hm, hb⟩)
    exact K'.frames.of_keeps fun b o q _ => ⟨o, gOf_get q, rfl⟩
  · intro p hp
    have z := S.nw p (.tail _ hp)
    refine hideAll_get _ z.1 fun hm => ?_
    rcases List.mem_cons.mp hm with e1 | hm
    · exact S.apart (b := p.1) (o' := p.2) hp e1.symm
    · rcases List.mem_cons.mp hm with e1 | hm
      · exact z.2.1 e1
      · obtain ⟨o, ho, _⟩ := hgf _ hm
        rw [z.2.2] at ho; cases ho
  · intro b o hb hn hf
    have hg := gOf_keep hb hn
    refine hideAll_get _ (F.keep b o hg) fun hm => ?_
    rcases List.mem_cons.mp hm with e1 | hm
    · rw [e1, (S.nw _ (.head _)).2.2] at hg; cases hg
    · rcases List.mem_cons.mp hm with e1 | hm
      · subst e1; exact absurd (Nat.lt_of_lt_of_le (Heap.lt_size hg) F.above) (Nat.lt_irrefl _)
      · exact hf hm
  · intro b hb o ho
    obtain ⟨o', hg, hn⟩ := hgf b hb
    have e2 := gOf_get hg
    rw [ho] at e2; cases e2
    exact y b o (F.keep b o hg) hn

theorem flown_noted {X : Value → Shared → Prop} {hc : Heap} {ks : List Addr} (K : Below A bF outer (gOf h0 own0)) (x : Flown hc ks (envX cn cs L a ccd cl :: outer) e cls dd a0 fl own1 s.heap) (hnf : ∀ b ∈ frs (envX cn cs L a ccd cl :: outer), ∃ o, hc.get? b = some o ∧ ∀ vs, o.data ≠ .fields vs) (hfo : fl = .none ∨ fl = rawInt L)
    (q : ∀ h', Flown hc ks (envX cn cs L a ccd cl :: outer) e cls dd a0 (rawInt L) own1 h' → X (.ref e) { s with heap := h' }) :
    notedBy M (A.deeper (envX cn cs L a ccd cl)) (envX cn cs L a ccd cl) X (.ref e) s := by
  obtain ⟨B, x1, x2, x3⟩ := x.fly
  refine fly_noted (Around.frames_deeper K.stack) rfl x1 hfo fun h' y1 y2 => q h' ⟨⟨B, y1, x2, x3⟩, fun b hb o ho => ?_, x.fresh, x.nd⟩
  obtain ⟨sl, h2⟩ := x.slots b hb o ho
  obtain ⟨o', h3, hn⟩ := hnf b hb
  rw [ho] at h3; cases h3
  obtain ⟨sl2, h4⟩ := y2 b _ h2 hn
  exact ⟨sl2, h4⟩
theorem flown_back {X : Value → Shared → Prop} {hc : Heap} {ks : List Addr} (x : Flown hc ks (envX cn cs L a ccd cl :: outer) e cls dd a0 fl own1 s.heap) (hnf : ∀ b ∈ frs (envX cn cs L a ccd cl :: outer), ∃ o, hc.get? b = some o ∧ ∀ vs, o.data ≠ .fields vs)
    (q : ∀ h', Flown hc ks (envX cn cs L a ccd cl :: outer) e cls dd a0 (rawInt L) own1 h' → X (.ref e) { s with heap := h' }) :
    cameBackBy M A (envX cn cs L a ccd cl) X (.ref e) s := by
  obtain ⟨B, x1, x2, x3⟩ := x.fly
  refine fly_back rfl x1 fun h' y1 y2 => q h' ⟨⟨B, y1, x2, x3⟩, fun b hb o ho => ?_, x.fresh, x.nd⟩
  obtain ⟨sl, h2⟩ := x.slots b hb o ho
  obtain ⟨o', h3, hn⟩ := hnf b hb
  rw [ho] at h3; cases h3
  obtain ⟨sl2, h4⟩ := y2 b _ h2 hn
  exact ⟨sl2, h4⟩
/-- the frames at hand are no records -/
theorem frames_no {hc : Heap} (K : Below A bF outer (gOf h0 own0)) (S : St (gOf h0 own0) L hc lo own) : ∀ b ∈ frs (envX cn cs L a ccd cl :: outer), ∃ o, hc.get? b = some o ∧ ∀ vs, o.data ≠ .fields vs := fun b hb => by
  obtain ⟨m, F, _⟩ := S.fr
  rcases List.mem_cons.mp hb with rfl | hb
  · obtain ⟨oL, es, ep, hL, hd, _⟩ := F.ns
    exact ⟨oL, hL, fun vs q => by rw [hd] at q; cases q⟩
  · obtain ⟨o, hg, hn⟩ := frs_g K hb
    exact ⟨o, F.keep b o hg, hn⟩
/-- it leaves a frame that it came through -/
theorem flown_leave {hc : Heap} {ks : List Addr} {Q : Unit → Shared → Prop} (K : Below A bF outer (gOf h0 own0)) (S : St (gOf h0 own0) L hc lo own) (x : Flown hc ks (envX cn cs L a ccd cl :: outer) e cls dd a0 fl own1 s.heap) (hfo : fl = .none ∨ fl = rawInt L)
    (hks : ∀ b ∈ ks, b ∈ keys own)
    (q : ∀ h', Flown h0 (keys own0) outer e cls dd a0 .none own1 h' → Q () { s with heap := h' }) :
    wpAny M (A.deeper (envX cn cs L a ccd cl)) (leaving (envX cn cs L a ccd cl) (.ref e)) Q E s := by
  obtain ⟨m, F, _⟩ := S.fr
  obtain ⟨B, x1, x2, x3⟩ := x.fly
  refine fly_leave (Around.frames_deeper K.stack) rfl x1 hfo fun h' y1 y2 => q h' ⟨⟨B, y1, x2, fun b o hb hn hf => ?_⟩, fun b hb o ho => ?_, fun p hp => ?_, x.nd⟩
  · have hg := gOf_keep hb hn
    refine x3 b o (F.keep b o hg) (fun hm => ?_) fun hm => ?_
    · obtain ⟨p, hp, e1⟩ := List.mem_map.mp (hks b hm)
      have := (S.nw p hp).2.2
      rw [e1, hg] at this; cases this
    · rcases List.mem_cons.mp hm with e1 | hm
      · subst e1; exact absurd (Nat.lt_of_lt_of_le (Heap.lt_size hg) F.above) (Nat.lt_irrefl _)
      · exact hf hm
  · obtain ⟨o', hg, hn⟩ := frs_g K hb
    have e2 := gOf_get hg
    rw [ho] at e2; cases e2
    obtain ⟨sl, h3⟩ := x.slots b (.tail _ hb) o (F.keep b o hg)
    obtain ⟨sl2, h4⟩ := y2 b _ h3 hn
    exact ⟨sl2, h4⟩
  · refine flown_fresh ?_
    rcases x.fresh p hp with z | z
    · exact S.gnone z
    · obtain ⟨p2, hp2, e1⟩ := List.mem_map.mp (hks _ z)
      rw [← e1]; exact (S.nw p2 hp2).2.2
end
end Mine

namespace Mine

theorem At.updK {a : Addr} {o o' : Obj} {l l' : List (Addr × Obj)} (U : At a o o' l l') (nd : (l.map (·.1)).Nodup) : Upd a o o' l l' := by
  induction U with
  | @here r =>
    rw [List.map_cons, List.nodup_cons] at nd
    exact .head fun p hp e => nd.1 (e ▸ List.mem_map_of_mem (f := (·.1)) hp)
  | @there p r r' U ih =>
    rw [List.map_cons, List.nodup_cons] at nd
    exact .tail (fun e => nd.1 (e ▸ List.mem_map_of_mem (f := (·.1)) U.mem)) (ih nd.2)

section
variable {prog : Program} {w : World} {A : Around} {E : Value → Shared → Prop} {g h : Heap} {L a b l it sl t x dx C f c' q0 : Addr} {lo : List (Str × Value)} {own own' own0 : List (Addr × Obj)} {G : Array GenState} {D : Drawn} {tk : Nat} {O : OsState}
  {vs ws : List Value} {n m i : Nat} {K : Frag} {name : Str} {v : Value} {es es' : List DictEntry} {n' : Nat} {b0 : Heap} {pos : Pos} {env : Env}

theorem St.inst (S : St g L h lo own) (hx : (x, instObj C dx) ∈ own) (hd : (dx, dictOf es n) ∈ own) : InstAt h x (instObj C dx) C (some (dictOf es n)) := ⟨S.at hx, rfl, rfl, S.at hd⟩

theorem m_Attr {value : Expr} {Q : Value → Shared → Prop} {s : Shared}
    (he : eval (.Attribute value name pos) env = (do
      let o ← eval value env
      standAt pos.atName
      let r ← holding [o] (getAttr o name true)
      letTemporaryGo value o r
      pure r))
    (q : wpAny (model prog w) A (eval value env) (fun o s₁ => wpAny (model prog w) A (getAttr o name true) Q E s₁) E s) : wpAny (model prog w) A (eval (.Attribute value name pos) env) Q E s := Attribute_any_ q he

theorem m_getOwn {expr : Bool} {attr : Option Value} {Q : Value → Shared → Prop} (S : St g L h lo own) (X : K.In g) (hx : (x, instObj C dx) ∈ own) (hd : (dx, dictOf es n) ∈ own) (hg : plainGet K C name = true) (hh : hasDictIn K C = true)
    (ha : findIn K (.ref C) name = some attr) (hn : noGet K attr = true) (hl : getL name es = some (some v)) (hv : handedIn v = true) (q : ∀ tk', Q v ⟨h, G, D, tk', O⟩) : wpAny (model prog w) A (getAttr (.ref x) name expr) Q E ⟨h, G, D, tk, O⟩ := by
  obtain ⟨m, F, _⟩ := S.fr
  exact get_own (s := ⟨h, G, D, tk, O⟩) F X (S.inst hx hd) hg hh ha hn hl hv (q _)
theorem m_setOwn {Q : Unit → Shared → Prop} (S : St g L h lo own) (X : K.In g) (hx : (x, instObj C dx) ∈ own) (U : At dx (dictOf es n) (dictOf (putL name (PyData.keyHash w.params name) (.str name (tk + 1)) v es) (putN name es n)) own own')
    (hs : findIn K (.ref C) "__setattr__" = some (some (.builtin "object.__setattr__"))) (hp : plainOver K C = true) (ht : takerIn K C name = some none) (hh : hasDictIn K C = true) (hl : (getL name es).isSome = true) (hz : es.length ≤ 900)
    (q : ∀ h' tk', St g L h' lo own' → Q () ⟨h', G, D, tk', O⟩) : wpAny (model prog w) A (setAttr (.ref x) name v) Q E ⟨h, G, D, tk, O⟩ := by
  obtain ⟨m, F, hlo⟩ := S.fr
  have hlen : (putL name (PyData.keyHash w.params name) (.str name (tk + 1)) v es).length ≤ es.length + 1 := by
    clear U hl hz
    induction es with
    | nil => exact Nat.le_refl _
    | cons e r ih =>
      simp only [putL]
      split
      · simp
      · simp only [List.length_cons]; omega
  exact set_dict (s := ⟨h, G, D, tk, O⟩) F X S.nw (S.inst hx U.mem) rfl hs hp ht hh hl rfl (U.updK S.nd) (Nat.le_trans hlen (by omega)) fun h' F' N' => q h' _ ⟨⟨m, F', hlo⟩, N', U.keys ▸ S.nd⟩
theorem m_bound {expr : Bool} {Q : Value → Shared → Prop} (S : St g L h lo own) (X : K.In g) (hx : (x, instObj C dx) ∈ own) (hd : (dx, dictOf es n) ∈ own) (hg : plainGet K C name = true) (hh : hasDictIn K C = true)
    (ha : findIn K (.ref C) name = some (some (.ref f))) (hf : isFn K (.ref f) = true) (hgf : specialIn K (.ref f) "__get__" = some (some (.builtin "function.__get__"))) (ht : takesIn K (.ref f) = some false) (hc : copiedNames.contains name = false) (hl : getL name es = some none)
    (q : ∀ r h' tk', St g L h' lo ((r, methodObj (.ref f) (.ref x)) :: own) → Q (.ref r) ⟨h', G, D, tk', O⟩) : wpAny (model prog w) A (getAttr (.ref x) name expr) Q E ⟨h, G, D, tk, O⟩ := by
  obtain ⟨m, F, hlo⟩ := S.fr
  refine kbm_bound (s := ⟨h, G, D, tk, O⟩) F X S.nw (S.inst hx hd) hg hh ha hf hgf ht hc hl fun r h' F' N' hlt => q r h' _ ⟨⟨m, F', hlo⟩, N', ?_⟩
  rw [List.map_cons, List.nodup_cons]
  refine ⟨fun hm => ?_, S.nd⟩
  obtain ⟨p, hp, e⟩ := List.mem_map.mp hm
  have := hlt p hp
  dsimp only at e
  rw [e] at this
  exact Nat.lt_irrefl _ this
theorem m_methInst {pl : Sem Bool} {Q : Value × List Value → Shared → Prop} (S : St g L h lo own) (X : K.In g) (hx : (x, instObj C dx) ∈ own) (hd : (dx, dictOf es n) ∈ own) (hg : plainGet K C name = true)
    (hf : findIn K (.ref C) name = some (some (.ref f))) (ht : isFn K (.ref f) = true) (hl : getL name es = some none) (q : Q (.ref f, [.ref x]) ⟨h, G, D, tk, O⟩) : wpAny (model prog w) A (getMethod (.ref x) name pl) Q E ⟨h, G, D, tk, O⟩ := by
  obtain ⟨m, F, hlo⟩ := S.fr
  exact method_inst (s := ⟨h, G, D, tk, O⟩) F X (S.inst hx hd) hg hf ht hl q
/-- a method's name that the own dict of an object holds -/
theorem m_methOwn {pl : Sem Bool} {Q : Value × List Value → Shared → Prop} (S : St g L h lo own) (X : K.In g) (hx : (x, instObj C dx) ∈ own) (hd : (dx, dictOf es n) ∈ own) (hg : plainGet K C name = true) (hh : hasDictIn K C = true)
    (ha : findIn K (.ref C) name = some none) (hl : getL name es = some (some v)) (hv : handedIn v = true) (q : ∀ tk', Q (v, []) ⟨h, G, D, tk', O⟩) : wpAny (model prog w) A (getMethod (.ref x) name pl) Q E ⟨h, G, D, tk, O⟩ := by
  obtain ⟨m, F, hlo⟩ := S.fr
  exact method_usual (s := ⟨h, G, D, tk, O⟩) (X.keeps F.keep) (S.inst hx hd) (plainGet_of hg).1 (plainGet_of hg).2 ha rfl (m_getOwn S X hx hd hg hh ha rfl hl hv q)

theorem m_callMeth {Q : Value → Shared → Prop} {fv self : Value} {args : List Value} (S : St g L h lo own) (hm : (q0, methodObj fv self) ∈ own)
    (q : codeAny (model prog w) A (.call fv ⟨self :: args, []⟩) (fun r s' => match r with | .ok (.ret v) => Q v s' | .ok _ => False | .error e => E e s') ⟨h, G, D, tk, O⟩) : wpAny (model prog w) A (call (.ref q0) args) Q E ⟨h, G, D, tk, O⟩ :=
  wpAny_call (method_call (s := ⟨h, G, D, tk, O⟩) (S.at hm) q)

theorem m_setItem0 {k : Int} {u : Tok} {Q : Unit → Shared → Prop} {y : Value} (S : St g L h lo own) (U : At l (listOf vs.toArray n) (listOf (vs.set k.toNat y).toArray n) own own') (h0 : 0 ≤ k) (hk : k < vs.length) (hz : vs.length ≤ sizeLine)
    (q : ∀ h', St g L h' lo own' → Q () ⟨h', G, D, tk, O⟩) : wpAny (model prog w) A (setItem (.ref l) (.int k u) y) Q E ⟨h, G, D, tk, O⟩ := by
  have ho := S.at U.mem
  have hl : h.IsList l vs.toArray := isList_of ho
  have hfit : k < 2 ^ 63 := by have := lt_fit hz; omega
  unfold setItem
  try with_reducible refine wpAny_holding ?_
  first | refine wpAny_bind (wpAny_pure ?_) | skip
  refine wpAny_bind (wpAny_sequenceKey (s := ⟨h, G, D, tk, O⟩) hl.typeIs (by decide) ?_)
  refine wpAny_bind (wpAny_callSpecial?_slot (name := Str.ofString "__setitem__") hl.typeIs slot_list_setitem (wpAny_call_entry slot_list_setitem hl.typeIs entry_list_setitem ?_ (args_list_setitem _ _ _)))
  show wpAny _ _ (Builtin.List.listSubscript? (.int k u) >>= _) _ _ _
  refine wpAny_bind (wpAny_listSubscript_int (fitsIndex_of h0 hfit) ?_)
  clear hfit
  obtain ⟨j, rfl⟩ := Int.eq_ofNat_of_zero_le h0
  have hj : j < vs.length := by omega
  have hx' : vs.toArray[j]? = some vs[j] := by simp [hj]
  show wpAny _ _ ((seqItemAt l j >>= fun r => pure (r.map (j, ·))) >>= _) _ _ _
  refine wpAny_bind (wpAny_bind (wpAny_seqItemAt ho rfl (wpAny_pure ?_)))
  rw [hx']
  show wpAny _ _ (setSeqItemAt l j y >>= _) _ _ _
  obtain ⟨n', hd'⟩ := Obj.data_mapSeq (o := listOf vs.toArray n) rfl (·.setIfInBounds j y)
  refine wpAny_bind (wpAny_setSeqItemAt ho rfl ?_)
  have fin : Q () ⟨h.update l (Obj.mapSeq (·.setIfInBounds j y)), G, D, tk, O⟩ := by
    refine q _ (S.upd U (Heap.SameBut.update ..).extBut ?_)
    rw [Heap.get?_update_self _ ho (Obj.isFreed_of_seq hd')]
    simp [Obj.mapSeq]
  first
    | exact wpAny_bind (wpAny_pure (wpAny_pure ⟨.none, rfl, wpAny_pure fin⟩))
    | exact wpAny_pure ⟨.none, rfl, wpAny_pure fin⟩
theorem strsAre_sv : ∀ cs : List (Str × Tok), StrsAre (strValues cs) (cs.map (·.1))
  | [] => .nil
  | c :: r => .cons c.1 c.2 (strsAre_sv r)
theorem m_inStrs {k : Str} {u : Tok} {cs : List (Str × Tok)} {Q : Value → Shared → Prop} (S : St g L h lo own) (hm : (l, listOf (strValues cs).toArray n) ∈ own) (q : Q (.bool ((cs.map (·.1)).any (· == k))) ⟨h, G, D, tk, O⟩) :
    wpAny (model prog w) A (compareOp .In (.str k u) (.ref l)) Q E ⟨h, G, D, tk, O⟩ := in_list_strs (s := ⟨h, G, D, tk, O⟩) (S.isList hm) (strsAre_sv cs) q
end
end Mine

namespace Mine

abbrev citOf (f s : Value) : Obj := { cls := .type "callable_iterator", data := .fields #[f, s, .bool false] }

theorem slot_cit_next : Slot "callable_iterator" "__next__" "callable_iterator.__next__" :=
  .of (owner := "callable_iterator") (n := "__next__") (by rw [typeLookup_type, builtinLookup_eq_fast]; kernel_rfl) (by decide +kernel) (by decide +kernel) (by decide +kernel)
    (by first | exact .inl (by decide +kernel) | exact .inr (by decide +kernel)) (by rw [isSubtype_type]; kernel_rfl)
theorem entry_cit_next : entryFor table "callable_iterator.__next__" = some Builtin.«callable_iterator.__next__» := entryFor_of_fast (by kernel_rfl)
theorem args_cit_next (a : Value) : argsOk "callable_iterator.__next__" ⟨[a], []⟩ := by unfold argsOk; kernel_rfl
theorem slot_cit_iter : Slot "callable_iterator" "__iter__" "callable_iterator.__iter__" :=
  .of (owner := "callable_iterator") (n := "__iter__") (by rw [typeLookup_type, builtinLookup_eq_fast]; kernel_rfl) (by decide +kernel) (by decide +kernel) (by decide +kernel)
    (by first | exact .inl (by decide +kernel) | exact .inr (by decide +kernel)) (by rw [isSubtype_type]; kernel_rfl)
theorem entry_cit_iter : entryFor table "callable_iterator.__iter__" = some Builtin.«dict_keyiterator.__iter__» :=
  entryFor_alias (id' := "dict_keyiterator.__iter__") (by kernel_rfl) rfl (by decide +kernel) (by kernel_rfl)
theorem args_cit_iter (a : Value) : argsOk "callable_iterator.__iter__" ⟨[a], []⟩ := by unfold argsOk; kernel_rfl

section
variable {prog : Program} {w : World} {A : Around} {E : Value → Shared → Prop} {g h : Heap} {L a b l it sl t x dx C f c' q0 : Addr} {lo : List (Str × Value)} {own own' own0 : List (Addr × Obj)} {G : Array GenState} {D : Drawn} {tk : Nat} {O : OsState}
  {vs ws : List Value} {n m i : Nat} {K : Frag} {name : Str} {v : Value} {es es' : List DictEntry} {n' : Nat} {b0 : Heap} {pos : Pos} {env : Env}

theorem wpAny_callBorrowed {M : Model} {s : Shared} {f : Value} {pos : List Value} {Q : Value → Shared → Prop}
    (hc : codeAny M A (.call f ⟨pos, []⟩) (fun r s' => match r with | .ok (.ret v) => Q v s' | .ok _ => False | .error e => E e s') s) : wpAny M A (callBorrowed f pos) Q E s := fun Γ p hΓ => by
  have key : Sem.wp M Γ (callBorrowed f pos) (fun a _ s' => Q a s') (fun e _ s' => E e s') p s =
      wpCode M (Γ.enter (.call f ⟨pos, []⟩) none p) (fun r s' => match r with | .ok (.ret v) => Q v s' | .ok _ => False | .error e => E e s') p s := by
    unfold callBorrowed
    rw [Sem.wp_call]
    congr 1
    funext r s'
    cases r with
    | error e => rfl
    | ok f => cases f <;> rfl
  rw [key]
  exact hc _ p rfl (hΓ.enter (.call f ⟨pos, []⟩) none p (by intro x; cases x))

/-- what the callee of a callable iterator is to give -/
abbrev citEnd : Obj := { cls := .type "callable_iterator", data := .fields #[.none, .none, .bool true] }
def CitBack (M : Model) (it bm f : Addr) (obm fo : Obj) (Q : Option Value → Shared → Prop) (E : Value → Shared → Prop) : Result → Shared → Prop := fun r s' => match r with
  | .ok (.ret (.str x t)) => s'.heap.get? bm = some obm ∧ s'.heap.get? f = some fo ∧ (∃ u, s'.heap.get? it = some (citOf (.ref bm) (.str Str.empty u))) ∧ if x == Str.empty then ∀ h', Heap.ExtBut it s'.heap h' → h'.get? it = some citEnd → Q none { s' with heap := h' } else Q (some (.str x t)) s'
  | .ok _ => False
  | .error e => (∀ (A' : Around) (E' : Value → Shared → Prop) (Q' : Bool → Shared → Prop), Q' false s' → wpAny M A' (isInstance e (.type "StopIteration")) Q' E' s') ∧ E e s'

theorem borrows_meth {s : Shared} {bm f : Addr} {self : Value} {fo : Obj} {fd : FuncData} {Q : Bool → Shared → Prop} (hb : s.heap.get? bm = some (methodObj (.ref f) self)) (hf : s.heap.get? f = some fo) (hfd : fo.data = .func fd)
    (q : Q true s) : wpAny (model prog w) A (borrowsExactly (.ref bm)) Q E s := by
  unfold borrowsExactly
  refine wpAny_bind (wpAny_load hb ?_)
  dsimp only
  rw [if_pos (by decide)]
  refine wpAny_bind (wpAny_load hf ?_)
  rw [hfd]
  exact wpAny_pure q

theorem m_itNext {s : Shared} {it bm f : Addr} {self : Value} {fo : Obj} {fd : FuncData} {u : Tok} {Q : Option Value → Shared → Prop} (hh : A.handled = none) (hi : s.heap.get? it = some (citOf (.ref bm) (.str Str.empty u))) (hb : s.heap.get? bm = some (methodObj (.ref f) self))
    (hf : s.heap.get? f = some fo) (hfd : fo.data = .func fd)
    (q : codeAny (model prog w) A.in1 (.call (.ref f) ⟨[self], []⟩) (CitBack (model prog w) it bm f (methodObj (.ref f) self) fo Q E) s) : wpAny (model prog w) A (pyNext (.ref it)) Q E s := by
  unfold pyNext
  refine wpAny_bind (wpAny_attempt (wpAny_callSpecial?_slot (name := Str.ofString "__next__") ⟨_, hi, rfl⟩ slot_cit_next (wpAny_call_entry slot_cit_next ⟨_, hi, rfl⟩ entry_cit_next ?_ (args_cit_next _))))
  unfold Builtin.«callable_iterator.__next__»
  refine wpAny_bind (wpAny_of_eq (a := (.ref it, [])) (by first | rfl | kernel_rfl) ?_)
  dsimp only
  refine wpAny_bind (wpAny_field hi rfl (x := .bool false) rfl ?_)
  rw [if_neg (by decide)]
  refine wpAny_bind (wpAny_field hi rfl (x := .ref bm) rfl ?_)
  refine wpAny_bind (wpAny_attempt ?_)
  unfold callOutOfASlot
  refine wpAny_bind (borrows_meth hb hf hfd ?_)
  rw [if_pos rfl]
  refine wpAny_callBorrowed (method_call hb (codeAny_mono q fun r s' z => ?_))
  cases r with
  | error e =>
    obtain ⟨z1, z2⟩ := z
    dsimp only
    refine wpAny_bind (z1 _ _ _ ?_)
    rw [if_pos (by decide)]
    refine wpAny_bind (wpAny_throw ?_)
    refine wpAny_bind (z1 _ _ _ ?_) 
    rw [if_neg (by decide)]
    exact wpAny_throw z2
  | ok fl =>
    cases fl with
    | ret v =>
      cases v with
      | str x t =>
        obtain ⟨z1, z0, ⟨u', z2⟩, z3⟩ := z
        dsimp only
        refine wpAny_bind (wpAny_field z2 rfl (x := .bool false) rfl ?_)
        rw [if_neg (by decide)]
        refine wpAny_bind (wpAny_field z2 rfl (x := .str Str.empty u') rfl ?_)
        refine wpAny_bind (wpAny_holding (eqGives_str _ _ _ _ _ _ _ _ _ _ ?_))
        cases hx : Str.empty == x with
        | false =>
          have hx2 : (x == Str.empty) = false := by
            rw [beq_eq_false_iff_ne] at hx ⊢
            exact fun e => hx e.symm
          rw [if_pos (by decide)]
          rw [hx2] at z3
          exact wpAny_pure ⟨_, rfl, wpAny_pure z3⟩
        | true =>
          have hx2 : (x == Str.empty) = true := by
            rw [← eq_of_beq hx]; simp
          rw [if_neg (by decide)]
          rw [hx2, if_pos rfl] at z3
          refine wpAny_bind (wpAny_rule ?_)
          refine wpAny_bind ?_
          show wpAny _ _ (field (.ref it) 0 >>= fun o => slotLetsGo "callable_iterator.__next__" o _ >>= fun _ => setField (.ref it) 0 .none >>= fun _ => setField (.ref it) 1 .none >>= fun _ => setField (.ref it) 2 (.bool true)) _ _ _
          refine wpAny_bind (wpAny_field z2 rfl (x := .ref bm) rfl (wpAny_bind ?_))
          unfold slotLetsGo
          refine wpAny_bind (borrows_meth z1 z0 hfd ?_)
          rw [if_pos rfl]
          refine wpAny_pure ?_
          obtain ⟨h2, G2, D2, tk2, O2⟩ := s'
          have k1 := Heap.get?_update_self (h := h2) (Obj.mapFields (·.setIfInBounds 0 Value.none)) z2 rfl
          refine wpAny_bind (wpAny_setField z2 rfl (by simp) ?_)
          have k2 := Heap.get?_update_self (Obj.mapFields (·.setIfInBounds 1 Value.none)) k1 rfl
          refine wpAny_bind (wpAny_setField k1 rfl (by simp) ?_)
          have k3 := Heap.get?_update_self (Obj.mapFields (·.setIfInBounds 2 (Value.bool true))) k2 rfl
          refine wpAny_setField k2 rfl (by simp) ?_
          unfold Builtin.SmallTypes.stopIteration
          refine wpAny_bind ?_
          simp only [newExc, newTuple]
          refine wpAny_bind (wpAny_newObj_type ?_ (by size_fits))
          refine wpAny_bind (m := firstArgMember _ _) (wpAny_of_eq (a := Value.none) (by first | rfl | (simp only [firstArgMember]; rfl)) ?_)
          refine wpAny_newObj_type ?_ (by size_fits)
          simp only [raiseNew]
          refine wpAny_bind (wpAny_handled ?_)
          rw [show A.in1.handled = none from hh]
          refine wpAny_bind (wpAny_pure (wpAny_throw ?_))
          refine wpAny_bind (wpAny_isInstance (T := "StopIteration") (b := true) ⟨_, Heap.get?_push_size _ rfl, rfl⟩ isSubtype_stop ?_)
          exact wpAny_pure (z3 _ ((((Heap.SameBut.update ..).extBut.trans ((Heap.SameBut.update ..).extBut.trans (Heap.SameBut.update ..).extBut)).push _).push _) (by
            refine Heap.get?_push_of_some _ (Heap.get?_push_of_some _ (k3.trans ?_))
            simp [Obj.mapFields]))
      | _ => exact z.elim
    | _ => exact z.elim

/-- an ended one -/
theorem m_itNextEnded {s : Shared} {it : Addr} {Q : Option Value → Shared → Prop} (hh : A.handled = none) (hi : s.heap.get? it = some citEnd) (q : ∀ h', (∀ b o, s.heap.get? b = some o → h'.get? b = some o) → Q none { s with heap := h' }) : wpAny (model prog w) A (pyNext (.ref it)) Q E s := by
  unfold pyNext
  refine wpAny_bind (wpAny_attempt (wpAny_callSpecial?_slot (name := Str.ofString "__next__") ⟨_, hi, rfl⟩ slot_cit_next (wpAny_call_entry slot_cit_next ⟨_, hi, rfl⟩ entry_cit_next ?_ (args_cit_next _))))
  unfold Builtin.«callable_iterator.__next__»
  refine wpAny_bind (wpAny_of_eq (a := (.ref it, [])) (by first | rfl | kernel_rfl) ?_)
  dsimp only
  refine wpAny_bind (wpAny_field hi rfl (x := .bool true) rfl ?_)
  rw [if_pos (by decide)]
  refine wpAny_bind (wpAny_rule ?_)
  unfold Builtin.SmallTypes.stopIteration
  refine wpAny_bind ?_
  refine wpAny_bind ?_
  simp only [newExc, newTuple]
  refine wpAny_bind (wpAny_newObj_type ?_ (by size_fits))
  refine wpAny_bind (m := firstArgMember _ _) (wpAny_of_eq (a := Value.none) (by first | rfl | (simp only [firstArgMember]; rfl)) ?_)
  refine wpAny_newObj_type ?_ (by size_fits)
  simp only [raiseNew]
  refine wpAny_bind (wpAny_handled ?_)
  rw [show A.in1.handled = none from hh]
  refine wpAny_bind (wpAny_pure (wpAny_throw ?_))
  refine wpAny_bind (wpAny_isInstance (T := "StopIteration") (b := true) ⟨_, Heap.get?_push_size _ rfl, rfl⟩ isSubtype_stop ?_)
  exact wpAny_pure (q _ fun b o e => Heap.get?_push_of_some _ (Heap.get?_push_of_some _ e))
end
end Mine

namespace Mine

/-- after a call that changed `ks` alone -/
theorem St.after {g h h' : Heap} {L : Addr} {lo : List (Str × Value)} {own own' : List (Addr × Obj)} {ks : List Addr} (S : St g L h lo own) (hk : ∀ b o, h.get? b = some o → b ∉ ks → h'.get? b = some o) (hks : ∀ b ∈ ks, b ∈ keys own)
    (hm : ∀ p ∈ own', h'.get? p.1 = some p.2) (hkeys : keys own' = keys own) : St g L h' lo own' := by
  obtain ⟨m, F, hl⟩ := S.fr
  have nk : ∀ b ∈ keys own, b ≠ L ∧ g.get? b = none := fun b hb => by
    obtain ⟨p, hp, rfl⟩ := List.mem_map.mp hb
    exact (S.nw p hp).2
  have hL : L ∉ ks := fun hm => (nk L (hks L hm)).1 rfl
  refine ⟨⟨m, ⟨?_, fun b o e => hk b o (F.keep b o e) fun hb => ?_, F.above⟩, hl⟩, fun p hp => ⟨hm p hp, nk _ (by rw [← hkeys]; exact List.mem_map_of_mem (f := (·.1)) hp)⟩, by show (keys own').Nodup; rw [hkeys]; exact S.nd⟩
  · obtain ⟨o, es, ep, e, r⟩ := F.ns
    exact ⟨o, es, ep, hk _ _ e hL, r⟩
  · have := (nk b (hks b hb)).2
    rw [e] at this; cases this

section
variable {prog : Program} {w : World} {A : Around} {E : Value → Shared → Prop} {g h : Heap} {L a b l it sl t x dx C f c' q0 : Addr} {lo : List (Str × Value)} {own own' own0 : List (Addr × Obj)} {G : Array GenState} {D : Drawn} {tk : Nat} {O : OsState}
  {vs ws : List Value} {n m i : Nat} {K : Frag} {name : Str} {v : Value} {es es' : List DictEntry} {n' : Nat} {b0 : Heap} {pos : Pos} {env : Env}

/-- a call of a K function, or of one at hand -/
theorem m_cwK {first : List Value} {e : Expr} {rest : List Expr} {M : Model} {Q : Value → Shared → Prop} {s : Shared} (hf : FnAt f s.heap) (hs : starEach (e :: rest) env = (false, eval e env) :: starEach rest env) (hp : ((backTo pos (starEach rest env)).any fun x => x.1) = false)
    (q : wpAny M A (spliced (backTo pos (starEach (e :: rest) env))) (fun vs s₁ => FnAt f s₁.heap ∧ wpAny M A (call (.ref f) (first ++ vs)) Q E s₁) E s) : wpAny M A (callWith pos (.ref f) first (backTo pos (starEach (e :: rest) env)) []) Q E s := callWith_F hf q hs hp
theorem m_cwK0 {first : List Value} {M : Model} {Q : Value → Shared → Prop} {s : Shared} (hf : FnAt f s.heap)
    (q : wpAny M A (call (.ref f) (first ++ [])) Q E s) : wpAny M A (callWith pos (.ref f) first (backTo pos (starEach [] env)) []) Q E s := callWith_F0 hf q
theorem fnAt_K {oc : Value} {od : Option Addr} {fd : FuncData} {osl : Array (Option Value)} (X : K.In g) (S : St g L h lo own) (ho : K.lookup f = some ⟨oc, od, .func fd, osl⟩) : FnAt f h := ⟨oc, od, fd, osl, S.gkeep _ _ (X _ _ ho)⟩
theorem fnAt_own {oc : Value} {od : Option Addr} {fd : FuncData} {osl : Array (Option Value)} (S : St g L h lo own) (ho : (f, (⟨oc, od, .func fd, osl⟩ : Obj)) ∈ own) : FnAt f h := ⟨oc, od, fd, osl, S.at ho⟩
theorem m_callF {M : Model} {Q : Value → Shared → Prop} {s : Shared} {args : List Value} (q : codeAny M A (.call (.ref f) ⟨args, []⟩) (fun r s' => match r with | .ok (.ret v) => Q v s' | .ok _ => False | .error e => E e s') s) : wpAny M A (call (.ref f) args) Q E s := wpAny_call q

/-- the call of a function with free names that is at hand -/
theorem m_enterOwn {R : Result → Shared → Prop} {nm qual : Str} {params : Arguments} {body : List Stmt} {scope : Scope} {doc pm ctv : Value} {cl : List (Str × Addr)} {args : Args} {binds : List (Str × Value)}
    (X : K.In b0) (hlim : b0.NoLimit) (hb : b0.StaysIn h) (hown : ∀ p ∈ own, h.get? p.1 = some p.2) (hnd : (own.map (·.1)).Nodup)
    (ho : (f, fnMade nm qual params body scope cl doc pm c' ctv) ∈ own) (hcd : h.CodeRec (.ref c') qual) (hroom : A.depth < recursionLimit)
    (hbind : BindsTo ⟨h, G, D, tk, O⟩ (fnX nm qual params body scope cl .none .none doc pm none (.ref c') ctv) args binds) (hloc : ∀ y ∈ binds, scope.names.lookup y.1 = some .local)
    (hcell : ∀ x ∈ scope.names, x.2 ≠ .cell) (hco : scope.isCoroutine = false) (hgen : scope.isGenerator = false) (hk : scope.kind = .function)
    (q : ∀ L h₁ tk₁, L = h.objs.size → (∀ b o, h.get? b = some o → h₁.get? b = some o) → St (gOf h own) L h₁ binds.reverse own →
      wpAny (model prog w) (A.deeper (envX qual scope L f (.ref c') cl)) (execs body (envX qual scope L f (.ref c') cl))
        (fun fl s' => R (.ok (.ret (match fl with | .ret v => v | _ => .none))) s')
        (fun e s' => wpAny (model prog w) (A.deeper (envX qual scope L f (.ref c') cl)) (leaving (envX qual scope L f (.ref c') cl) e) (fun _ s'' => R (.error e) s'') (fun e' s'' => R (.error e') s'') s')
        ⟨h₁, G, D, tk₁, O⟩) : codeAny (model prog w) A (.call (.ref f) args) R ⟨h, G, D, tk, O⟩ :=
  codeAny_call_def (fd := fnX nm qual params body scope cl .none .none doc pm none (.ref c') ctv) (body := body) (binds := binds) hroom (hown _ ho) rfl (hlim.keeps hb) hcd rfl hbind hcell hloc
    (fun h₁ hns hk₁ => q _ h₁ _ rfl hk₁ (st_start hown hnd hns hk₁)) hco hgen hk

theorem args_iter2 (a b : Value) : argsOk "iter" ⟨[a, b], []⟩ := by unfold argsOk; kernel_rfl
theorem kind_iter : builtinKind "iter" = none := by decide +kernel
theorem plain_iter : plainId "iter" = true := by decide +kernel
theorem method_callable : typeLookup (.type "method") "__call__" = pure (some (.builtin "method.__call__")) := by rw [typeLookup_type, builtinLookup_eq_fast]; kernel_rfl
theorem m_iter2 {Q : Value → Shared → Prop} {fv self : Value} {u : Tok} {y : Str} (S : St g L h lo own) (hm : (q0, methodObj fv self) ∈ own)
    (q : ∀ it h', St g L h' lo ((it, citOf (.ref q0) (.str y u)) :: own) → Q (.ref it) ⟨h', G, D, tk, O⟩) : wpAny (model prog w) A (call (.builtin "iter") [.ref q0, .str y u]) Q E ⟨h, G, D, tk, O⟩ := by
  refine Calls.call_function_entry kind_iter plain_iter kdk_entry_iter (args_iter2 _ _) ?_
  unfold Builtin.«iter»
  refine wpAny_bind (wpAny_of_eq (a := [.ref q0, .str y u]) (by first | rfl | kernel_rfl) ?_)
  dsimp only
  refine wpAny_bind (wpAny_specialOf (T := "method") ⟨_, S.at hm, rfl⟩ method_callable ?_)
  dsimp only [Option.isNone]
  rw [if_neg (by decide)]
  refine wpAny_bind (wpAny_rule ?_)
  unfold newFields
  refine wpAny_bind (wpAny_newObj_type ?_ (by show 3 ≤ sizeLine + 2; exact Nat.le_of_ble_eq_true rfl))
  exact wpAny_pure ⟨_, rfl, q _ _ S.push⟩

theorem m_citIter {Q : Value → Shared → Prop} {s : Shared} {fv sv : Value} (hi : s.heap.get? it = some (citOf fv sv)) (q : Q (.ref it) s) : wpAny (model prog w) A (pyIter (.ref it)) Q E s := by
  have hT : s.TypeIs (.ref it) "callable_iterator" := ⟨_, hi, rfl⟩
  refine wpAny_pyIter_slot hT slot_cit_iter (wpAny_call_entry slot_cit_iter hT entry_cit_iter ?_ (args_cit_iter _))
  show wpAny _ _ (ret (.ref it)) _ _ s
  exact wpAny_pure ⟨_, rfl, "callable_iterator", _, hT, slot_cit_next.lookup, q⟩

theorem truthy_ok (q : Prop) (h : q) : q := h
end
end Mine

namespace Mine
open Builtin Builtin.ObjectAttr

abbrev excBm : List Value := [.type "Exception", .type "BaseException", .type "object"]
/-- an object of an exception class of the script -/
abbrev excOf (C : Addr) (dd : Option Addr) (t : Addr) : Obj := { cls := .ref C, dict := dd, data := .fields #[.ref t, .none, .none, .none, .bool false, .none] }

structure DictMap (od : Obj) (m : Str → Option Value) : Prop where
  dat : ∃ es ep, od.data = .dict es ep ∧ StrKeys es ∧ UniqKeys es ∧ ∀ name, nsFind es name = m name
theorem DictMap.ns1 {h : Heap} {d : Addr} {od : Obj} {m : Str → Option Value} (x : DictMap od m) (e : h.get? d = some od) : h.Ns1 d m := let ⟨es, ep, a, b, c, f⟩ := x.dat; ⟨od, es, ep, e, a, b, c, f⟩
theorem DictMap.of {h : Heap} {d : Addr} {m : Str → Option Value} (x : h.Ns1 d m) : ∃ od, h.get? d = some od ∧ DictMap od m := let ⟨od, es, ep, e, a, b, c, f⟩ := x; ⟨od, e, ⟨es, ep, a, b, c, f⟩⟩

/-- an exception class of the script, with an `__init__` -/
structure ExcK (K : Frag) (C N : Addr) : Prop where
  obj : ∃ nm q bs sn sub ab col dd k0 k1 k2 k3 k5, K.lookup C = some (excClassObj nm q C N bs excBm true sn sub ab col dd k0 k1 k2 k3 k5 "Exception.__new__")
  ok : nsOkIn K N = true

theorem nsMap_some_of_in {K : Frag} {h : Heap} {N : Addr} {x : Str} {v : Value} (X : K.In h) (e : nsOkIn K N = true) (q : nsIn K N x = some (some v)) : h.nsMap N x = some v := by
  obtain ⟨o, es, ep, ho, hd, _, hf⟩ := Heap.Ns.of_isNs (isNs_of_in X e)
  unfold nsIn at q
  split at q
  · rename_i c d es' n' sl z
    have := X _ _ z
    rw [ho] at this
    cases this
    cases hd
    split at q
    · rename_i en he
      rw [← hf]
      unfold nsFind findBy
      rw [← Array.find?_toList, he]
      simpa using q
    · split at q <;> cases q
  · cases q

section
variable {prog : Program} {w : World} {A : Around} {E : Value → Shared → Prop} {g h : Heap} {L a b l it sl x dx C N f e d t : Addr} {lo : List (Str × Value)} {own own' own0 : List (Addr × Obj)} {G : Array GenState} {D : Drawn} {tk : Nat} {O : OsState}
  {K : Frag} {name : Str} {v : Value} {m : Str → Option Value}

/-- the class is called -/
theorem m_excNew {rest : List Value} {oI : Obj} {Q : Value → Shared → Prop} (S : St g L h lo own) (X : K.In g) (XC : ExcK K C N) (hi : nsIn K N "__init__" = some (some (.ref f))) (hf : K.lookup f = some oI) (hfc : oI.cls = .type "function") (hrest : rest.length ≤ sizeLine)
    (q : ∀ h' e t, St g L h' lo ((e, excOf C none t) :: (t, tupOf rest) :: own) → wpAny (model prog w) (A.under (.builtin "type.__call__" ⟨.ref C :: rest, []⟩)) (call (.ref f) (.ref e :: rest)) (fun r s' => r = .none ∧ Q (.ref e) s') E ⟨h', G, D, tk, O⟩) :
    wpAny (model prog w) A (call (.ref C) rest) Q E ⟨h, G, D, tk, O⟩ := by
  obtain ⟨m, F, _⟩ := S.fr
  have Xh := X.keeps F.keep
  obtain ⟨nm, qn, bs, sn, sub, ab, col, dd, k0, k1, k2, k3, k5, hC⟩ := XC.obj
  refine wpAny_call_exc_init PySem.F.excBase_Exception (Xh _ _ hC) (.of_isNs (isNs_of_in Xh XC.ok)) (nsMap_some_of_in Xh XC.ok hi) (Xh _ _ hf) hfc (fun h' e M => ?_) hrest
  obtain ⟨t, he, htn, ht⟩ := M.there
  refine q h' e t ?_
  have S1 := S.new M.keeps htn ht
  have hne : e ≠ t := fun z => by rw [z, ht] at he; cases he
  have S2 := S.new M.keeps M.new he
  refine ⟨S1.fr, fun p hp => ?_, ?_⟩
  · rcases List.mem_cons.mp hp with rfl | hp
    · exact S2.nw _ (.head _)
    · exact S1.nw p hp
  · have n2 := S2.nd
    rw [List.map_cons, List.nodup_cons] at n2 ⊢
    refine ⟨fun hm => ?_, S1.nd⟩
    rcases List.mem_cons.mp hm with z | hm
    · exact hne z
    · exact n2.1 hm

theorem exc_hx (S : St g L h lo ((e, excOf C none t) :: own)) : h.get? e = some (excOf C none t) := S.at (.head _)

/-- the first attribute of an exception -/
theorem exc_store0 {tk' : Tok} {Q : Fin → Shared → Prop} {nm q : Str} {bs : List Value} {sn : List Str} {sub : List Value} {ab : Bool} {col : Option Bool} {dd : Option Addr} {k0 k1 k2 k3 k5 : Option Value} {mN : Str → Option Value}
    (hC : h.get? C = some (excClassObj nm q C N bs excBm true sn sub ab col dd k0 k1 k2 k3 k5 "Exception.__new__")) (hn : h.Ns N mN) (hna : mN name = none) (hB : typeLookup (.type "Exception") name = pure none) (hx : h.get? e = some (excOf C none t))
    (hq : ∀ h' tk2 od, h'.get? e = some (excOf C (some h.objs.size) t) → h'.get? h.objs.size = some od → DictMap od (fun y => if y = name then some v else none) → (∀ b o, b ≠ e → h.get? b = some o → h'.get? b = some o) → Q (.done (.ret .none)) ⟨h', G, D, tk2, O⟩) :
    wpAny (model prog w) A (Builtin.«object.__setattr__» ⟨[.ref e, .str name tk', v], []⟩) Q E ⟨h, G, D, tk, O⟩ := by
  have SF := PySem.F.store_Exception
  have hpass := SF.passes (.ref e)
  have hx0 := hx
  obtain ⟨o, ho⟩ : ∃ o, o = excOf C none t := ⟨_, rfl⟩
  rw [← ho] at hx
  have hc : o.cls = .ref C := by rw [ho]
  have hdn : o.dict = none := by rw [ho]
  have hnc : ∀ c, o.data ≠ .cls c := fun c q => by rw [ho] at q; cases q
  unfold Builtin.«object.__setattr__»
  repeat (first | rw [refuse_eq] | (rw [refuseLoop_ref, hpass]) | (with_reducible refine wpAny_loadPart_at hx ?_; rw [hc]) | with_reducible refine wpAny_mroOf_exc hC ?_ | (with_reducible refine wpAny_typeLookup_exc hC hn SF.mro hB ?_; rw [hna]) | wp_step)
  rw [hdn, if_neg (by simp [typeHasDict])]
  split
  · rename_i hcd; cases hcd
  split
  · rename_i c hcd; exact absurd hcd (hnc c)
  have hx1 : (h.push { cls := .type "dict", data := .dict #[] }).get? e = some o := Heap.get?_push_of_some _ hx
  have hes : e ≠ h.objs.size := Nat.ne_of_lt (Heap.lt_size hx)
  refine wpAny_bind (wpAny_alloc' (wpAny_bind (wpAny_update' hx1 (wpAny_pure ?_))))
  have hgd : ((h.push { cls := .type "dict", data := .dict #[] }).update e fun o => { cls := o.cls, dict := some h.objs.size, data := o.data, slots := o.slots }).get? h.objs.size = some { cls := .type "dict", data := .dict #[] } :=
    (Heap.get?_update_ne _ _ _ _ hes.symm).trans (Heap.get?_push_at rfl rfl)
  have hnd : ((h.push { cls := .type "dict", data := .dict #[] }).update e fun o => { cls := o.cls, dict := some h.objs.size, data := o.data, slots := o.slots }).Ns h.objs.size (fun _ => none) :=
    ⟨_, #[], _, hgd, rfl, fun e he => absurd he (by simp), fun _ => rfl⟩
  show wpAny _ _ (storeInDict h.objs.size (.str name tk') name v) _ _ _
  unfold storeInDict newKeyGuard
  refine wpAny_bind (wpAny_pure (wpAny_bind (wpAny_nsSet1 (Heap.Ns1.of_empty hnd) fun h' hn' hs => ?_)))
  obtain ⟨oD, esD, epD, hoD, hdD, hcD⟩ := hn'.count (Within.cons name v Within.nil)
  refine wpAny_bind (wpAny_lookBehind hoD (by rw [hdD]; exact pastItsLine_dict (Nat.le_trans hcD (by rw [List.length_cons, List.length_nil, sizeLine_eq]; omega))) ?_)
  wp_walk
  obtain ⟨od, hod, hdm⟩ := DictMap.of hn'
  refine hq h' _ od ?_ hod hdm fun b ob hbe hb => (hs.2 b (Nat.ne_of_lt (Heap.lt_size hb))).trans ((Heap.get?_update_ne _ _ _ _ hbe).trans (Heap.get?_push_of_some _ hb))
  rw [hs.2 e hes, Heap.get?_update_self _ hx1 (by rw [ho]; rfl), ho]
end
end Mine

namespace Mine
open Builtin Builtin.ObjectAttr

section
variable {prog : Program} {w : World} {A : Around} {E : Value → Shared → Prop} {g h : Heap} {L a b l it sl x dx C N f e d t : Addr} {lo : List (Str × Value)} {own own' own0 : List (Addr × Obj)} {G : Array GenState} {D : Drawn} {tk : Nat} {O : OsState} {tk' : Tok}
  {K : Frag} {name : Str} {v : Value} {m : Str → Option Value} {od : Obj}

theorem chk_sa {Q : Unit → Shared → Prop} {nm q : Str} {bs : List Value} {sn : List Str} {sub : List Value} {ab : Bool} {col : Option Bool} {dd : Option Addr} {k0 k1 k2 k3 k5 : Option Value}
   (hC : h.get? C = some (excClassObj nm q C N bs excBm true sn sub ab col dd k0 k1 k2 k3 k5 "Exception.__new__")) (hx : h.get? e = some (excOf C none t)) (hq : Q () ⟨h, G, D, tk, O⟩) : wpAny (model prog w) A (checkBuiltinCall "object.__setattr__" ⟨[.ref e, .str name tk', v], []⟩) Q E ⟨h, G, D, tk, O⟩ :=
  @wpAny_check_sa A E h G D tk O nm q C N e bs excBm sn sub ab col dd k0 k1 k2 k3 k5 "Exception" "Exception.__new__" "object.__setattr__" "object" v (model prog w) (excOf C none t) (.str name tk') Q PySem.F.store_Exception hC hx rfl hq
theorem m_setExc0 {Q : Unit → Shared → Prop} (S : St g L h lo ((e, excOf C none t) :: own)) (X : K.In g) (XC : ExcK K C N) (hsa : findIn K (.ref C) "__setattr__" = some (some (.builtin "object.__setattr__"))) (hna : nsIn K N name = some none) (hB : typeLookup (.type "Exception") name = pure none)
    (q : ∀ h' tk' d od, DictMap od (fun y => if y = name then some v else none) → St g L h' lo ((e, excOf C (some d) t) :: (d, od) :: own) → Q () ⟨h', G, D, tk', O⟩) : wpAny (model prog w) A (setAttr (.ref e) name v) Q E ⟨h, G, D, tk, O⟩ := by
  obtain ⟨mm, F, hlo⟩ := S.fr
  have Xh := X.keeps F.keep
  obtain ⟨nm, qn, bs, sn, sub, ab, col, dd, k0, k1, k2, k3, k5, hC'⟩ := XC.obj
  have hC := Xh _ _ hC'
  have hn := Heap.Ns.of_isNs (isNs_of_in Xh XC.ok)
  have hx := S.at (.head _)
  have SF := PySem.F.store_Exception
  have I : InstAt h e (excOf C none t) C none := ⟨hx, rfl, rfl, trivial⟩
  refine set_plain (s := ⟨h, G, D, tk, O⟩) Xh I hsa ?_
  refine codeAny_call_builtin SF.slot.plain SF.entry ?_
  dsimp only
  refine chk_sa hC hx ?_
  refine exc_store0 hC hn (nsMap_none_of_in Xh XC.ok hna) hB hx ?_
  intro h' tk2 od h1 h2 h3 hk
  dsimp only
  refine q h' _ h.objs.size od h3 ?_
  have Lne : L ≠ e := fun z => (S.nw _ (.head _)).2.1 z.symm
  have hsz : h.get? h.objs.size = none := Heap.get?_none_of_le (Nat.le_refl _)
  have hge : g.get? e = none := (S.nw _ (.head _)).2.2
  have nin : ∀ p ∈ own, p.1 ≠ e := fun p hp z => S.apart (b := p.1) (o' := p.2) hp z.symm
  have ne2 : ∀ p ∈ (e, excOf C none t) :: own, h.objs.size ≠ p.1 := fun p hp z => by
    have := S.at (a := p.1) (o := p.2) hp
    rw [← z, hsz] at this; cases this
  refine ⟨⟨mm, ⟨?_, fun b o q => hk b o (fun z => by rw [z, hge] at q; cases q) (F.keep b o q), F.above⟩, hlo⟩, fun p hp => ?_, ?_⟩
  · obtain ⟨o, es, ep, z, r⟩ := F.ns
    exact ⟨o, es, ep, hk _ _ Lne z, r⟩
  · rcases List.mem_cons.mp hp with rfl | hp
    · exact ⟨h1, Lne.symm, hge⟩
    · rcases List.mem_cons.mp hp with rfl | hp
      · exact ⟨h2, fun z => by have := S.ltL; exact absurd (z ▸ this) (Nat.lt_irrefl _), S.gnone hsz⟩
      · have z := S.nw p (.tail _ hp)
        exact ⟨hk _ _ (nin p hp) z.1, z.2⟩
  · have nd := S.nd
    rw [List.map_cons, List.nodup_cons] at nd
    rw [List.map_cons, List.nodup_cons, List.map_cons, List.nodup_cons]
    refine ⟨fun hm => ?_, fun hm => ?_, nd.2⟩
    · rcases List.mem_cons.mp hm with z | hm
      · exact ne2 _ (.head _) z.symm
      · exact nd.1 hm
    · obtain ⟨p, hp, z⟩ := List.mem_map.mp hm
      exact ne2 p (.tail _ hp) z.symm

theorem m_setExc1 {Q : Unit → Shared → Prop} {ns : List Str} (S : St g L h lo ((e, excOf C (some d) t) :: (d, od) :: own)) (X : K.In g) (XC : ExcK K C N) (hs : nsIn K N "__setattr__" = some none) (hna : nsIn K N name = some none) (hB : typeLookup (.type "Exception") name = pure none)
    (hd : DictMap od m) (hw : Within m ns) (hsz : ns.length ≤ sizeLine)
    (q : ∀ h' tk' od, DictMap od (fun y => if y = name then some v else m y) → St g L h' lo ((e, excOf C (some d) t) :: (d, od) :: own) → Q () ⟨h', G, D, tk', O⟩) : wpAny (model prog w) A (setAttr (.ref e) name v) Q E ⟨h, G, D, tk, O⟩ := by
  obtain ⟨mm, F, hlo⟩ := S.fr
  have Xh := X.keeps F.keep
  obtain ⟨nm, qn, bs, sn, sub, ab, col, dd, k0, k1, k2, k3, k5, hC'⟩ := XC.obj
  have hC := Xh _ _ hC'
  have hn := Heap.Ns.of_isNs (isNs_of_in Xh XC.ok)
  have hx := S.at (.head _)
  have hde : d ≠ e := fun z => S.apart (.head _) z.symm
  have heC : e ≠ C := fun z => by rw [z, hC] at hx; cases hx
  have I : h.Inst e C m := ⟨_, hx, rfl, (fun c q => by cases q), .inr ⟨d, rfl, hde, hd.ns1 (S.at (.tail _ (.head _)))⟩⟩
  refine store_attr PySem.F.store_Exception hC hn (nsMap_none_of_in Xh XC.ok hs) (nsMap_none_of_in Xh XC.ok hna) hB heC I (fun h' tk' I' hk hsame => ?_) hw hsz
  obtain ⟨o1, e1, e2, e3, e4, e5⟩ := hsame _ hx
  have e6 := e5 d rfl
  have ho1 : o1 = excOf C (some d) t := by
    obtain ⟨c1, c2, c3, c4⟩ := o1
    dsimp only at e2 e3 e4 e6
    subst e2 e3 e4 e6
    rfl
  subst ho1
  obtain ⟨o2, z1, _, _, z4⟩ := I'
  rw [e1] at z1; cases z1
  rcases z4 with ⟨z, _⟩ | ⟨d2, z, _, hm2⟩
  · cases z
  cases z
  obtain ⟨od', hod, hdm⟩ := DictMap.of hm2
  refine q h' tk' od' hdm (S.after (ks := [d]) (fun b o hb hn => ?_) (fun b hb => by rcases List.mem_singleton.mp hb with rfl; exact .tail _ (.head _)) (fun p hp => ?_) rfl)
  · by_cases z : b = e
    · subst z; rw [hx] at hb; cases hb; exact e1
    · exact hk b o z (fun o0 dx q1 q2 q3 => by rw [hx] at q1; cases q1; cases q2; exact hn (by rw [q3]; exact .head _)) hb
  · rcases List.mem_cons.mp hp with rfl | hp
    · exact e1
    · rcases List.mem_cons.mp hp with rfl | hp
      · exact hod
      · have n1 : p.1 ≠ e := fun z => S.apart (b := p.1) (o' := p.2) (.tail _ hp) z.symm
        have n2 : p.1 ≠ d := fun z => by
          have := S.nd
          simp only [List.map_cons, List.nodup_cons] at this
          exact this.2.1 (z ▸ List.mem_map_of_mem (f := (·.1)) hp)
        exact hk _ _ n1 (fun o0 dx q1 q2 q3 => by rw [hx] at q1; cases q1; cases q2; exact n2 q3) (S.at (.tail _ (.tail _ hp)))

/-- an attribute of an exception's own dict -/
theorem m_getExc {expr : Bool} {Q : Value → Shared → Prop} {oe : Obj} (S : St g L h lo own) (X : K.In g) (XC : ExcK K C N) (hx : (e, oe) ∈ own) (hoc : oe.cls = .ref C) (hod : oe.dict = some d) (hof : ∃ fs, oe.data = .fields fs) (hdo : (d, od) ∈ own) (hd : DictMap od m) (hv : m name = some v)
    (hg : nsIn K N "__getattribute__" = some none) (hg2 : nsIn K N "__getattr__" = some none) (hna : nsIn K N name = some none) (hB : typeLookup (.type "Exception") name = pure none) (hh : handedIn v = true)
    (q : ∀ tk', Q v ⟨h, G, D, tk', O⟩) : wpAny (model prog w) A (getAttr (.ref e) name expr) Q E ⟨h, G, D, tk, O⟩ := by
  obtain ⟨mm, F, hlo⟩ := S.fr
  have Xh := X.keeps F.keep
  obtain ⟨nm, qn, bs, sn, sub, ab, col, dd, k0, k1, k2, k3, k5, hC'⟩ := XC.obj
  have hC := Xh _ _ hC'
  have hn := Heap.Ns.of_isNs (isNs_of_in Xh XC.ok)
  have FB := PySem.F.attrBase_Exception
  have ho := S.at hx
  have hns := hd.ns1 (S.at hdo)
  have hng := nsMap_none_of_in Xh XC.ok hg
  have hng2 := nsMap_none_of_in Xh XC.ok hg2
  have hnn := nsMap_none_of_in Xh XC.ok hna
  obtain ⟨fs, hfs⟩ := hof
  have f3 := FB.ga.bind (.ref e)
  have hx0 : (expr && onTheHeap (Value.builtin "BaseException.__getattribute__")) = false := by cases expr <;> rfl
  have hx2 : (Value.builtin "BaseException.__getattribute__" == Value.builtin "object.__getattribute__") = false := by decide +kernel
  have hx1 : (onTheHeap (Value.ref C) && Value.builtin "BaseException.__getattribute__" == Value.builtin "object.__getattribute__") = false := by rw [hx2]; rfl
  have hcB : (Value.ref C :: excBm).contains (.type "BaseException") = true := by rw [List.contains_cons, FB.hasBase, Bool.or_true]
  have hhv := handedOut_of hh
  unfold getAttr getAttrBy
  repeat (any_goals (first | assumption | (with_reducible refine wpAny_loadPart_at ho ?_; rw [hoc]) | (with_reducible refine wpAny_typeLookup_exc hC hn FB.mro FB.ga.lookup ?_; rw [hng]) | (with_reducible refine wpAny_typeLookup_exc hC hn FB.mro FB.noGetattr ?_; rw [hng2]) | wp_step))
  refine codeAny_call_builtin FB.ga.plain PySem.F.entry_bexc_ga (wpAny_check_ga_own FB hC .base ho hoc ?_)
  obtain ⟨oc, odd, oda, osl⟩ := oe
  dsimp only at hoc hod hfs
  subst hoc hod hfs
  repeat (any_goals (first | assumption | (with_reducible refine wpAny_loadPart_at ho ?_) | with_reducible refine wpAny_loadPart_at hC ?_ | (with_reducible refine wpAny_typeLookup_exc hC hn FB.mro hB ?_; rw [hnn]) | (with_reducible refine wpAny_nsGet hns.ns ?_; rw [hv]) | wp_step))
  exact q _
end
end Mine

namespace Mine
open Builtin Builtin.ObjectAttr

section
variable {prog : Program} {w : World} {A : Around} {E : Value → Shared → Prop} {g h : Heap} {L a b l it sl x dx C N f e d t : Addr} {lo : List (Str × Value)} {own own' own0 : List (Addr × Obj)} {G : Array GenState} {D : Drawn} {tk : Nat} {O : OsState} {tk' : Tok}
  {K : Frag} {name : Str} {v : Value} {m : Str → Option Value} {od : Obj} {env : Env} {pos : Pos} {rest : List Value}

theorem chk_init {M : Model} {Q : Unit → Shared → Prop} {nm q : Str} {bs : List Value} {sn : List Str} {sub : List Value} {ab : Bool} {col : Option Bool} {dd ed : Option Addr} {k0 k1 k2 k3 k5 : Option Value}
   (hC : h.get? C = some (excClassObj nm q C N bs excBm true sn sub ab col dd k0 k1 k2 k3 k5 "Exception.__new__")) (hx : h.get? e = some (excOf C ed t)) (hq : Q () ⟨h, G, D, tk, O⟩) : wpAny M A (checkBuiltinCall "Exception.__init__" ⟨.ref e :: rest, []⟩) Q E ⟨h, G, D, tk, O⟩ := by
  have F := PySem.F.excBase_Exception
  have hsub := F.sub
  have hshort := F.noStar
  have hcB : (Value.ref C :: excBm).contains (.type "Exception") = true := by rw [List.contains_cons, F.hasB, Bool.or_true]
  simp only [checkBuiltinCall, F.initKind, F.initSplit, F.initRow]
  refine wpAny_bind ?_
  unfold isInstance
  repeat (first | (with_reducible refine wpAny_loadPart_at hx ?_) | (with_reducible refine wpAny_isSubtype_exc hC ?_; rw [hcB]) | wp_step)
  refine wpAny_onRaise ?_
  rw [show ∀ (a b : String) (n : Nat), Bind.check ⟨.positional, "*", "Exception", .self, [⟨"args", .varPos, false⟩]⟩ a b n (List.map (fun x => x.fst) ({ pos := .ref e :: rest } : Args).kw) = pure () from
    fun a b n => check_star_args _ _ _ _ _ _]
  exact wpAny_pure hq

/-- `Exception.__init__(self, ..)` -/
theorem m_excInit {ed : Option Addr} {Q : Value → Shared → Prop} (S : St g L h lo ((e, excOf C ed t) :: own)) (X : K.In g) (XC : ExcK K C N) (hsz : rest.length ≤ sizeLine)
    (q : ∀ h' t', St g L h' lo ((e, excOf C ed t') :: (t', tupOf rest) :: own) → Q .none ⟨h', G, D, tk, O⟩) : wpAny (model prog w) A (call (.builtin "Exception.__init__") (.ref e :: rest)) Q E ⟨h, G, D, tk, O⟩ := by
  obtain ⟨mm, Fr, hlo⟩ := S.fr
  have Xh := X.keeps Fr.keep
  obtain ⟨nm, qn, bs, sn, sub, ab, col, dd, k0, k1, k2, k3, k5, hC'⟩ := XC.obj
  have hC := Xh _ _ hC'
  have hx := S.at (.head _)
  have F := PySem.F.excBase_Exception
  refine wpAny_call (codeAny_call_builtin F.init.plain F.initEntry (chk_init hC hx ?_))
  unfold Builtin.«BaseException.__init__»
  dsimp only
  rw [if_neg (by decide)]
  have S1 := S.push (o := tupOf rest) rfl
  have hx1 := S1.at (.tail _ (.head _))
  refine wpAny_bind (wpAny_newObj_type ?_ (by show rest.toArray.size ≤ sizeLine; rw [List.size_toArray]; exact hsz))
  refine wpAny_bind ?_
  unfold Builtin.BaseException.bexcPut
  refine wpAny_bind (wpAny_field (s := ⟨h.push (tupOf rest), G, D, tk, O⟩) hx1 rfl (x := .ref t) rfl ?_)
  refine wpAny_bind (wpAny_setField hx1 rfl (by simp) ?_)
  have hne : e ≠ h.objs.size := Nat.ne_of_lt (Heap.lt_size hx)
  have S2 := S1.upd (a := e) (o := excOf C ed t) (o' := excOf C ed h.objs.size) (own' := (h.objs.size, tupOf rest) :: (e, excOf C ed h.objs.size) :: own) (h' := (h.push (tupOf rest)).update e (Obj.mapFields (·.setIfInBounds 0 (Value.ref h.objs.size)))) (.there .here) (Heap.SameBut.update ..).extBut (by
    rw [Heap.get?_update_self _ hx1 (by rfl)]; simp [Obj.mapFields])
  refine wpAny_letGo ?_
  exact wpAny_pure (q _ _ (S2.perm (List.Perm.swap _ _ _)))

/-- `raise` with an object of the script's own exception class -/
theorem m_RaiseExc {y : Expr} {Q : Flow → Shared → Prop} {s : Shared} (hh : A.handled = none) (XC : ExcK K C N)
    (q : wpAny (model prog w) A (eval y env) (fun v s₁ => ∃ e dd t, v = .ref e ∧ K.In s₁.heap ∧ s₁.heap.get? e = some (excOf C dd t) ∧ E (.ref e) s₁) E s) : wpAny (model prog w) A (exec (.Raise (some y) none pos) env) Q E s := by
  obtain ⟨nm, qn, bs, sn, sub, ab, col, dd, k0, k1, k2, k3, k5, hC'⟩ := XC.obj
  have hcB : (Value.ref C :: excBm).contains (.type "BaseException") = true := by rw [List.contains_cons, PySem.F.excBase_Exception.hasBase, Bool.or_true]
  rw [arm_exec_Raise]
  simp only [evalOpt, Option.map]
  refine wpAny_bind (wpAny_standAt ?_)
  unfold raiseStmt
  refine wpAny_bind ?_
  refine wpAny_bind (wpAny_mono q (fun v s₁ h₁ => wpAny_bind (wpAny_standAt (wpAny_pure ?_))) fun _ _ x => x)
  obtain ⟨e, ed, t, rfl, Xh, he, hE⟩ := h₁
  have hC := Xh _ _ hC'
  obtain ⟨hp, g', d', tk2, os⟩ := s₁
  repeat (first | with_reducible refine wpAny_loadPart_at he ?_ | with_reducible refine wpAny_loadPart_at hC ?_ | (with_reducible refine wpAny_isSubtype_exc hC ?_; rw [hcB]) | wp_step)
  exact wpAny_raiseNew_none hh hE
end
end Mine

namespace Mine
theorem St.afterNew {g h h' : Heap} {L : Addr} {lo : List (Str × Value)} {own own1 new : List (Addr × Obj)} {ks : List Addr} (S : St g L h lo own) (hk : ∀ b o, h.get? b = some o → b ∉ ks → h'.get? b = some o) (hks : ∀ b ∈ ks, b ∈ keys own)
    (hm : ∀ p ∈ own1, h'.get? p.1 = some p.2) (hkeys : keys own1 = keys own) (hn : ∀ p ∈ new, h'.get? p.1 = some p.2 ∧ h.get? p.1 = none) (hd : (keys new).Nodup) : St g L h' lo (new ++ own1) := by
  have S1 := S.after hk hks hm hkeys
  refine ⟨S1.fr, fun p hp => ?_, ?_⟩
  · rcases List.mem_append.mp hp with hp | hp
    · have z := hn p hp
      refine ⟨z.1, fun q => ?_, S.gnone z.2⟩
      obtain ⟨m, F, _⟩ := S.fr
      obtain ⟨o, _, _, e, _⟩ := F.ns
      rw [← q, z.2] at e; cases e
    · exact S1.nw p hp
  · show (List.map (·.1) (new ++ own1)).Nodup
    rw [List.map_append, List.nodup_append]
    refine ⟨hd, S1.nd, fun a ha b hb q => ?_⟩
    subst q
    obtain ⟨p, hp, rfl⟩ := List.mem_map.mp ha
    have hb' : p.1 ∈ keys own := hkeys ▸ hb
    obtain ⟨p2, hp2, e2⟩ := List.mem_map.mp hb'
    have := (S.nw p2 hp2).1
    rw [e2, (hn p hp).2] at this
    cases this
/-- what the callee of `St.start` made, as the caller sees it -/
theorem St.made {h h' : Heap} {L : Addr} {lo : List (Str × Value)} {own own' : List (Addr × Obj)} {p : Addr × Obj} (S : St (gOf h own) L h' lo own') (hm : p ∈ own') (hn : p.1 ∉ keys own) : h'.get? p.1 = some p.2 ∧ h.get? p.1 = none :=
  ⟨(S.nw p hm).1, S.fresh (a := p.1) (o := p.2) hm hn⟩

theorem m_typeInit {prog : Program} {w : World} {A : Around} {E : Value → Shared → Prop} {g h : Heap} {L : Addr} {lo : List (Str × Value)} {own : List (Addr × Obj)} {G : Array GenState} {D : Drawn} {tk : Nat} {O : OsState} {K : Frag} {pl : Sem Bool} {Q : Value × List Value → Shared → Prop}
    (S : St g L h lo own) (X : K.In g) (ht : typeOf (.type "Exception") = pure (.type "type")) (hs : Manifest.isStub "Exception" = false) (e : findCls K (.type "Exception") (.type "type") "__init__" = some (.val (.builtin "Exception.__init__")))
    (q : ∀ tk', Q (.builtin "Exception.__init__", []) ⟨h, G, D, tk', O⟩) : wpAny (model prog w) A (getMethod (.type "Exception") "__init__" pl) Q E ⟨h, G, D, tk, O⟩ := by
  obtain ⟨m, F, _⟩ := S.fr
  exact method_type (s := ⟨h, G, D, tk, O⟩) F X ht hs e rfl (q _)
theorem m_cw_method0 {M : Model} {A : Around} {E : Value → Shared → Prop} {s : Shared} {env : Env} {id : String} {e : Expr} {rest : List Expr} {pos : Pos} {Q : Value → Shared → Prop}
    (hs : starEach (e :: rest) env = (false, eval e env) :: starEach rest env) (hp : ((backTo pos (starEach rest env)).any fun x => x.1) = false)
    (h : wpAny M A (spliced (backTo pos (starEach (e :: rest) env))) (fun vs s₁ => wpAny M A (call (.builtin id) vs) Q E s₁) E s) :
    wpAny M A (callWith pos (.builtin id) [] (backTo pos (starEach (e :: rest) env)) []) Q E s := m_cw_method (first := []) hs hp h
end Mine

namespace Mine
theorem St.hasK {g h : Heap} {L : Addr} {lo : List (Str × Value)} {own : List (Addr × Obj)} {K : Frag} (S : St g L h lo own) (X : K.In g) : K.In h := X.keeps S.gkeep
theorem m_cwCls {K : Frag} {g h : Heap} {L f : Addr} {lo : List (Str × Value)} {own : List (Addr × Obj)} {G : Array GenState} {D : Drawn} {tk : Nat} {O : OsState} {env : Env} {pos : Pos} {first : List Value} {e : Expr} {rest : List Expr} {M : Model} {A : Around} {E : Value → Shared → Prop} {Q : Value → Shared → Prop} (S : St g L h lo own) (X : K.In g) (hk : keepIn K (.ref f) = true)
    (hs : starEach (e :: rest) env = (false, eval e env) :: starEach rest env) (hp : ((backTo pos (starEach rest env)).any fun x => x.1) = false)
    (q : wpAny M A (spliced (backTo pos (starEach (e :: rest) env))) (fun vs s₁ => K.In s₁.heap ∧ wpAny M A (call (.ref f) (first ++ vs)) Q E s₁) E ⟨h, G, D, tk, O⟩) : wpAny M A (callWith pos (.ref f) first (backTo pos (starEach (e :: rest) env)) []) Q E ⟨h, G, D, tk, O⟩ :=
  callWith_K (s := ⟨h, G, D, tk, O⟩) (S.hasK X) hk q hs hp
theorem and_K {P Q : Prop} (p : P) (q : Q) : P ∧ Q := ⟨p, q⟩
/-- the raised exception, an object of the ledger's head -/
theorem raised_ok {K : Frag} {g h : Heap} {L C e t : Addr} {dd : Option Addr} {lo : List (Str × Value)} {own : List (Addr × Obj)} {G : Array GenState} {D : Drawn} {tk : Nat} {O : OsState} {E : Value → Shared → Prop} (S : St g L h lo own) (X : K.In g) (hm : (e, excOf C dd t) ∈ own) (q : E (.ref e) ⟨h, G, D, tk, O⟩) :
    ∃ e' dd t, Value.ref e = .ref e' ∧ K.In (Shared.heap ⟨h, G, D, tk, O⟩) ∧ (Shared.heap ⟨h, G, D, tk, O⟩).get? e' = some (excOf C dd t) ∧ E (.ref e') ⟨h, G, D, tk, O⟩ := ⟨e, dd, t, rfl, S.hasK X, S.at hm, q⟩
theorem St.stays {b0 g h : Heap} {L : Addr} {lo : List (Str × Value)} {own own0 : List (Addr × Obj)} (S : St g L h lo own) (hb : b0.StaysIn g) (hs : ∀ p ∈ own0, p ∈ own) : b0.StaysIn (gOf h own0) := fun b o e => by
  have hg := hb b o e
  refine gOf_keep (S.gkeep b o hg) fun hm => ?_
  obtain ⟨p, hp, q⟩ := List.mem_map.mp hm
  have := (S.nw p (hs p hp)).2.2
  rw [q, hg] at this; cases this
theorem St.initBack {g h h' : Heap} {L e : Addr} {lo : List (Str × Value)} {o o' : Obj} {own new : List (Addr × Obj)} (S : St g L h lo ((e, o) :: own)) (hk : ∀ b o, h.get? b = some o → b ∉ [e] → h'.get? b = some o) (he : h'.get? e = some o')
    (hn : ∀ p ∈ new, h'.get? p.1 = some p.2 ∧ h.get? p.1 = none) (hd : (keys new).Nodup) : St g L h' lo ((e, o') :: (new ++ own)) := by
  refine (S.afterNew (own1 := (e, o') :: own) hk (fun b hb => by rcases List.mem_singleton.mp hb with rfl; exact .head _) (fun p hp => ?_) rfl hn hd).perm List.perm_middle
  rcases List.mem_cons.mp hp with rfl | hp
  · exact he
  · exact hk _ _ (S.at (.tail _ hp)) fun hm => by rcases List.mem_singleton.mp hm with z; exact S.apart (b := p.1) (o' := p.2) hp z.symm
theorem Flown.sub {h0 h' : Heap} {ks : List Addr} {l : List Env} {e : Addr} {cls a0 fl : Value} {dd : Option Addr} {own own' : List (Addr × Obj)} (x : Flown h0 ks l e cls dd a0 fl own h') (hs : List.Sublist own' own) : Flown h0 ks l e cls dd a0 fl own' h' :=
  let ⟨B, x1, x2, x3⟩ := x.fly; ⟨⟨B, x1, fun q hq => x2 q (hs.subset hq), x3⟩, x.slots, fun q hq => x.fresh q (hs.subset hq), x.nd.sublist (hs.map _)⟩
theorem depth_type {A : Around} {env : Env} {C : Addr} {rest : List Value} {kw : List (Str × Value)} (h : A.depth < 400) : ((A.deeper env).under (.builtin "type.__call__" ⟨.ref C :: rest, kw⟩)).depth < 500 := by
  have e2 : (Code.builtin "type.__call__" ⟨.ref C :: rest, kw⟩).isGuard = false := by
    show guardIds.contains "type.__call__" = false
    decide +kernel
  have e3 : (Code.builtin "type.__call__" ⟨.ref C :: rest, kw⟩).isCaller = false := rfl
  have e4 : (Code.builtin "type.__call__" ⟨.ref C :: rest, kw⟩).frames = 0 := rfl
  have : (Code.builtin "type.__call__" ⟨.ref C :: rest, kw⟩).weight ≤ 1 := by
    unfold Code.weight
    rw [e2, e3, e4]
    split <;> simp
  show A.depth + 1 + _ < 500
  omega
end Mine

namespace Mine
section
variable {prog : Program} {w : World} {A : Around} {R : Result → Shared → Prop}
theorem key_init : Slot "KeyError" "__init__" "KeyError.__init__" := .of (owner := "KeyError") (n := "__init__") (by rw [typeLookup_type, builtinLookup_eq_fast]; kernel_rfl) (by decide +kernel) (by decide +kernel) (by decide +kernel)
    (by first | exact .inl (by decide +kernel) | exact .inr (by decide +kernel)) (by rw [isSubtype_type]; kernel_rfl)
theorem key_initEntry : entryFor table "KeyError.__init__" = some Builtin.«BaseException.__init__» := entryFor_alias (id' := "BaseException.__init__") (by rw [fastTable_eq_tree]; kernel_rfl) (by first | rfl | decide +kernel) (by decide +kernel) (by rw [fastTable_eq_tree]; kernel_rfl)
theorem key_sub : isSubtype (.type "KeyError") (.type "KeyError") = pure true := by rw [isSubtype_type]; kernel_rfl
theorem key_madeBy : Bind.madeBy (.type "KeyError") = pure (some "LookupError.__new__") := by kernel_rfl
theorem key_newOk (rest : List Value) : checkBuiltinCall "LookupError.__new__" ⟨.type "KeyError" :: rest, []⟩ = pure () := by kernel_rfl

theorem key_new {rest : List Value} {hp : Heap} {g : Array GenState} {d : Drawn} {tk : Nat} {os : OsState}
    (h : R (.ok (.ret (.ref (hp.objs.size + 1)))) ⟨(hp.push { cls := .type "tuple", data := .seq rest.toArray }).push { cls := .type "KeyError", data := .fields #[.ref hp.objs.size, .none, .none, .none, .bool false, .none] }, g, d, tk, os⟩)
    (hrest : rest.length ≤ sizeLine) : codeAny (model prog w) A (.builtin "LookupError.__new__" ⟨.type "KeyError" :: rest, []⟩) R ⟨hp, g, d, tk, os⟩ := by
  have hends : ("LookupError.__new__" : String).endsWith ".__new__" = true := by decide +kernel
  have howner : ("LookupError.__new__" : String).dropRight 8 = "LookupError" := by decide +kernel
  have hsub : isSubtype (.type "KeyError") (.type "LookupError") = pure true := by rw [isSubtype_type]; kernel_rfl
  have hna : isSubtype (.type "KeyError") (.type "AttributeError") = pure false := by rw [isSubtype_type]; kernel_rfl
  have hnn : isSubtype (.type "KeyError") (.type "NameError") = pure false := by rw [isSubtype_type]; kernel_rfl
  have hmade : Bind.madeHere "BaseException.__new__" (.type "KeyError") = pure () := by kernel_rfl
  refine codeAny_builtinAt PySem.F.excCall_LookupError.entry ?_
  unfold Builtin.«BaseException.__new__»
  refine PySem.wpAt_bind ?_
  show PySem.wpAt _ _ _ (stack >>= _) _ _ _
  refine PySem.wpAt_bind (PySem.wpAt_stack fun p below => PySem.wpAt_of_wpAny ?_)
  wp_walk
  refine PySem.wpAt_of_wpAny ?_
  rw [howner]
  wp_walk
  show R _ _
  rw [Heap.size_push]
  exact h
end
section
variable {prog : Program} {w : World} {A : Around} {E : Value → Shared → Prop}
theorem key_initSplit : splitId "KeyError.__init__" = some ("KeyError", "__init__") := by kernel_rfl
theorem key_initKind : builtinKind "KeyError.__init__" = some .slot := by kernel_rfl
theorem key_initRow : Manifest.signature? "KeyError.__init__" = some ⟨.positional, "*", "KeyError", .self, [⟨"args", .varPos, false⟩]⟩ := by kernel_rfl
theorem key_chk {M : Model} {self : Value} {rest : List Value} {Q : Unit → Shared → Prop} {hp : Heap} {g : Array GenState} {d : Drawn} {tk : Nat} {os : OsState} (hT : Shared.TypeIs ⟨hp, g, d, tk, os⟩ self "KeyError") (h : Q () ⟨hp, g, d, tk, os⟩) :
    wpAny M A (checkBuiltinCall "KeyError.__init__" ⟨self :: rest, []⟩) Q E ⟨hp, g, d, tk, os⟩ := by
  have hsub := key_sub
  have hshort : ("KeyError" != "*") = true := by decide +kernel
  simp only [checkBuiltinCall, key_initKind, key_initSplit, key_initRow]
  wp_walk
  refine wpAny_onRaise ?_
  rw [show ∀ (a b : String) (n : Nat), Bind.check ⟨.positional, "*", "KeyError", .self, [⟨"args", .varPos, false⟩]⟩ a b n (List.map (fun x => x.fst) ({ pos := self :: rest } : Args).kw) = pure () from
    fun a b n => check_star_args _ _ _ _ _ _]
  exact wpAny_pure h
theorem key_type_call {rest : List Value} {Q : Fin → Shared → Prop} {hp : Heap} {g : Array GenState} {d : Drawn} {tk : Nat} {os : OsState}
    (h : ∀ h' e, Heap.MadeExc hp h' e "KeyError" rest → Q (.done (.ret (.ref e))) ⟨h', g, d, tk, os⟩) (hrest : rest.length ≤ sizeLine) :
    wpAny (model prog w) A (Builtin.«type.__call__» ⟨.type "KeyError" :: rest, []⟩) Q E ⟨hp, g, d, tk, os⟩ := by
  have hnt : (Value.type "KeyError" == Value.type "type") = false := by decide +kernel
  have hcan : ((Manifest.find? "KeyError").bind fun x => List.findSome? (fun t => (Manifest.find? t).bind fun b =>
    if b.noNew = true then some true else if (b.attrs.any fun x => x.fst == "__new__") = true then some false else none) x.mro).getD false = false := by kernel_rfl
  have hchk : checkTypeCall "KeyError" ⟨rest, []⟩ = pure () := by kernel_rfl
  have hmro : mroOf (.type "KeyError") = pure [.type "KeyError", .type "LookupError", .type "Exception", .type "BaseException", .type "object"] := by rw [mroOf_type]; kernel_rfl
  have hne : ([.type "KeyError", .type "LookupError", .type "Exception", .type "BaseException", .type "object"] : List Value).isEmpty = false := rfl
  have hmade := key_madeBy
  wp_walk
  refine codeAny_call_builtin_code (Code.quiet_builtin _ (by decide +kernel)) (wpAny_of_eq (key_newOk rest) ?_)
  refine key_new ?_ hrest
  show wpAny _ _ _ _ _ _
  have hget : ((hp.push { cls := .type "tuple", data := .seq rest.toArray }).push { cls := .type "KeyError", data := .fields #[.ref hp.objs.size, .none, .none, .none, .bool false, .none] }).get? (hp.objs.size + 1) = some
      { cls := .type "KeyError", data := .fields #[.ref hp.objs.size, .none, .none, .none, .bool false, .none] } := by heap_get
  refine wpAny_bind (wpAny_isInstance ⟨_, hget, rfl⟩ key_sub ?_)
  wp_step
  refine wpAny_bind (wpAny_holding (wpAny_callSpecial?_slot ⟨_, hget, rfl⟩ key_init (wpAny_call (codeAny_call_builtin key_init.plain key_initEntry (key_chk ⟨_, hget, rfl⟩ ?_)))))
  unfold Builtin.«BaseException.__init__»
  dsimp only
  rw [if_neg (by decide)]
  refine wpAny_bind (wpAny_newObj_type ?_ (by show rest.toArray.size ≤ sizeLine; rw [List.size_toArray]; exact hrest))
  have hget2 := Heap.get?_push_of_some { cls := .type "tuple", data := .seq rest.toArray } hget
  refine wpAny_bind ?_
  unfold Builtin.BaseException.bexcPut
  refine wpAny_bind (wpAny_field hget2 rfl (x := .ref hp.objs.size) rfl ?_)
  refine wpAny_bind (wpAny_setField hget2 rfl (by simp) ?_)
  refine wpAny_letGo ?_
  refine wpAny_pure ?_
  refine wpAny_of_eq (a := PySem.Fin.done (.ret (.ref (hp.objs.size + 1)))) rfl ?_
  refine h _ _ ⟨fun b o hb => ?_, Heap.get?_none_of_le (Nat.le_succ _), hp.objs.size + 2, ?_, Heap.get?_none_of_le (by omega), ?_⟩
  · rw [Heap.get?_update_other _ _ (Nat.ne_of_gt (Nat.lt_succ_of_lt (Heap.lt_size hb)))]
    exact Heap.get?_push_of_some _ (Heap.get?_push_of_some _ (Heap.get?_push_of_some _ hb))
  · rw [Heap.get?_update_self _ (Heap.get?_push_of_some _ hget) rfl]
    simp only [Heap.size_push]
    rfl
  · rw [Heap.get?_update_other _ _ (show hp.objs.size + 1 ≠ hp.objs.size + 2 by omega)]
    exact Heap.get?_push_at (by simp only [Heap.size_push]) rfl
end
theorem keyRaise : ExcRaiseFacts "KeyError" where
  isExc := by rw [isSubtype_type]; kernel_rfl
  plainMeta := by kernel_rfl
abbrev keyExc (t : Addr) : Obj := { cls := .type "KeyError", data := .fields #[.ref t, .none, .none, .none, .bool false, .none] }
theorem St.madeExc {g h h' : Heap} {L e : Addr} {lo : List (Str × Value)} {own : List (Addr × Obj)} {args : List Value} (S : St g L h lo own) (M : Heap.MadeExc h h' e "KeyError" args) : ∃ t, St g L h' lo ((e, keyExc t) :: (t, tupOf args) :: own) := by
  obtain ⟨t, he, htn, ht⟩ := M.there
  have S1 := S.new M.keeps htn ht
  have hne : e ≠ t := fun z => by rw [z, ht] at he; injection he with he; injection he with h1; injection h1 with h1; exact absurd h1 (by decide)
  have S2 := S.new M.keeps M.new he
  refine ⟨t, S1.fr, fun p hp => ?_, ?_⟩
  · rcases List.mem_cons.mp hp with rfl | hp
    · exact S2.nw _ (.head _)
    · exact S1.nw p hp
  · have n2 := S2.nd
    rw [List.map_cons, List.nodup_cons] at n2 ⊢
    refine ⟨fun hm => ?_, S1.nd⟩
    rcases List.mem_cons.mp hm with z | hm
    · exact hne z
    · exact n2.1 hm
theorem key_call {prog : Program} {w : World} {A : Around} {E : Value → Shared → Prop} {rest : List Value} {Q : Value → Shared → Prop} {hp : Heap} {g : Array GenState} {d : Drawn} {tk : Nat} {os : OsState}
    (h : ∀ h' e, Heap.MadeExc hp h' e "KeyError" rest → Q (.ref e) ⟨h', g, d, tk, os⟩) (hrest : rest.length ≤ sizeLine) : wpAny (model prog w) A (call (.type "KeyError") rest) Q E ⟨hp, g, d, tk, os⟩ := by
  refine wpAny_call (codeAny_of_tree ?_)
  show wpAny _ _ (again (.builtin "type.__call__" ⟨.type "KeyError" :: rest, []⟩)) _ _ _
  exact wpAny_pure ⟨Code.quiet_builtin _ (by decide +kernel), codeAny_builtin entry_typeCall (key_type_call (fun h' e hm => h h' e hm) hrest)⟩
theorem m_RaiseKey {prog : Program} {w : World} {A : Around} {E : Value → Shared → Prop} {s : Shared} {env : Env} {y : Expr} {pos : Pos} {Q : Flow → Shared → Prop} (hh : A.handled = none)
    (h : wpAny (model prog w) A (eval y env) (fun v s₁ => ∃ e t, v = .ref e ∧ s₁.heap.get? e = some (keyExc t) ∧ E (.ref e) s₁) E s) :
    wpAny (model prog w) A (exec (.Raise (some y) none pos) env) Q E s := wpAny_Raise_made keyRaise hh h
end Mine

namespace Mine
section
variable {prog : Program} {w : World} {A : Around} {E : Value → Shared → Prop} {g h : Heap} {L x dx C : Addr} {lo : List (Str × Value)} {own own' : List (Addr × Obj)} {G : Array GenState} {D : Drawn} {tk : Nat} {O : OsState} {K : Frag} {name : Str} {v : Value} {es es' : List DictEntry} {n : Nat}
/-- an attribute that stands is given another value -/
theorem m_reOwn {Q : Unit → Shared → Prop} (S : St g L h lo own) (X : K.In g) (hx : (x, instObj C dx) ∈ own) (U : At dx (dictOf es n) (dictOf es' n) own own') (hp' : ∀ hsh key, putL name hsh key v es = es') (hn : putN name es n = n)
    (hs : findIn K (.ref C) "__setattr__" = some (some (.builtin "object.__setattr__"))) (hp : plainOver K C = true) (ht : takerIn K C name = some none) (hh : hasDictIn K C = true) (hl : (getL name es).isSome = true) (hz : es.length ≤ 900)
    (q : ∀ h' tk', St g L h' lo own' → Q () ⟨h', G, D, tk', O⟩) : wpAny (model prog w) A (setAttr (.ref x) name v) Q E ⟨h, G, D, tk, O⟩ :=
  m_setOwn S X hx (by rw [hp', hn]; exact U) hs hp ht hh hl hz q
theorem m_AugAttr {M : Model} {s : Shared} {env : Env} {o value : Expr} {attr : Str} {tpos pos : Pos} {op : Operator} {Q : Flow → Shared → Prop}
    (h : wpAny M A (eval o env) (fun ov s₁ => wpAny M A (getAttr ov attr true) (fun old s₂ => wpAny M A (eval value env) (fun v s₃ => wpAny M A (inplaceOp op old v) (fun new s₄ =>
            wpAny M A (setAttr ov attr new) (fun _ => Q .next) E s₄) E s₃) E s₂) E s₁) E s) :
    wpAny M A (exec (.AugAssign (.Attribute o attr tpos) op value pos) env) Q E s := wpAny_AugAssign_AttributeAny h
end
end Mine

namespace Mine
theorem Flown.keptBase {A : Around} {b0 g gg h h' : Heap} {L e : Addr} {lo : List (Str × Value)} {own own1 : List (Addr × Obj)} {ks : List Addr} {l : List Env} {cls a0 fl : Value} {dd : Option Addr} (x : Flown h ks l e cls dd a0 fl own1 h') (S : St g L h lo own) (hb : b0.StaysIn g) (hks : ∀ b ∈ ks, b ∈ keys own) (KB : Below A b0 l gg) : b0.StaysIn h' := fun b o q => by
  obtain ⟨B, x1, _, x3⟩ := x.fly
  have hg := hb b o q
  refine x1.stays b o (x3 b o (S.gkeep b o hg) (fun hm => ?_) fun hm => ?_)
  · obtain ⟨p, hp, z⟩ := List.mem_map.mp (hks b hm)
    have := (S.nw p hp).2.2
    rw [z, hg] at this; cases this
  · have := (KB.frames.mem hm).1
    rw [q] at this; cases this
theorem Flown.at {h h' : Heap} {ks : List Addr} {l : List Env} {e : Addr} {cls a0 fl : Value} {dd : Option Addr} {own1 : List (Addr × Obj)} (x : Flown h ks l e cls dd a0 fl own1 h') : ∃ oe vs, h'.get? e = some oe ∧ oe.cls = cls ∧ oe.dict = dd ∧ oe.data = .fields vs ∧ vs[0]? = some a0 := by
  obtain ⟨B, x1, _, _⟩ := x.fly
  obtain ⟨oe, vs, _, _, _, ⟨a1, a2, a3, a4, a5, _⟩, _⟩ := x1.exc
  exact ⟨oe, vs, a1, a2, a3, a4, a5⟩
theorem not_stop {M : Model} {A : Around} {E : Value → Shared → Prop} {Q : Bool → Shared → Prop} {K : Frag} {C N e : Addr} {oe : Obj} {s : Shared} (XC : ExcK K C N) (X : K.In s.heap) (he : s.heap.get? e = some oe) (hc : oe.cls = .ref C) (q : Q false s) : wpAny M A (isInstance (.ref e) (.type "StopIteration")) Q E s := by
  obtain ⟨nm, qn, bs, sn, sub, ab, col, dd, k0, k1, k2, k3, k5, hC'⟩ := XC.obj
  obtain ⟨hp, g, d, tk, os⟩ := s
  have hC := X _ _ hC'
  have hcB : (Value.ref C :: excBm).contains (.type "StopIteration") = false := by
    have : excBm.contains (.type "StopIteration") = false := by decide +kernel
    rw [List.contains_cons, this]; rfl
  unfold isInstance
  repeat (first | (with_reducible refine wpAny_loadPart_at he ?_; rw [hc]) | (with_reducible refine wpAny_isSubtype_exc hC ?_; rw [hcB]) | wp_step)
  exact q
theorem not_stopKey {M : Model} {A : Around} {E : Value → Shared → Prop} {Q : Bool → Shared → Prop} {e : Addr} {oe : Obj} {s : Shared} (he : s.heap.get? e = some oe) (hc : oe.cls = .type "KeyError") (q : Q false s) : wpAny M A (isInstance (.ref e) (.type "StopIteration")) Q E s :=
  wpAny_isInstance (T := "KeyError") (b := false) ⟨_, he, hc⟩ (by rw [isSubtype_type]; kernel_rfl) q
end Mine

namespace Mine
section
variable {prog : Program} {w : World} {A : Around} {E : Value → Shared → Prop} {g h : Heap} {L a b l l0 it sl t : Addr} {lo : List (Str × Value)} {own own' : List (Addr × Obj)} {G : Array GenState} {D : Drawn} {tk : Nat} {O : OsState}
  {vs ws : List Value} {n m i : Nat} {z y : Int} {u u' : Tok}
theorem m_abs {Q : Value → Shared → Prop} (q : ∀ t tk', Q (.int (if z < 0 then -z else z) t) ⟨h, G, D, tk', O⟩) : wpAny (model prog w) A (call (.builtin "abs") [.int z u]) Q E ⟨h, G, D, tk, O⟩ := call_abs_int fun u tk => q u tk
theorem m_mod {Q : Value → Shared → Prop} (hb : y ≠ 0) (q : ∀ t tk', Q (.int (z.fmod y) t) ⟨h, G, D, tk', O⟩) : wpAny (model prog w) A (binaryOp .Mod (.int z u) (.int y u')) Q E ⟨h, G, D, tk, O⟩ := PyProof.Rows.mod_int hb (q _ _)
theorem m_ifdiv {Q : Value → Shared → Prop} (hb : y ≠ 0) (hp : Builtin.divisionGoesByPylong z y = false) (q : ∀ t tk', Q (.int (z.fdiv y) t) ⟨h, G, D, tk', O⟩) : wpAny (model prog w) A (inplaceOp .FloorDiv (.int z u) (.int y u')) Q E ⟨h, G, D, tk, O⟩ := ifloordiv_int hb (q _ _) (.inl hp)
theorem m_pow {Q : Value → Shared → Prop} (h0 : 0 ≤ y) (h2 : y ≤ 1000000) (ha : z.natAbs < 2 ^ 64) (q : ∀ t tk', Q (.int (z ^ y.toNat) t) ⟨h, G, D, tk', O⟩) : wpAny (model prog w) A (binaryOp .Pow (.int z u) (.int y u')) Q E ⟨h, G, D, tk, O⟩ := pow_int_small h0 h2 ha (q _ _)
theorem m_iterG {Q : Value → Shared → Prop} (S : St g L h lo own) (hl : g.IsList l vs.toArray)
    (q : ∀ it h', St g L h' lo ((it, iterOf l 0) :: own) → Q (.ref it) ⟨h', G, D, tk, O⟩) : wpAny (model prog w) A (pyIter (.ref l)) Q E ⟨h, G, D, tk, O⟩ := by
  obtain ⟨o, ho, r⟩ := hl
  exact wpAny_pyIter_list (s := ⟨h, G, D, tk, O⟩) ⟨o, S.gkeep _ _ ho, r⟩ (q _ _ S.push)
theorem m_nextG {Q : Option Value → Shared → Prop} {x : Value} (S : St g L h lo own) (U : At it (iterOf l i) (iterOf l (i + 1)) own own') (hl : g.IsList l vs.toArray) (hx : vs[i]? = some x)
    (q : ∀ h', St g L h' lo own' → Q (some x) ⟨h', G, D, tk, O⟩) : wpAny (model prog w) A (pyNext (.ref it)) Q E ⟨h, G, D, tk, O⟩ := by
  obtain ⟨o, ho', _, n, hd⟩ := hl
  have ho := S.gkeep _ _ ho'
  have hi := S.at U.mem
  unfold pyNext
  refine wpAny_bind (wpAny_attempt (wpAny_callSpecial?_slot (name := Str.ofString "__next__") (s := ⟨h, G, D, tk, O⟩) (⟨_, hi, rfl⟩ : Shared.TypeIs ⟨h, G, D, tk, O⟩ (.ref it) "list_iterator") slot_listiter_next
    (wpAny_call_entry slot_listiter_next ⟨_, hi, rfl⟩ entry_listiter_next ?_ (args_listiter_next _))))
  show wpAny _ _ (field (.ref it) 0 >>= _) _ _ _
  refine wpAny_bind (wpAny_field hi rfl (x := .ref l) rfl ?_)
  show wpAny _ _ (if (Value.ref l == Value.none) = true then _ else _) _ _ _
  rw [if_neg (show ¬ ((Value.ref l == Value.none) = true) from Bool.false_ne_true)]
  show wpAny _ _ (field (.ref it) 1 >>= _) _ _ _
  refine wpAny_bind (wpAny_field hi rfl (x := .int i 0) rfl ?_)
  show wpAny _ _ (seqItems? (.ref l) >>= _) _ _ _
  refine wpAny_bind (wpAny_seqItems ho hd ?_)
  have hx' : vs.toArray[i]? = some x := by simpa using hx
  simp only [Int.toNat_natCast, hx']
  refine wpAny_bind (wpAny_setField hi rfl (by show 1 < 2; decide) (wpAny_pure ⟨x, rfl, wpAny_pure (q _ ?_)⟩))
  refine S.upd U (Heap.SameBut.update ..).extBut ?_
  rw [Heap.get?_update_self _ hi rfl]
  simp [Obj.mapFields, rawInt]
theorem m_nextEndG {Q : Option Value → Shared → Prop} (S : St g L h lo ((it, iterOf l i) :: own)) (hh : A.handled = none) (hl : g.IsList l vs.toArray) (hx : vs[i]? = none)
    (q : ∀ h', St g L h' lo own → Q none ⟨h', G, D, tk, O⟩) : wpAny (model prog w) A (pyNext (.ref it)) Q E ⟨h, G, D, tk, O⟩ := by
  obtain ⟨o, ho', r⟩ := hl
  refine wpAny_pyNext_list_end (s := ⟨h, G, D, tk, O⟩) hh ⟨_, S.at (.head _), rfl, rfl⟩ ⟨o, S.gkeep _ _ ho', r⟩ (by simpa using hx) fun h' he => q h' ?_
  obtain ⟨m, F, hlo⟩ := S.fr
  have z := S.nw _ (.head _)
  refine ⟨⟨m, ⟨F.ns.extBut he (Ne.symm z.2.1), fun b ob e => he b ob (fun q => ?_) (F.keep b ob e), F.above⟩, hlo⟩, fun p hp => ?_, (S.pick (.cons _ (List.Sublist.refl _))).nd⟩
  · rw [q] at e; rw [z.2.2] at e; cases e
  · exact ⟨he _ _ (fun e => S.apart (b := p.1) (o' := p.2) hp e.symm) (S.nw _ (.tail _ hp)).1, (S.nw _ (.tail _ hp)).2⟩

theorem strs_lay : ∀ (cs : List (Str × Tok)), (∀ c ∈ cs, OkS c.1) → PyData.canLayAll0 (cs.map fun c => PyData.str c.1) = true ∧ PyData.depthAll (cs.map fun c => PyData.str c.1) = 0
  | [], _ => ⟨rfl, rfl⟩
  | c :: r, h => by
    obtain ⟨h1, h2⟩ := strs_lay r fun x hx => h x (.tail _ hx)
    have h3 := (h c (.head _)).ok
    constructor
    · simp [PyData.canLayAll0, PyData.canLay0, h1, h3]
    · simp [PyData.depthAll, PyData.depth, h2]
theorem strs_shaped (cs : List (Str × Tok)) (h : ∀ c ∈ cs, OkS c.1) : SeqAt.shaped (.list (cs.map fun c => PyData.str c.1)) = true := by
  obtain ⟨h1, h2⟩ := strs_lay cs h
  have h3 : PyData.depth (.list (cs.map fun c => PyData.str c.1)) ≤ 64 := by simp only [PyData.depth]; omega
  have h4 : PyData.canLay0 (.list (cs.map fun c => PyData.str c.1)) = true := by simp only [PyData.canLay0, h1]
  simp only [SeqAt.shaped, h4, h3, Bool.true_and, decide_true]
theorem strs_reads (h : Heap) : ∀ cs : List (Str × Tok), ReadsAll h (strValues cs) (cs.map fun c => PyData.str c.1) []
  | [] => .nil
  | c :: r => .cons (as := []) (.str _ _) (strs_reads h r)
theorem m_eqNil {cs : List (Str × Tok)} {n0 : Nat} {Q : Value → Shared → Prop} (S : St g L h lo own) (h1 : (l, listOf (strValues cs).toArray n) ∈ own) (h0 : (l0, listOf ([] : List Value).toArray n0) ∈ own) (hok : ∀ c ∈ cs, OkS c.1) (hu : A.units < 600)
    (q : Q (.bool cs.isEmpty) ⟨h, G, D, tk, O⟩) : wpAny (model prog w) A (compareOp .Eq (.ref l) (.ref l0)) Q E ⟨h, G, D, tk, O⟩ := by
  refine m_eqd (s := ⟨h, G, D, tk, O⟩) (reads_list_at (S.at h1) rfl rfl (strs_reads h cs)) (reads_list_at (S.at h0) rfl rfl .nil) (strs_shaped _ hok) rfl (units_ok hu) ?_
  rw [show PyData.eqv (.list (cs.map fun c => PyData.str c.1)) (.list []) = cs.isEmpty by cases cs <;> simp [PyData.eqv, PyData.eqvAll]]
  exact q
end
theorem intsAre_at : ∀ {vs : List Value} {ns : List Int}, IntsAre vs ns → ∀ {i : Nat}, i < vs.length → ∃ z t, vs[i]? = some (.int z t)
  | _, _, .nil, i, h => by cases h
  | _, _, .cons z t r, 0, _ => ⟨z, t, rfl⟩
  | _, _, .cons z t r, i + 1, h => by
    obtain ⟨z', t', e⟩ := intsAre_at r (i := i) (by simpa using h)
    exact ⟨z', t', by simpa using e⟩
end Mine

namespace Mine
theorem fmod_nonneg14 (z : Int) {y : Int} (h : 0 < y) : 0 ≤ z.fmod y := by
  first
    | exact Int.fmod_nonneg_of_pos z h
    | (rw [Int.fmod_eq_emod_of_nonneg z (by omega)]; exact Int.emod_nonneg z (by omega))
open PySem in
theorem noPy14 (z : Int) : Builtin.divisionGoesByPylong z 14 = false := by
  unfold Builtin.divisionGoesByPylong
  simp only [show ((14 : Int) == 0) = false from rfl, Bool.false_eq_true, if_false]
  rw [show decide ((14 : Int).natAbs.log2 / 30 + 1 > 300) = false by decide +kernel, Bool.false_and]
end Mine

namespace Mine
section
variable {prog : Program} {w : World} {A : Around} {E : Value → Shared → Prop} {h : Heap} {G : Array GenState} {D : Drawn} {tk : Nat} {O : OsState} {env : Env} {pos : Pos} {out x : Str} {t : Tok} {a : Int}
theorem m_JoinedStr {v₁ v₂ : Expr} {rest : List Expr} {Q : Value → Shared → Prop} {s : Shared} (q : wpAny (model prog w) A (joinParts Str.empty (evalEach (v₁ :: v₂ :: rest) env)) Q E s) : wpAny (model prog w) A (eval (.JoinedStr (v₁ :: v₂ :: rest) pos) env) Q E s := JoinedStr_many q
theorem m_joinCons {e : Expr} {rest : List Expr} {Q : Value → Shared → Prop} {s : Shared} (he : evalEach (e :: rest) env = eval e env :: evalEach rest env)
    (q : wpAny (model prog w) A (eval e env) (fun v s₁ => match v with | .str y _ => (out ++ y).length ≤ sizeLine ∧ wpAny (model prog w) A (joinParts (out ++ y) (evalEach rest env)) Q E s₁ | _ => False) E s) : wpAny (model prog w) A (joinParts out (evalEach (e :: rest) env)) Q E s := by
  rw [he]; exact joinParts_cons q
theorem m_joinNil {Q : Value → Shared → Prop} (he : evalEach [] env = []) (hsz : out.length ≤ sizeLine) (q : ∀ t tk', Q (.str out t) ⟨h, G, D, tk', O⟩) : wpAny (model prog w) A (joinParts out (evalEach [] env)) Q E ⟨h, G, D, tk, O⟩ := by
  rw [he]; exact joinParts_nil (q _ _) hsz
theorem m_FVs {value : Expr} {Q : Value → Shared → Prop} {s : Shared} (q : wpAny (model prog w) A (eval value env) (fun v s₁ => wpAny (model prog w) A (convS v) (fun r s₂ => wpAny (model prog w) A (formatField r Str.empty) Q E s₂) E s₁) E s) :
    wpAny (model prog w) A (eval (.FormattedValue value 115 none pos) env) Q E s := wpAny_FormattedValue_s q
theorem m_convStr {Q : Value → Shared → Prop} (hsz : x.length ≤ sizeLine) (q : ∀ t' tk', Q (.str x t') ⟨h, G, D, tk', O⟩) : wpAny (model prog w) A (convS (.str x t)) Q E ⟨h, G, D, tk, O⟩ := by
  show wpAny _ _ (habitSame "fstring-hands-on-the-str" (.str x t)) _ _ _
  exact habitSame_str (fun t' k => q t' k) hsz
theorem m_convInt {Q : Value → Shared → Prop} (ha : a.natAbs.log2 < 1920) (q : ∀ t' tk', Q (.str (Str.ofString (toString a)) t') ⟨h, G, D, tk', O⟩) : wpAny (model prog w) A (convS (.int a t)) Q E ⟨h, G, D, tk, O⟩ := by
  show wpAny _ _ (pyStrObj (.int a t)) _ _ _
  exact pyStrObj_int ha (q _ _)
theorem m_fmtStr {Q : Value → Shared → Prop} (hsz : x.length ≤ sizeLine) (q : ∀ t' tk', Q (.str x t') ⟨h, G, D, tk', O⟩) : wpAny (model prog w) A (formatField (.str x t) Str.empty) Q E ⟨h, G, D, tk, O⟩ := formatField_str (fun t' k => q t' k) hsz
end
theorem log_small {a : Int} (h0 : 0 ≤ a) (h1 : a < 100) : a.natAbs.log2 < 1920 := by
  have h2 : a.natAbs < 100 := by omega
  have : a.natAbs.log2 ≤ a.natAbs := by
    rcases Nat.eq_zero_or_pos a.natAbs with z | z
    · rw [z]; decide
    · have := Nat.log2_lt (n := a.natAbs) (k := a.natAbs) (by omega)
      exact Nat.le_of_lt (this.mpr Nat.lt_two_pow_self)
  omega
/-- the figures of a small number are few -/
theorem figs_len {a : Int} (h0 : 0 ≤ a) (h1 : a < 100) : (Str.ofString (toString a)).length ≤ 10 := by
  obtain ⟨n, rfl⟩ := Int.eq_ofNat_of_zero_le h0
  have hn : n < 100 := by omega
  have key : ∀ n : Fin 100, (Str.ofString (toString ((n.val : Nat) : Int))).length ≤ 10 := by decide +kernel
  exact key ⟨n, hn⟩
theorem tot_ok {n : Nat} (h : n ≤ 1000) : n ≤ sizeLine := by have := sizeLine_eq; omega
end Mine

namespace Mine

theorem At.of {c : Addr} {o o' : Obj} : ∀ {own : List (Addr × Obj)}, (c, o) ∈ own → ∃ own', At c o o' own own'
  | _ :: _, .head _ => ⟨_, .here⟩
  | _ :: _, .tail _ hm => let ⟨r', u⟩ := At.of hm; ⟨_ :: r', .there u⟩
section
variable {M : Model} {A : Around} {E : Value → Shared → Prop} {g h : Heap} {L a c C D : Addr} {lo : List (Str × Value)} {own own' : List (Addr × Obj)} {G : Array GenState} {Dr : Drawn} {tk : Nat} {O : OsState}
  {K : Frag} {mg mb : Str → Option Value} {p : Program} {loose : List Str} {cn : Str} {cs : Scope} {ccd : Value} {cl : List (Str × Addr)} {x : Str} {pos : Pos} {v : Value} {o o' : Obj} {env : Env}

abbrev cellObj (v : Option Value) (o : Obj) : Obj := { o with data := .cell v }
/-- a captured name is bound -/
theorem m_storeC {Q : Unit → Shared → Prop} (S : St g L h lo own) (hx : (envX cn cs L a ccd cl).kindOf x = some .cell) (hk : cs.kind = .function) (hc : cl.lookup x = some c) (hm : (c, o) ∈ own) {v₀ : Option Value} (hd : o.data = .cell v₀)
    (q : ∀ h' o' own', o'.data = .cell (some v) → At c o o' own own' → St g L h' lo own' → Q () ⟨h', G, Dr, tk, O⟩) : wpAny M A (storeName (envX cn cs L a ccd cl) x v) Q E ⟨h, G, Dr, tk, O⟩ := by
  refine wpAny_storeName_cell hk hx hc ⟨o, S.at hm, hd⟩ fun h' hv hs => ?_
  obtain ⟨o', ho', hd'⟩ := hv
  obtain ⟨own', U⟩ := At.of (o' := o') hm
  exact q h' o' own' hd' U (S.upd U hs.extBut ho')

theorem me_local {Q : Value → Shared → Prop} (S : St g C h lo own) (hC : env.locals = C) (hv : lo.lookup x = some v) (hx : env.kindOf x = some .local) (hk : env.scope.kind = .function) (hd : (x == ("__debug__" : Str)) = false)
    (q : Q v ⟨h, G, Dr, tk, O⟩) : wpAny M A (eval (.Name x pos) env) Q E ⟨h, G, Dr, tk, O⟩ := by
  subst hC
  obtain ⟨m, F, hl⟩ := S.fr
  exact wpAny_Name (wpAny_loadName_local hk hx F.ns (hl _ _ hv) q) hd
theorem me_cell {Q : Value → Shared → Prop} (S : St g C h lo own) (hx : env.kindOf x = some .cell) (hk : env.scope.kind = .function) (hd : (x == ("__debug__" : Str)) = false) (hc : env.cells.lookup x = some c) (hm : (c, o) ∈ own) (ho : o.data = .cell (some v))
    (q : Q v ⟨h, G, Dr, tk, O⟩) : wpAny M A (eval (.Name x pos) env) Q E ⟨h, G, Dr, tk, O⟩ := wpAny_Name (wpAny_loadName_cell hk hx hc ⟨o, S.at hm, ho⟩ q) hd
theorem me_blt {Q : Value → Shared → Prop} (S : St g C h lo own) (hg : env.globals = mainGlobals) (hx : env.kindOf x = some .globalImplicit) (hk : env.scope.kind = .function) (hd : (x == ("__debug__" : Str)) = false) (hn : x ≠ "__name__") (hbn : env.builtins = builtinsNs)
    (X : K.In g) (T : TopRead p loose mg mb g) (e : nsIn K mainGlobals x = some none) (hv : bootBuiltins x = some v) (q : Q v ⟨h, G, Dr, tk, O⟩) : wpAny M A (eval (.Name x pos) env) Q E ⟨h, G, Dr, tk, O⟩ := by
  obtain ⟨m, F, hl⟩ := S.fr
  exact Name_function_global hk hx (loadGlobal_builtin (env := env) (by rw [hg]; exact T.g.keeps F.keep) (mg_none_of X T.g e) (by rw [hbn]; exact T.b.keeps F.keep) ((T.builtins x hn).trans hv) q) hd
theorem me_store {Q : Unit → Shared → Prop} (S : St g C h lo own) (hC : env.locals = C) (hx : env.kindOf x = some .local) (hk : env.scope.kind = .function)
    (q : ∀ h' tk', St g C h' ((x, v) :: lo) own → Q () ⟨h', G, Dr, tk', O⟩) : wpAny M A (storeName env x v) Q E ⟨h, G, Dr, tk, O⟩ := by
  subst hC
  obtain ⟨m, F, hl⟩ := S.fr
  exact wpAny_storeName_local hx F.ns (fun h' hn hs => q h' _ (S.set hl hn hs)) (by show (env.scope.kind == .class || (env.scope.kind == .module && env.locals != env.globals)) = false; rw [hk]; rfl)
end

section
variable {prog : Program} {w : World} {A : Around} {E : Value → Shared → Prop} {g h : Heap} {L a c C D it : Addr} {lo : List (Str × Value)} {own own' : List (Addr × Obj)} {G : Array GenState} {Dr : Drawn} {tk : Nat} {O : OsState} {x : Str} {env : Env} {i j : Int} {t u : Tok}
abbrev rangeOf (i j : Int) (t u v : Tok) : Obj := { cls := .type "range", dict := none, data := .fields #[.int i t, .int j u, .int 1 v], slots := #[] }
abbrev rangeIt (x left : Int) : Obj := { cls := .type "range_iterator", dict := none, data := .fields #[rawInt x, rawInt left, rawInt 1], slots := #[] }
theorem m_rangeIter {v : Tok} {Q : Value → Shared → Prop} (S : St g L h lo own) (hm : (a, rangeOf i j t u v) ∈ own) (hs : Builtin.Range.small i j 1 = true)
    (q : ∀ it h', St g L h' lo ((it, rangeIt i (Builtin.Range.rangeSize i j 1)) :: own) → Q (.ref it) ⟨h', G, Dr, tk, O⟩) : wpAny (model prog w) A (pyIter (.ref a)) Q E ⟨h, G, Dr, tk, O⟩ :=
  wpAny_pyIter_range (s := ⟨h, G, Dr, tk, O⟩) (S.at hm) hs (q _ _ S.push)
theorem m_rangeNext {y left : Int} {Q : Option Value → Shared → Prop} (S : St g L h lo own) (U : At it (rangeIt y left) (rangeIt (y + 1) (left - 1)) own own') (hl : 0 < left)
    (q : ∀ t h' tk', St g L h' lo own' → Q (some (.int y t)) ⟨h', G, Dr, tk', O⟩) : wpAny (model prog w) A (pyNext (.ref it)) Q E ⟨h, G, Dr, tk, O⟩ :=
  wpAny_pyNext_range_item (s := ⟨h, G, Dr, tk, O⟩) (S.at U.mem) hl fun h' hi hs => q _ h' _ (S.upd U hs.extBut hi)
theorem m_rangeEnd {y left : Int} {Q : Option Value → Shared → Prop} (S : St g L h lo ((it, rangeIt y left) :: own)) (hh : A.handled = none) (hl : left ≤ 0)
    (q : ∀ h', St g L h' lo own → Q none ⟨h', G, Dr, tk, O⟩) : wpAny (model prog w) A (pyNext (.ref it)) Q E ⟨h, G, Dr, tk, O⟩ := by
  refine wpAny_pyNext_range_end (s := ⟨h, G, Dr, tk, O⟩) hh (S.at (.head _)) hl fun h' he => q h' ?_
  obtain ⟨m, F, hlo⟩ := S.fr
  have z := S.nw _ (.head _)
  refine ⟨⟨m, ⟨F.ns.extBut he (Ne.symm z.2.1), fun b ob e => he b ob (fun q => ?_) (F.keep b ob e), F.above⟩, hlo⟩, fun p hp => ?_, (S.pick (.cons _ (List.Sublist.refl _))).nd⟩
  · rw [q] at e; rw [z.2.2] at e; cases e
  · exact ⟨he _ _ (fun e => S.apart (b := p.1) (o' := p.2) hp e.symm) (S.nw _ (.tail _ hp)).1, (S.nw _ (.tail _ hp)).2⟩

/-- the comprehension's own frame: the locals of the function at hand are an object of the ledger -/
theorem m_compGo {scope : Scope} {cl : List (Str × Addr)} {e : Expr} {itv : Value} {R : Value → Addr → Result → Shared → Prop} (S : St g L h lo own) (hcell : ∀ y ∈ scope.names, y.2 ≠ .cell) (hkind : scope.kind = .function)
    (q : ∀ D C h' tk' oL, h.get? L = some oL → St g C h' [] ((D, listOf ([] : List Value).toArray 0) :: (L, oL) :: own) → codeAny (model prog w) A (.compStart e 0 itv (.ref D) (compEnvC scope cl C env)) (R (.ref D) C) ⟨h', G, Dr, tk', O⟩) :
    wpAny (model prog w) A (newList []) (fun acc s₃ => wpAny (model prog w) A (newFunctionEnv scope env.globals cl [] env.qual none .none (some env)) (fun cenv s₄ =>
        codeAny (model prog w) A (.compStart e 0 itv acc { cenv with scope := relabel scope env }) (R acc cenv.locals) s₄) E s₃) E ⟨h, G, Dr, tk, O⟩ := by
  obtain ⟨m, F, _⟩ := S.fr
  obtain ⟨oL, es, ep, hL, r⟩ := F.ns
  refine wpAny_newObj_type ?_ (by show 0 ≤ sizeLine; exact Nat.zero_le _)
  have S1 := S.push (o := listOf ([] : List Value).toArray 0) rfl
  have hL1 : (h.push (listOf ([] : List Value).toArray 0)).get? L = some oL := Heap.get?_push_of_some _ hL
  refine wpAny_newFunctionEnv hcell (fun _ hx => nomatch hx) (fun h₁ hns hsb => ?_) hkind
  have k : ∀ b o, (h.push (listOf ([] : List Value).toArray 0)).get? b = some o → h₁.get? b = some o := fun b o e => hsb.extBut b o (Nat.ne_of_lt (Heap.lt_size e)) (Heap.get?_push_of_some _ e)
  have nL : (L : Addr) ∉ keys ((h.objs.size, listOf ([] : List Value).toArray 0) :: own) := fun hm => by
    obtain ⟨p, hp, z⟩ := List.mem_map.mp hm
    exact (S1.nw p hp).2.1 z
  have gL : g.get? L = none := Heap.get?_none_of_le F.above
  refine q h.objs.size (h.push (listOf ([] : List Value).toArray 0)).objs.size h₁ _ oL hL ⟨⟨_, ⟨hns, fun b o e => k b o (S1.gkeep b o e), ?_⟩, fun x v e => by cases e⟩, fun p hp => ?_, ?_⟩
  · exact Nat.le_trans F.above (Nat.le_of_lt (Heap.lt_size hL1))
  · rcases List.mem_cons.mp hp with rfl | hp
    · have z := S1.nw _ (.head _)
      exact ⟨k _ _ z.1, Nat.ne_of_lt (Heap.lt_size z.1), z.2.2⟩
    · rcases List.mem_cons.mp hp with rfl | hp
      · exact ⟨k _ _ hL1, Nat.ne_of_lt (Heap.lt_size hL1), gL⟩
      · have z := S1.nw p (.tail _ hp)
        exact ⟨k _ _ z.1, Nat.ne_of_lt (Heap.lt_size z.1), z.2.2⟩
  · have nd := S1.nd
    rw [List.map_cons, List.nodup_cons] at nd
    rw [List.map_cons, List.map_cons, List.nodup_cons, List.nodup_cons]
    refine ⟨fun hm => ?_, fun hm => nL (.tail _ hm), nd.2⟩
    rcases List.mem_cons.mp hm with z | hm
    · exact nL (by show L ∈ _; rw [show L = h.objs.size from z.symm]; exact .head _)
    · exact nd.1 hm
/-- the comprehension's end -/
theorem m_compEnd {M : Model} {lo2 : List (Str × Value)} {oD oL : Obj} {own2 : List (Addr × Obj)} {h2 : Heap} {f : Flow} {Q : Value → Shared → Prop} (S : St g L h lo own) (hL : h.get? L = some oL) (S2 : St g C h2 lo2 ((D, oD) :: (L, oL) :: own2))
    (q : ∀ h3, St g L h3 lo ((D, oD) :: own2) → Q (.ref D) ⟨h3, G, Dr, tk, O⟩) : compPost M A E none Q (.ref D) C (.ok f) ⟨h2, G, Dr, tk, O⟩ := by
  obtain ⟨m2, F2, _⟩ := S2.fr
  refine ⟨m2, F2.ns, fun h3 hs => q h3 ?_⟩
  obtain ⟨m, F, hlo⟩ := S.fr
  have kk : ∀ p ∈ (D, oD) :: (L, oL) :: own2, h3.get? p.1 = some p.2 := fun p hp => (hs.2 _ (S2.nw p hp).2.1).trans (S2.nw p hp).1
  have nd := S2.nd
  simp only [List.map_cons, List.nodup_cons, List.mem_cons, not_or] at nd
  refine ⟨⟨m, ⟨?_, fun b o e => ?_, F.above⟩, hlo⟩, fun p hp => ?_, ?_⟩
  · obtain ⟨o, es, ep, e, r⟩ := F.ns
    rw [hL] at e; cases e
    exact ⟨oL, es, ep, kk _ (.tail _ (.head _)), r⟩
  · exact (hs.2 b (Nat.ne_of_lt (Nat.lt_of_lt_of_le (Heap.lt_size e) F2.above))).trans (F2.keep b o e)
  · rcases List.mem_cons.mp hp with rfl | hp
    · exact ⟨kk _ (.head _), nd.1.1, (S2.nw _ (.head _)).2.2⟩
    · exact ⟨kk _ (.tail _ (.tail _ hp)), fun z => nd.2.1 (z ▸ List.mem_map_of_mem (f := (·.1)) hp), (S2.nw _ (.tail _ (.tail _ hp))).2.2⟩
  · rw [List.map_cons, List.nodup_cons]
    exact ⟨nd.1.2, nd.2.2⟩
end
end Mine

namespace Mine
theorem At.det {a : Addr} {o o' : Obj} {l l1 l2 : List (Addr × Obj)} (nd : (l.map (·.1)).Nodup) (U : At a o o' l l1) (V : At a o o' l l2) : l1 = l2 := by
  induction U generalizing l2 with
  | @here r =>
    generalize hl : (a, o) :: r = l at V
    cases V with
    | here => cases hl; rfl
    | @there p r2 r3 V =>
      cases hl
      rw [List.map_cons, List.nodup_cons] at nd
      exact absurd (List.mem_map_of_mem (f := (·.1)) V.mem) nd.1
  | @there p r r' U ih =>
    rw [List.map_cons, List.nodup_cons] at nd
    generalize hl : p :: r = l at V
    cases V with
    | here =>
      cases hl
      exact absurd (List.mem_map_of_mem (f := (·.1)) U.mem) nd.1
    | there V =>
      cases hl
      rw [ih nd.2 V]
/-- a captured name is bound; the ledger's new shape by `f` -/
theorem m_storeC' {M : Model} {A : Around} {E : Value → Shared → Prop} {g h : Heap} {L a c : Addr} {lo : List (Str × Value)} {own : List (Addr × Obj)} {G : Array GenState} {Dr : Drawn} {tk : Nat} {O : OsState} {cn : Str} {cs : Scope} {ccd : Value} {cl : List (Str × Addr)} {x : Str} {v : Value} {o : Obj} {v₀ : Option Value} {Q : Unit → Shared → Prop}
    (f : Obj → List (Addr × Obj)) (S : St g L h lo own) (hx : (envX cn cs L a ccd cl).kindOf x = some .cell) (hk : cs.kind = .function) (hc : cl.lookup x = some c) (hU : ∀ o', At c o o' own (f o')) (hd : o.data = .cell v₀)
    (q : ∀ h' o', o'.data = .cell (some v) → St g L h' lo (f o') → Q () ⟨h', G, Dr, tk, O⟩) : wpAny M A (storeName (envX cn cs L a ccd cl) x v) Q E ⟨h, G, Dr, tk, O⟩ :=
  m_storeC S hx hk hc (hU o).mem hd fun h' o' own' ho' U S' => q h' o' ho' ((At.det S.nd U (hU o')) ▸ S')
/-- an object is made -/
theorem m_newInst {prog : Program} {w : World} {A : Around} {E : Value → Shared → Prop} {g h : Heap} {L C f : Addr} {lo : List (Str × Value)} {own : List (Addr × Obj)} {G : Array GenState} {Dr : Drawn} {tk : Nat} {O : OsState} {K : Frag} {args : List Value} {Q : Value → Shared → Prop} (S : St g L h lo own) (X : K.In g)
    (hm : makesIn K C = true) (hi : findIn K (.ref C) "__init__" = some (some (.ref f))) (hf : isFn K (.ref f) = true)
    (q : ∀ x dx h', St g L h' lo ((x, instObj C dx) :: (dx, dictOf [] 0) :: own) →
      codeAny (model prog w) (A.under (.builtin "type.__call__" ⟨.ref C :: args, []⟩)) (.call (.ref f) ⟨.ref x :: args, []⟩) (InitBack x fun r s' => match r with | .ok (.ret v) => Q v s' | .ok _ => False | .error e => E e s') ⟨h', G, Dr, tk, O⟩) :
    wpAny (model prog w) A (call (.ref C) args) Q E ⟨h, G, Dr, tk, O⟩ := by
  obtain ⟨m, F, hlo⟩ := S.fr
  refine call_cls (s := ⟨h, G, Dr, tk, O⟩) F X S.nw hm hi hf fun x dx h' F' N' h1 h2 => q x dx h' ⟨⟨m, F', hlo⟩, N', ?_⟩
  rw [List.map_cons, List.map_cons, List.nodup_cons, List.nodup_cons]
  refine ⟨fun hm => ?_, fun hm => ?_, S.nd⟩
  · rcases List.mem_cons.mp hm with z | hm
    · exact absurd (show x = dx from z) (Nat.ne_of_gt h2)
    · obtain ⟨p, hp, z⟩ := List.mem_map.mp hm
      have := h1 p hp
      dsimp only at z
      rw [z] at this
      exact absurd (Nat.lt_trans this h2) (Nat.lt_irrefl _)
  · obtain ⟨p, hp, z⟩ := List.mem_map.mp hm
    have := h1 p hp
    dsimp only at z
    rw [z] at this
    exact absurd this (Nat.lt_irrefl _)
theorem depth_type2 {A : Around} {C : Addr} {rest : List Value} {kw : List (Str × Value)} (h : A.depth < 400) : (A.under (.builtin "type.__call__" ⟨.ref C :: rest, kw⟩)).depth < 500 := by
  have e2 : (Code.builtin "type.__call__" ⟨.ref C :: rest, kw⟩).isGuard = false := by
    show guardIds.contains "type.__call__" = false
    decide +kernel
  have e3 : (Code.builtin "type.__call__" ⟨.ref C :: rest, kw⟩).isCaller = false := rfl
  have e4 : (Code.builtin "type.__call__" ⟨.ref C :: rest, kw⟩).frames = 0 := rfl
  have : (Code.builtin "type.__call__" ⟨.ref C :: rest, kw⟩).weight ≤ 1 := by
    unfold Code.weight
    rw [e2, e3, e4]
    split <;> simp
  show A.depth + _ < 500
  omega
end Mine

namespace Mine
theorem m_nest {M : Model} {A : Around} {E : Value → Shared → Prop} {g h : Heap} {L a c P : Addr} {lo : List (Str × Value)} {r : List (Addr × Obj)} {G : Array GenState} {Dr : Drawn} {tk : Nat} {O : OsState} {cn : Str} {cs : Scope} {ccd : Value} {cl : List (Str × Addr)}
    {p : Program} {loose : List Str} {mean : ExcName → Option Value} {mg mb : Str → Option Value} {name qual : Str} {params : Arguments} {body : List Stmt} {scope : Scope} {ps : Array Value} {pos : Pos} {firstLine : Nat} {clos : List (Str × Addr)} {Q : Value → Shared → Prop}
    (S : St g L h lo ((P, tabObj ps) :: r)) (T : Top p loose mean mg mb g) (C : CodeHd g c P) (hcd : ccd = .ref c) (ht : TriplesOk ps.toList) (hnf : codeAmong pos ps.toList = none) (hcl : closureFor scope (envX cn cs L a ccd cl) = pure clos)
    (q : ∀ f c' oc vs t ctv doc ps' pm h' tk', St g L h' lo ((f, fnMade name qual params body scope clos doc pm c' ctv) :: (c', oc) :: (P, tabObj ps') :: r) → oc.data = .fields vs → vs[1]? = some (.str qual t) → Q (.ref f) ⟨h', G, Dr, tk', O⟩) :
    wpAny M A (makeFunction name qual params (.stmts body) scope (envX cn cs L a ccd cl) [] [] [] pos firstLine) Q E ⟨h, G, Dr, tk, O⟩ := by
  obtain ⟨m, F, hlo⟩ := S.fr
  have nd := S.nd
  rw [List.map_cons, List.nodup_cons] at nd
  refine nest_K (s := ⟨h, G, Dr, tk, O⟩) F S.nw T C hcd (.head fun p hp z => nd.1 (z ▸ List.mem_map_of_mem (f := (·.1)) hp)) ht hnf hcl fun f c' oc vs t ctv doc h' tk' F' N' hd hv h1 h2 => q f c' oc vs t ctv doc _ _ h' tk' ⟨⟨m, F', hlo⟩, N', ?_⟩ hd hv
  have lt : ∀ b ∈ keys ((P, tabObj ps) :: r), b < c' := fun b hb => by
    obtain ⟨p, hp, z⟩ := List.mem_map.mp hb
    have := h1 p hp
    rw [show p.1 = b from z] at this
    exact this
  rw [List.map_cons, List.map_cons, List.nodup_cons, List.nodup_cons]
  refine ⟨fun hm => ?_, fun hm => absurd (lt _ hm) (Nat.lt_irrefl _), S.nd⟩
  rcases List.mem_cons.mp hm with z | hm
  · exact absurd (show f = c' from z) (Nat.ne_of_gt h2)
  · exact absurd (Nat.lt_trans (lt _ hm) h2) (Nat.lt_irrefl _)
end Mine

namespace Mine
theorem m_ListComp {M : Model} {A : Around} {E : Value → Shared → Prop} {s : Shared} {env : Env} {elt target iter : Expr} {ifs : List Expr} {scope : Scope} {pos : Pos} {cl : List (Str × Addr)} {Q : Value → Shared → Prop}
    (hclos : closureFor scope env = pure cl) (hkind : scope.kind = .function) (hnames : ∀ x ∈ scope.names, x.2 = .local → scope.names.lookup x.1 = some .local) (hs : ∀ x, foldedSetIterable iter env x = pure x)
    (q : wpAny M A (eval iter env) (fun x s₁ => wpAny M A (pyIter x) (fun it s₂ => wpAny M A (newList []) (fun acc s₃ => wpAny M A (newFunctionEnv scope env.globals cl [] env.qual none .none (some env)) (fun cenv s₄ =>
        codeAny M A (.compStart (.ListComp elt [⟨target, iter, ifs, 0⟩] scope pos) 0 it acc { cenv with scope := relabel scope env }) (compPost M A E none Q acc cenv.locals) s₄) E s₃) E s₂) E s₁) E s) :
    wpAny M A (eval (.ListComp elt [⟨target, iter, ifs, 0⟩] scope pos) env) Q E s := by
  rw [eval_ListComp]
  exact wpAny_comprehension_free (use := none) rfl hs hclos hkind hnames q
theorem m_rangeSelf {prog : Program} {w : World} {A : Around} {E : Value → Shared → Prop} {s : Shared} {it : Addr} {y left : Int} {Q : Value → Shared → Prop} (hi : s.heap.get? it = some (rangeIt y left)) (q : Q (.ref it) s) : wpAny (model prog w) A (pyIter (.ref it)) Q E s := by
  have hT : s.TypeIs (.ref it) "range_iterator" := ⟨_, hi, rfl⟩
  refine wpAny_pyIter_slot hT F.slot_range_iterator_iter (wpAny_call_entry F.slot_range_iterator_iter hT F.entry_range_iterator_iter ?_ (F.args_range_iterator_iter_1 _))
  show wpAny _ _ (ret (.ref it)) _ _ s
  exact wpAny_pure ⟨_, rfl, "range_iterator", _, hT, F.slot_range_iterator_next.lookup, q⟩
theorem m_range {prog : Program} {w : World} {A : Around} {E : Value → Shared → Prop} {g h : Heap} {L : Addr} {lo : List (Str × Value)} {own : List (Addr × Obj)} {G : Array GenState} {Dr : Drawn} {tk : Nat} {O : OsState} {i j : Int} {t u : Tok} {Q : Value → Shared → Prop} (S : St g L h lo own)
    (q : ∀ a v h' tk', St g L h' lo ((a, rangeOf i j t u v) :: own) → Q (.ref a) ⟨h', G, Dr, tk', O⟩) : wpAny (model prog w) A (call (.type "range") [.int i t, .int j u]) Q E ⟨h, G, Dr, tk, O⟩ := by
  refine call_range_2 ?_
  exact q _ _ _ _ S.push
end Mine

namespace Mine
theorem m_lenStr {prog : Program} {w : World} {A : Around} {E : Value → Shared → Prop} {h : Heap} {G : Array GenState} {Dr : Drawn} {tk : Nat} {O : OsState} {x : Str} {t : Tok} {Q : Value → Shared → Prop} (hfit : x.length < 2 ^ 63)
    (q : ∀ t' tk', Q (.int (x.length : Int) t') ⟨h, G, Dr, tk', O⟩) : wpAny (model prog w) A (call (.builtin "len") [.str x t]) Q E ⟨h, G, Dr, tk, O⟩ :=
  len_str (by omega) (q _ _)
theorem ints_snoc {vs : List Value} {is : List Int} {z : Int} {t : Tok} (h : IntsAre vs is) : IntsAre (vs ++ [.int z t]) (is ++ [z]) := by
  induction h with
  | nil => exact IntsAre.cons z t IntsAre.nil
  | cons n u _ ih => exact IntsAre.cons n u ih
theorem ints_len {vs : List Value} {is : List Int} (h : IntsAre vs is) : vs.length = is.length := by
  induction h with
  | nil => rfl
  | cons n u _ ih => simp [ih]
theorem small_fit {n : Nat} (h : n ≤ 64) : n ≤ sizeLine := Nat.le_trans h (by decide)
section
variable {prog : Program} {w : World} {A : Around} {E : Value → Shared → Prop} {g h : Heap} {L l l2 : Addr} {lo : List (Str × Value)} {own : List (Addr × Obj)} {vs ws : List Value} {n n2 : Nat} {G : Array GenState} {Dr : Drawn} {tk : Nat} {O : OsState} {Q : Value → Shared → Prop}
theorem St.keep {h' : Heap} (S : St g L h lo own) (k : ∀ b o, h.get? b = some o → h'.get? b = some o) : St g L h' lo own := by
  obtain ⟨m, F, hl⟩ := S.fr
  exact ⟨⟨m, F.grownK k, hl⟩, S.nw.grown k, S.nd⟩
theorem m_addLists (S : St g L h lo own) (hl : (l, listOf vs.toArray n) ∈ own) (hb : (l2, listOf ws.toArray n2) ∈ own) (hsz : vs.length + ws.length ≤ sizeLine)
    (q : ∀ r h', St g L h' lo ((r, listOf (vs ++ ws).toArray 0) :: own) → Q (.ref r) ⟨h', G, Dr, tk, O⟩) : wpAny (model prog w) A (binaryOp .Add (.ref l) (.ref l2)) Q E ⟨h, G, Dr, tk, O⟩ := by
  have e : vs.toArray ++ ws.toArray = (vs ++ ws).toArray := by simp
  refine concat_meets ⟨_, S.at hl, rfl⟩ ⟨_, S.at hb, rfl⟩ noFill_list_add seq_list_add PySem.F.slot_list_add PySem.F.entry_list_add (PySem.F.args_list_add_2 _ _) (list_addW l l2 vs.toArray ws.toArray n n2 _ _ _ _ (by simpa using hsz)) ⟨S.at hl, S.at hb, ?_⟩
  rw [e]
  exact q _ _ S.push
theorem m_minList {ns : List Int} (S : St g L h lo own) (hh : A.handled = none) (hl : (l, listOf vs.toArray n) ∈ own) (hi : IntsAre vs ns) (hne : 0 < ns.length)
    (q : ∀ h' z t tk', z ∈ ns → (∀ a ∈ ns, z ≤ a) → St g L h' lo own → Q (.int z t) ⟨h', G, Dr, tk', O⟩) : wpAny (model prog w) A (call (.builtin "min") [.ref l]) Q E ⟨h, G, Dr, tk, O⟩ := by
  obtain ⟨m, F, hlo⟩ := S.fr
  exact min_list_N hh F S.nw (S.isList hl) hi hne fun h' M t tk' F' N' h1 h2 => q h' M t tk' h1 h2 ⟨⟨m, F', hlo⟩, N', S.nd⟩
theorem m_min2 {a b : Int} {t u : Tok} (S : St g L h lo own) (hh : A.handled = none)
    (q : ∀ h' v tk', St g L h' lo own → Q (.int (if b < a then b else a) v) ⟨h', G, Dr, tk', O⟩) : wpAny (model prog w) A (call (.builtin "min") [.int a t, .int b u]) Q E ⟨h, G, Dr, tk, O⟩ := by
  obtain ⟨m, F, hlo⟩ := S.fr
  exact min_two_N hh F S.nw fun h' tk' F' N' => q h' _ tk' ⟨⟨m, F', hlo⟩, N', S.nd⟩
end
theorem St.dropN {g h : Heap} {L : Addr} {lo : List (Str × Value)} {own : List (Addr × Obj)} (n : Nat) (S : St g L h lo own) : St g L h lo (own.drop n) :=
  S.sub (fun _ hp => List.mem_of_mem_drop hp) (S.nd.sublist ((List.drop_sublist n own).map _))
theorem St.drop2 {g h : Heap} {L : Addr} {lo : List (Str × Value)} {a b : Addr × Obj} {r : List (Addr × Obj)} (S : St g L h lo (a :: b :: r)) : St g L h lo (a :: r) :=
  S.sub (fun p hp => by
    rcases List.mem_cons.mp hp with rfl | h
    · exact .head _
    · exact .tail _ (.tail _ h)) (S.nd.sublist (((List.sublist_cons_self b r).cons₂ a).map _))
end Mine

namespace Mine
/-- a dict written out with str keys -/
theorem m_Dict {prog : Program} {w : World} {A : Around} {E : Value → Shared → Prop} {g h : Heap} {L : Addr} {lo : List (Str × Value)} {own : List (Addr × Obj)} {G : Array GenState} {Dr : Drawn} {tk : Nat} {O : OsState} {env : Env} {keys : List (Option Expr)} {values : List Expr} {pos : Pos} {Q : Value → Shared → Prop} (S : St g L h lo own)
    (hall : keys.all (·.isSome) = true) (hl : keys.length = values.length) (h0 : keys ≠ []) (hlen : keys.length ≤ 15)
    (q : ∀ d h', St g L h' lo ((d, { cls := .type "dict", data := .dict #[] }) :: own) → wpAny (model prog w) A (evalPairs (pairTrees keys values env pos)) (fun vs s₁ => ∃ kvs h₁ tk₁ lo₁ own₁, s₁ = ⟨h₁, G, Dr, tk₁, O⟩ ∧ Carries (strKind prog w) vs kvs ∧ St g L h₁ lo₁ ((d, { cls := .type "dict", data := .dict #[] }) :: own₁) ∧
      ∀ h₂ tk₂ od, od.IsDictOf (strKind prog w) (merged [] kvs) → St g L h₂ lo₁ ((d, od) :: own₁) → Q (.ref d) ⟨h₂, G, Dr, tk₂, O⟩) E ⟨h', G, Dr, tk, O⟩) :
    wpAny (model prog w) A (eval (.Dict keys values pos) env) Q E ⟨h, G, Dr, tk, O⟩ := by
  refine wpAny_Dict_walk (knd := strKind prog w) hall hl h0 hlen (wpAny_mono (q _ _ (S.push rfl)) (fun vs s₁ h₁ => ?_) fun _ _ e => e)
  obtain ⟨kvs, h1, tk1, lo1, own1, rfl, hc, S1, k⟩ := h₁
  refine ⟨kvs, hc, ?_, fun h' hd hs => ?_⟩
  · exact Heap.dictOf_iff.mpr ⟨_, S1.at (.head _), ⟨#[], _, ⟨rfl, rfl, rfl⟩, rfl, fun e he => by simp at he, .nil, List.nodup_nil⟩⟩
  · obtain ⟨od, hod, hdd⟩ := Heap.dictOf_iff.mp hd
    exact k _ _ od hdd (S1.upd .here hs.extBut hod)
theorem St.swap {g h : Heap} {L : Addr} {lo : List (Str × Value)} {x y : Addr × Obj} {r : List (Addr × Obj)} (S : St g L h lo (x :: y :: r)) : St g L h lo (y :: x :: r) :=
  S.sub (fun _ hp => (List.Perm.swap x y r).mem_iff.mp hp) (((List.Perm.swap x y r).map (·.1)).nodup_iff.mpr S.nd)
end Mine

namespace Mine

section
variable {A : Around} {E : Value → Shared → Prop} {g h h' : Heap} {L a e : Addr} {lo : List (Str × Value)} {own own1 rest : List (Addr × Obj)} {ks : List Addr} {cn : Str} {cs : Scope} {ccd : Value} {cl : List (Str × Addr)} {cls a0 fl : Value} {dd : Option Addr}

/-- the state behind an exception that came back to the frame at hand, the only one -/
theorem Flown.st (S : St g L h lo own) (x : Flown h ks [envX cn cs L a ccd cl] e cls dd a0 fl own1 h') (hks : ∀ b ∈ ks, b ∈ keys own) (hr : ∀ p ∈ rest, p ∈ own ∧ p.1 ∉ ks) (hrn : (keys rest).Nodup) :
    ∃ oe vs, oe.cls = cls ∧ oe.dict = dd ∧ oe.data = .fields vs ∧ vs[0]? = some a0 ∧ St g L h' lo ((e, oe) :: (own1 ++ rest)) := by
  obtain ⟨B, x1, x2, x3⟩ := x.fly
  obtain ⟨m, F, hl⟩ := S.fr
  obtain ⟨oe, vs, T, oT, ts, ⟨he, hc, hdd, hd, h0, _⟩, _⟩ := x1.exc
  obtain ⟨oL, es, ep, hL, r⟩ := F.ns
  have nk : ∀ b ∈ ks, b ≠ L ∧ g.get? b = none := fun b hb => by
    obtain ⟨p, hp, z⟩ := List.mem_map.mp (hks b hb)
    rw [← z]; exact (S.nw p hp).2
  have toB : ∀ b o, h.get? b = some o → b ∉ ks → b ≠ L → B.get? b = some o := fun b o q1 q2 q3 => x3 b o q1 q2 (fun hm => by
    rcases List.mem_cons.mp hm with z | z
    · exact q3 z
    · cases z)
  have nL : B.get? L = none := (x1.frames.mem (b := L) (.head _)).1
  have gL : g.get? L = none := Heap.get?_none_of_le F.above
  have hfr : ∀ p ∈ own1, B.get? p.1 = some p.2 ∧ p.1 ≠ L ∧ g.get? p.1 = none := fun p hp => by
    refine ⟨x2 p hp, fun z => ?_, ?_⟩
    · have := x2 p hp
      rw [z, nL] at this; cases this
    · rcases x.fresh p hp with z | z
      · exact S.gnone z
      · exact (nk _ z).2
  have hrr : ∀ p ∈ rest, B.get? p.1 = some p.2 ∧ p.1 ≠ L ∧ g.get? p.1 = none := fun p hp => by
    obtain ⟨h1, h2⟩ := hr p hp
    have z := S.nw p h1
    exact ⟨toB _ _ z.1 h2 z.2.1, z.2⟩
  have eB := x1.new
  have heL : e ≠ L := fun z => by
    have := x.slots L (.head _) _ hL
    obtain ⟨sl, q⟩ := this
    rw [← z, he] at q
    have q2 := Option.some.inj q
    rw [q2] at hd
    dsimp only at hd
    rw [r.1] at hd; cases hd
  have heg : g.get? e = none := by
    cases q : g.get? e with
    | none => rfl
    | some o =>
      have hh := F.keep _ _ q
      by_cases z : e ∈ ks
      · rw [(nk e z).2] at q; cases q
      · rw [toB e o hh z heL] at eB; cases eB
  refine ⟨oe, vs, hc, hdd, hd, h0, ⟨m, ⟨?_, fun b o q => ?_, F.above⟩, hl⟩, fun p hp => ?_, ?_⟩
  · obtain ⟨sl, q⟩ := x.slots L (.head _) _ hL
    exact ⟨_, es, ep, q, r⟩
  · refine x1.stays b o (toB b o (F.keep b o q) (fun z => ?_) fun z => ?_)
    · rw [(nk b z).2] at q; cases q
    · rw [z, gL] at q; cases q
  · rcases List.mem_cons.mp hp with rfl | hp
    · exact ⟨he, heL, heg⟩
    · rcases List.mem_append.mp hp with hp | hp
      · have z := hfr p hp
        exact ⟨x1.stays _ _ z.1, z.2⟩
      · have z := hrr p hp
        exact ⟨x1.stays _ _ z.1, z.2⟩
  · rw [List.map_cons, List.nodup_cons, List.map_append, List.nodup_append]
    refine ⟨fun hm => ?_, x.nd, hrn, fun b hb c hc q => ?_⟩
    · rcases List.mem_append.mp hm with hm | hm
      · obtain ⟨p, hp, z⟩ := List.mem_map.mp hm
        have := (hfr p hp).1
        rw [z] at this
        dsimp only at this
        rw [eB] at this; cases this
      · obtain ⟨p, hp, z⟩ := List.mem_map.mp hm
        have := (hrr p hp).1
        rw [z] at this
        dsimp only at this
        rw [eB] at this; cases this
    · obtain ⟨p, hp, z⟩ := List.mem_map.mp hb
      obtain ⟨p2, hp2, z2⟩ := List.mem_map.mp hc
      obtain ⟨h1, h2⟩ := hr p2 hp2
      rcases x.fresh p hp with y | y
      · have := (S.nw p2 h1).1
        rw [z2, ← q, ← z, y] at this; cases this
      · exact h2 (by rw [z2, ← q, ← z]; exact y)

theorem flown_set {M : Model} {s : Shared} {Q : Unit → Shared → Prop} {outer : List Env} (x : Flown h ks (envX cn cs L a ccd cl :: outer) e cls dd a0 fl own1 s.heap) (hnf : ∀ b ∈ frs (envX cn cs L a ccd cl :: outer), ∃ o, h.get? b = some o ∧ ∀ vs, o.data ≠ .fields vs)
    (q : ∀ h', Flown h ks (envX cn cs L a ccd cl :: outer) e cls dd a0 .none own1 h' → Q () { s with heap := h' }) :
    wpAny M A (setFlight (.ref e) none) Q E s := by
  obtain ⟨B, x1, x2, x3⟩ := x.fly
  refine fly_set (fr := none) x1 fun h' y1 y2 => q h' ⟨⟨B, y1, x2, x3⟩, fun b hb o ho => ?_, x.fresh, x.nd⟩
  obtain ⟨sl, h2⟩ := x.slots b hb o ho
  obtain ⟨o', h3, hn⟩ := hnf b hb
  rw [ho] at h3; cases h3
  obtain ⟨sl2, h4⟩ := y2 b _ h2 hn
  exact ⟨sl2, h4⟩
end

section
variable {prog : Program} {w : World} {A : Around} {E : Value → Shared → Prop} {h : Heap} {C N e : Addr} {G : Array GenState} {D : Drawn} {tk : Nat} {O : OsState} {K : Frag} {oe : Obj} {env : Env} {t : Expr} {n : Str} {b₀ : Stmt} {suite : List Stmt} {pos : Pos} {rest : List ExceptHandler} {Q : Flow → Shared → Prop}

/-- a clause of the script's own exception class is met by one of it -/
theorem clause_own (XC : ExcK K C N)
    (q : wpAny (model prog w) (A.mark (some (.ref e))) (eval t env) (fun c s₁ => c = .ref C ∧ K.In s₁.heap ∧ (∃ oe, s₁.heap.get? e = some oe ∧ oe.cls = .ref C) ∧
      wpAny (model prog w) (A.mark (some (.ref e))) (setFlight (.ref e) none) (fun _ s₂ =>
          wpAny (model prog w) (A.mark (some (.ref e))) (storeName env n (.ref e)) (fun _ s₃ =>
            wpAny (model prog w) (A.mark (some (.ref e))) (execs (b₀ :: suite) env)
              (fun f s₄ => wpAny (model prog w) A (do bindName env n .none; unbindBehindTheSuite env n pos) (fun _ s₅ => Q f s₅) E s₄)
              (AsSuiteRaised (model prog w) (A.mark (some (.ref e))) env n pos (notedBy (model prog w) (A.mark (some (.ref e))) env (cameBackBy (model prog w) A env E))) s₃) (notedBy (model prog w) (A.mark (some (.ref e))) env (cameBackBy (model prog w) A env E)) s₂) (notedBy (model prog w) (A.mark (some (.ref e))) env (cameBackBy (model prog w) A env E)) s₁) (notedBy (model prog w) (A.mark (some (.ref e))) env (cameBackBy (model prog w) A env E)) ⟨h, G, D, tk, O⟩) :
    wpAny (model prog w) A (handleBy (.ref e) env (.ExceptHandler (some t) (some n) (b₀ :: suite) pos :: rest)) Q E ⟨h, G, D, tk, O⟩ := by
  refine wpAny_handleBy_cons (codeAny_handlers_test (wpAny_mono q (fun c s₁ h₁ => ?_) fun _ _ y => y)) (by intro q; cases q)
  obtain ⟨rfl, X, ⟨oe, he, hcls⟩, hk⟩ := h₁
  obtain ⟨nm, qn, bs, sn, sub, ab, col, dd, k0, k1, k2, k3, k5, hC⟩ := XC.obj
  obtain ⟨hh, g, d, tk, os⟩ := s₁
  exact wpAny_excMatches_sub_self (X _ _ hC) he hcls PySem.F.excBase_Exception.hasBase (codeAny_handlers_suite_as hk)

/-- .. is not met by a KeyError -/
theorem clause_miss (XC : ExcK K C N)
    (q : wpAny (model prog w) (A.mark (some (.ref e))) (eval t env) (fun c s₁ => c = .ref C ∧ K.In s₁.heap ∧ (∃ oe, s₁.heap.get? e = some oe ∧ oe.cls = .type "KeyError") ∧
      wpAny (model prog w) A (handleBy (.ref e) env rest) Q E s₁) (notedBy (model prog w) (A.mark (some (.ref e))) env (cameBackBy (model prog w) A env E)) ⟨h, G, D, tk, O⟩) :
    wpAny (model prog w) A (handleBy (.ref e) env (.ExceptHandler (some t) (some n) (b₀ :: suite) pos :: rest)) Q E ⟨h, G, D, tk, O⟩ := by
  refine wpAny_handleBy_cons (codeAny_handlers_test (wpAny_mono q (fun c s₁ h₁ => ?_) fun _ _ y => y)) (by intro q; cases q)
  obtain ⟨rfl, X, ⟨oe, he, hcls⟩, hk⟩ := h₁
  obtain ⟨nm, qn, bs, sn, sub, ab, col, dd, k0, k1, k2, k3, k5, hC'⟩ := XC.obj
  obtain ⟨hh, g, d, tk, os⟩ := s₁
  have hC := X _ _ hC'
  have hcB : (Value.ref C :: excBm).contains (.type "BaseException") = true := by rw [List.contains_cons, PySem.F.excBase_Exception.hasBase, Bool.or_true]
  have f := tc_notTuple
  have f2 : isSubtype (.type "KeyError") (.ref C) = pure false := by kernel_rfl
  unfold excMatches
  repeat (first | (with_reducible refine wpAny_loadPart_at he ?_; rw [hcls]) | with_reducible refine wpAny_loadPart_at hC ?_ | (with_reducible refine wpAny_isSubtype_exc hC ?_; rw [hcB]) | wp_step)
  exact hk
end

/-- the clause's name goes -/
theorem m_nameGoes {M : Model} {A : Around} {E : Value → Shared → Prop} {g h : Heap} {L a : Addr} {lo lo' : List (Str × Value)} {own : List (Addr × Obj)} {G : Array GenState} {D : Drawn} {tk : Nat} {O : OsState} {cn : Str} {cs : Scope} {ccd : Value} {cl : List (Str × Addr)} {n : Str} {pos : Pos} {Q : Unit → Shared → Prop}
    (S : St g L h lo own) (hx : (envX cn cs L a ccd cl).kindOf n = some .local) (hk : cs.kind = .function) (hlo : ∀ x v, lo'.lookup x = some v → x ≠ n ∧ lo.lookup x = some v)
    (q : ∀ h' tk', St g L h' lo' own → Q () ⟨h', G, D, tk', O⟩) : wpAny M A (do bindName (envX cn cs L a ccd cl) n .none; unbindBehindTheSuite (envX cn cs L a ccd cl) n pos) Q E ⟨h, G, D, tk, O⟩ := by
  obtain ⟨m, F, hl⟩ := S.fr
  refine wpAny_nameGoes_keeps hx F.ns (by show (cs.kind == .class || (cs.kind == .module && L != mainGlobals)) = false; rw [hk]; rfl) fun h' v hn hs => q h' _ ⟨⟨_, F.set hn hs, fun x u e => ?_⟩, S.nw.set hs, S.nd⟩
  obtain ⟨h1, h2⟩ := hlo x u e
  rw [if_neg h1]
  exact hl x u h2
theorem go_nil {lo : List (Str × Value)} {n : Str} : ∀ x v, ([] : List (Str × Value)).lookup x = some v → x ≠ n ∧ lo.lookup x = some v := fun _ _ e => by cases e
theorem go_cons {lo r : List (Str × Value)} {n y : Str} {u : Value} (hy : y ≠ n) (e : lo.lookup y = some u) (hr : ∀ x v, r.lookup x = some v → x ≠ n ∧ lo.lookup x = some v) :
    ∀ x v, ((y, u) :: r).lookup x = some v → x ≠ n ∧ lo.lookup x = some v := fun x v q => by
  rw [List.lookup_cons] at q
  by_cases z : x = y
  · subst z
    have : v = u := by simpa using q.symm
    rw [this]; exact ⟨hy, e⟩
  · have : (x == y) = false := by simpa using z
    rw [this] at q
    exact hr x v q

theorem keyAttr : ExcAttrFacts "KeyError" where
  ga := .of (owner := "BaseException") (n := "__getattribute__") (by rw [typeLookup_type, builtinLookup_eq_fast]; kernel_rfl) (by decide +kernel) (by decide +kernel) (by decide +kernel)
    (by first | exact .inl (by decide +kernel) | exact .inr (by decide +kernel)) (by rw [isSubtype_type]; kernel_rfl)
  lkArgs := by rw [typeLookup_type, builtinLookup_eq_fast]; kernel_rfl
  sub := by rw [isSubtype_type]; kernel_rfl
end Mine

namespace Mine

section
variable {prog : Program} {w : World} {A : Around} {E : Value → Shared → Prop} {g h h' : Heap} {L a e d C f : Addr} {lo : List (Str × Value)} {own pre mid mid' post own1 : List (Addr × Obj)} {G : Array GenState} {D : Drawn} {tk : Nat} {O : OsState} {cn : Str} {cs : Scope} {ccd : Value} {cl : List (Str × Addr)}

/-- after a call that turned the middle of the ledger -/
theorem St.around (S : St g L h lo (pre ++ (mid ++ post))) (hk : ∀ b o, h.get? b = some o → b ∉ keys mid → h'.get? b = some o) (hm : ∀ p ∈ mid', h'.get? p.1 = some p.2) (hkeys : keys mid' = keys mid) : St g L h' lo (pre ++ (mid' ++ post)) := by
  have nd := S.nd
  rw [List.map_append, List.map_append, List.nodup_append, List.nodup_append] at nd
  refine S.after hk (fun b hb => ?_) (fun p hp => ?_) ?_
  · show b ∈ List.map (·.1) (pre ++ (mid ++ post))
    rw [List.map_append, List.map_append]
    exact List.mem_append_right _ (List.mem_append_left _ hb)
  · rcases List.mem_append.mp hp with hp | hp
    · refine hk _ _ (S.at (List.mem_append_left _ hp)) fun hm => ?_
      exact nd.2.2 p.1 (List.mem_map_of_mem (f := (·.1)) hp) p.1 (List.mem_append_left _ hm) rfl
    · rcases List.mem_append.mp hp with hp | hp
      · exact hm p hp
      · refine hk _ _ (S.at (List.mem_append_right _ (List.mem_append_right _ hp))) fun hm => ?_
        exact nd.2.1.2.2 p.1 hm p.1 (List.mem_map_of_mem (f := (·.1)) hp) rfl
  · show List.map (·.1) (pre ++ (mid' ++ post)) = List.map (·.1) (pre ++ (mid ++ post))
    have : List.map (·.1) mid' = List.map (·.1) mid := hkeys
    simp only [List.map_append, this]
theorem m_didx {value slice : Expr} {k : Str} {u : Tok} {v : Value} {kvs : List (Str × Value)} {od : Obj} {Q : Value → Shared → Prop} (S : St g L h lo own) (hm : (d, od) ∈ own) (hd : od.IsDictOf (strKind prog w) kvs) (hv : valueAt kvs k = some v)
    (hs : subscripted slice false (.ref d) (.str k u) = operate [.ref d, .str k u] (getItem (.ref d) (.str k u)))
    (q : ∀ tk', Q v ⟨h, G, D, tk', O⟩) : wpAny (model prog w) A (subscriptTail value slice (.ref d) (.str k u)) Q E ⟨h, G, D, tk, O⟩ := by
  have hdo : h.DictOf (strKind prog w) d kvs := Heap.dictOf_iff.mpr ⟨od, S.at hm, hd⟩
  refine tail_any (s := ⟨h, G, D, tk, O⟩) hdo.typeIs slot_dict_getitem.lookup (wpAny_getItem_of (knd := strKind prog w) (k := k) ?_ hdo.mapOf hv (q _)) hs
  show (Value.str k u).isStrOf k = true
  simp [Value.isStrOf]
/-- `str(e)` of an exception with its own `__str__` -/
theorem m_strOwn {K : Frag} {oe od : Obj} {Q : Value → Shared → Prop} (S : St g L h lo own) (X : K.In g) (hu : A.in1.in1.units < cLine) (hx : (e, oe) ∈ own) (hoc : oe.cls = .ref C) (hod : oe.dict = some d) (hof : ∃ fs, oe.data = .fields fs) (hdo : (d, od) ∈ own)
    (hs : findIn K (.ref C) "__str__" = some (some (.ref f))) (hf : isFn K (.ref f) = true)
    (q : wpAny (model prog w) A.in1.in1 (call (.ref f) [.ref e]) (StrBack Q) E ⟨h, G, D, tk, O⟩) : wpAny (model prog w) A (call (.type "str") [.ref e]) Q E ⟨h, G, D, tk, O⟩ := by
  obtain ⟨fs, hfs⟩ := hof
  refine kso_call (s := ⟨h, G, D, tk, O⟩) (od := some od) hu (S.hasK X) ⟨S.at hx, hoc, by unfold notCls; rw [hfs], by rw [hod]; exact S.at hdo⟩ hs hf q
theorem flown_note {M : Model} {s : Shared} {hc : Heap} {ks : List Addr} {outer : List Env} {cls a0 : Value} {dd : Option Addr} {Q : Unit → Shared → Prop} (hfr : A.frames = some (envX cn cs L a ccd cl :: outer)) (x : Flown hc ks (envX cn cs L a ccd cl :: outer) e cls dd a0 .none own1 s.heap) (hnf : ∀ b ∈ frs (envX cn cs L a ccd cl :: outer), ∃ o, hc.get? b = some o ∧ ∀ vs, o.data ≠ .fields vs)
    (q : ∀ h', Flown hc ks (envX cn cs L a ccd cl :: outer) e cls dd a0 (rawInt L) own1 h' → Q () { s with heap := h' }) :
    wpAny M A (noteFrame (.ref e) (envX cn cs L a ccd cl)) Q E s := by
  obtain ⟨B, x1, x2, x3⟩ := x.fly
  refine fly_note hfr rfl x1 fun h' y1 y2 => q h' ⟨⟨B, y1, x2, x3⟩, fun b hb o ho => ?_, x.fresh, x.nd⟩
  obtain ⟨sl, h2⟩ := x.slots b hb o ho
  obtain ⟨o', h3, hn⟩ := hnf b hb
  rw [ho] at h3; cases h3
  obtain ⟨sl2, h4⟩ := y2 b _ h2 hn
  exact ⟨sl2, h4⟩
theorem frames_no1 (S : St g L h lo own) : ∀ b ∈ frs [envX cn cs L a ccd cl], ∃ o, h.get? b = some o ∧ ∀ vs, o.data ≠ .fields vs := fun b hb => by
  obtain ⟨m, F, _⟩ := S.fr
  rcases List.mem_cons.mp hb with rfl | hb
  · obtain ⟨oL, es, ep, hL, hd, _⟩ := F.ns
    exact ⟨oL, hL, fun vs q => by rw [hd] at q; cases q⟩
  · cases hb
/-- `e.args` of a KeyError -/
theorem m_keyArgs {expr : Bool} {oe : Obj} {t0 : Addr} {vs : Array Value} {Q : Value → Shared → Prop} (S : St g L h lo own) (hx : (e, oe) ∈ own) (hoc : oe.cls = .type "KeyError") (hd : oe.data = .fields vs) (h0 : vs[0]? = some (.ref t0))
    (q : ∀ tk', Q (.ref t0) ⟨h, G, D, tk', O⟩) : wpAny (model prog w) A (getAttr (.ref e) "args" expr) Q E ⟨h, G, D, tk, O⟩ := args_attr keyAttr (S.at hx) hoc hd h0 (q _)
end
end Mine

namespace Mine

theorem law_read {w : World} {b0 : Heap} {p : Program} {loose : List Str} {mg mb : Str → Option Value} {mean : ExcName → Option Value} (X0 : (hd1.heap_39 w.params).In b0) (T0 : Top p loose mean mg mb b0) {A : Around} (hroom : A.depth < 500) (hun : A.units < 500) (hh : A.handled = none)
    {h : Heap} {G : Array GenState} {D : Drawn} {tk : Nat} {O : OsState} {sgA : Addr} {n : Nat} {cs : List (Str × Tok)} (hlen : cs.length ≤ 64) (hstr : ∀ c ∈ cs, OkS c.1) (hl : h.get? sgA = some (listOf (strValues cs).toArray n)) (hb : b0.StaysIn (gOf h [(sgA, listOf (strValues cs).toArray n)])) {R : Result → Shared → Prop}
    (q : ∀ r h' tk' t1 t2, (∀ b o, h.get? b = some o → h'.get? b = some o) → h'.get? r = some (tupOf [.str (readOf (cs.map (·.1))).1 t1, .int (readOf (cs.map (·.1))).2 t2]) → h.get? r = none → R (.ok (.ret (.ref r))) ⟨h', G, D, tk', O⟩) :
    codeAny (model PySem.Challenge.rw_km0063_01.row.prog w) A (.call (.ref 105) ⟨[.ref sgA], []⟩) R ⟨h, G, D, tk, O⟩ := by
  have hb' : b0.StaysIn h := fun b o e => gOf_get (hb b o e)
  have _kf : (hd1.heap_39 w.params).In b0 ∧ PySem.Challenge.rw_km0063_01 = PySem.Challenge.rw_km0063_01 := by (k_fill; exact ⟨X0, rfl⟩)
  clear _kf
  have hl0 := hl
  refine' m_enter (own := [(sgA, listOf (strValues cs).toArray n)]) X0 T0.nolimit hb' ?_ ?_ ?ho ?hcd ?hr ?hbind ?hloc ?hcell ?hco ?hgen ?hk ?_
  case ho => k_is
  case hcd => k_is
  case hr => have : (500:Nat) < recursionLimit := by decide
             omega
  case hbind => exact BindsTo.of_eq rfl
  case hloc => exact locs rfl
  case hcell => decide
  case hco => rfl
  case hgen => rfl
  case hk => rfl
  · intro p hp
    rcases List.mem_singleton.mp hp with rfl
    exact hl
  · simp
  intro L h₁ tk₁ hL hk S
  have X := X0.keeps hb
  have T := topRead_of (T0.keeps hb)
  replace S := S.low (lo' := [("signs", .ref sgA)]) (lo_cons rfl lo_nil)
  clear hL hl
  generalize hg : gOf h [(sgA, listOf (strValues cs).toArray n)] = g at S X T
  repeat (walk_at "m")
  obtain ⟨lm, rfl⟩ : ∃ x, x = l := ⟨l, rfl⟩
  refine' wpAny_While (codeAny_whileLoop (fun k s' => ∃ (h : Heap) (tk i : Nat) (t : Tok) (ms : List Mark) (mv : List Value) (nn : Nat) (ts : List (Addr × Obj)), s' = ⟨h, G, D, tk, O⟩ ∧ k = cs.length + 2 - i ∧ i ≤ cs.length + 1 ∧ ms.length ≤ i ∧
    St g L h [("i", .int i t), ("marks", .ref lm), ("signs", .ref sgA)] ((lm, listOf mv.toArray nn) :: (sgA, listOf (strValues cs).toArray n) :: ts) ∧ Mk ts ms mv ∧ ms ++ marksOf ((cs.map (·.1)).drop i) i = marksOf (cs.map (·.1)) 0) ?turn (cs.length + 2) ?init)
  case init => exact ⟨h, tk, 0, t, [], [], 0, [], rfl, by omega, by omega, by simp, S, .nil, by simp⟩
  clear S
  rintro k s' ⟨h, tk, i, t, ms, mv, nn, ts, rfl, hk, hi, hml, S, HM, hms⟩
  have hlv := HM.length
  repeat (walk_at "m")
  apply m_if <;> intro hlt
  · rw [sv_len] at hlt
    repeat (walk_at "m")
    obtain ⟨c, hc⟩ : ∃ c, cs[i]? = some c := ⟨_, List.getElem?_eq_getElem (by omega)⟩
    refine' m_idx (x := .str c.1 c.2) (by assumption) ?hm ?hz ?h0 ?hx ?hs ?_
    case hm => walk_at "mem"
    case hz => walk_at "sz"
    case h0 => omega
    case hx => simp [sv_get, hc]
    case hs => with_unfolding_all rfl
    repeat (walk_at "m")
    have hdr : cs.drop i = c :: cs.drop (i + 1) := by
      obtain ⟨hx, e⟩ := List.getElem?_eq_some_iff.mp hc
      rw [List.drop_eq_getElem_cons hx, e]
    apply m_ifb <;> intro hbs
    · repeat (walk_at "m")
      refine' m_cutN (a := i + 1) (b := i + 2) (by assumption) ?hm ?hs ?hz ?ha ?hb2 ?he ?_
      case hm => walk_at "mem"
      case hs => walk_at "mem"
      case hz => walk_at "sz"
      case ha => omega
      case hb2 => omega
      case he => with_unfolding_all rfl
      clear S
      intro pc h S
      rw [sv_drop, sv_take, show i + 2 - (i + 1) = 1 by omega] at S
      repeat (walk_at "m")
      refine' m_join (by assumption) ?hm ?hok ?_
      case hm => walk_at "mem"
      case hok => exact joinOk_small _ (by simp; omega) (fun x hx => by obtain ⟨c', hc', rfl⟩ := List.mem_map.mp hx; exact (hstr _ (List.mem_of_mem_drop (List.mem_of_mem_take hc'))).len)
      intro t tk
      repeat (walk_at "m")
      obtain ⟨tp, rfl⟩ : ∃ x, x = l := ⟨l, rfl⟩
      repeat (walk_at "m")
      have hst := marks_two (cs := cs.map (·.1)) (rest := (cs.drop (i + 1)).map (·.1)) (by rw [← List.map_drop, hdr, List.map_cons, eq_of_beq hbs]; rfl)
      rw [show (↑i + 2 : Int) = ((i + 2 : Nat) : Int) by omega] at S
      rw [List.map_take, List.map_drop] at S
      refine' ⟨_, by omega, h, tk, i + 2, t, ms ++ [⟨Txt.join Str.empty (((cs.map (·.1)).drop (i + 1)).take 1), 2, i + 2⟩], mv ++ [.ref tp], nn + 1, _, rfl, rfl, by omega, by simp; omega, (St.perm (S.pick (.cons_cons _ (.cons _ (.cons _ (List.Sublist.refl _))))) (rot2 _ _ _ _)).low (lo_cons rfl (lo_cons rfl (lo_cons rfl lo_nil))), (HM.mono fun p hp => .tail _ hp).snoc' (.head _) rfl rfl, ?_⟩
      rw [← hms, hst, List.append_assoc, show Str.ofString "" = Str.empty by decide +kernel]
      simp only [List.map_drop, List.cons_append, List.nil_append]
    · repeat (walk_at "m")
      refine' m_cutN (a := i) (b := i + 1) (by assumption) ?hm ?hs ?hz ?ha ?hb2 ?he ?_
      case hm => walk_at "mem"
      case hs => walk_at "mem"
      case hz => walk_at "sz"
      case ha => omega
      case hb2 => omega
      case he => with_unfolding_all rfl
      clear S
      intro pc h S
      rw [sv_drop, sv_take] at S
      rw [show ((cs.drop i).take (i + 1 - i)) = [c] by rw [hdr, Nat.add_sub_cancel_left]; rfl] at S
      repeat (walk_at "m")
      refine' m_join (by assumption) ?hm ?hok ?_
      case hm => walk_at "mem"
      case hok => exact joinOk_small _ (by simp) (fun x hx => by obtain ⟨c', hc', rfl⟩ := List.mem_map.mp hx; rcases List.mem_singleton.mp hc' with rfl; exact (hstr _ (List.mem_of_getElem? hc)).len)
      intro t tk
      repeat (walk_at "m")
      obtain ⟨tp, rfl⟩ : ∃ x, x = l := ⟨l, rfl⟩
      repeat (walk_at "m")
      have hst := marks_one (cs := cs.map (·.1)) (c := c.1) (rest := (cs.drop (i + 1)).map (·.1)) (by rw [← List.map_drop, hdr, List.map_cons]) hbs
      rw [show (↑i + 1 : Int) = ((i + 1 : Nat) : Int) by omega] at S
      simp only [List.map_cons, List.map_nil] at S
      refine' ⟨_, by omega, h, tk, i + 1, t, ms ++ [⟨Txt.join Str.empty [c.1], 1, i + 1⟩], mv ++ [.ref tp], nn + 1, _, rfl, rfl, by omega, by simp; omega, (St.perm (S.pick (.cons_cons _ (.cons _ (.cons _ (List.Sublist.refl _))))) (rot2 _ _ _ _)).low (lo_cons rfl (lo_cons rfl (lo_cons rfl lo_nil))), (HM.mono fun p hp => .tail _ hp).snoc' (.head _) rfl rfl, ?_⟩
      rw [← hms, hst, List.append_assoc, show Str.ofString "" = Str.empty by decide +kernel]; rfl
  · rw [sv_len] at hlt
    have hms' : ms = marksOf (cs.map (·.1)) 0 := by
      rw [← hms, List.drop_of_length_le (by simp; omega)]; simp [marksOf]
    have hmo := marks_ok (cs.map (·.1)) 0 (fun x hx => by obtain ⟨c', hc', rfl⟩ := List.mem_map.mp hx; exact hstr _ hc')
    rw [← hms'] at hmo
    repeat (walk_at "m")
    refine' wpAny_mono (Q := fun f s' => ∃ (h : Heap) (tk : Nat) (lx : Addr) (mv2 : List Value) (n2 : Nat), f = .next ∧ s' = ⟨h, G, D, tk, O⟩ ∧ (dropWs ms).length ≤ ms.length ∧ (∀ m ∈ dropWs ms, OkS m.s) ∧ St g L h [("marks", .ref lx), ("signs", .ref sgA)] ((lx, listOf mv2.toArray n2) :: (sgA, listOf (strValues cs).toArray n) :: ts) ∧ Mk ts (dropWs ms) mv2) ?loop ?rest (fun _ _ x => x)
    case loop =>
      refine' wpAny_While (codeAny_whileLoop (fun k s' => ∃ (h : Heap) (tk : Nat) (lx : Addr) (ms2 : List Mark) (mv2 : List Value) (n2 : Nat), s' = ⟨h, G, D, tk, O⟩ ∧ k = ms2.length ∧ (∀ m ∈ ms2, m ∈ ms) ∧ ms2.length ≤ ms.length ∧
        St g L h [("marks", .ref lx), ("signs", .ref sgA)] ((lx, listOf mv2.toArray n2) :: (sgA, listOf (strValues cs).toArray n) :: ts) ∧ Mk ts ms2 mv2 ∧ dropWs ms2 = dropWs ms) ?turn2 ms.length ?init2)
      case init2 => exact ⟨h, tk, lm, ms, mv, nn, rfl, rfl, fun _ h => h, by omega, S.low (lo_cons rfl (lo_cons rfl lo_nil)), HM, rfl⟩
      clear S
      rintro k s' ⟨h, tk, lx, ms2, mv2, n2, rfl, hk, hin, hml2, S, HM2, hdw⟩
      have hlv2 := HM2.length
      repeat (walk_at "m")
      refine' m_ned_marks (by assumption) ?h1 ?h0 HM2 ?hk2 ?hok ?hu ?_
      case h1 => walk_at "mem"
      case h0 => walk_at "mem"
      case hk2 => exact fun p hp => .tail _ (.tail _ (.tail _ hp))
      case hok => exact fun m hm => hmo m (hin m hm)
      case hu => show A.units + 3 < 600; omega
      have fin : ∀ h tk, St g L h [("marks", .ref lx), ("signs", .ref sgA)] ((lx, listOf mv2.toArray n2) :: (sgA, listOf (strValues cs).toArray n) :: ts) → dropWs ms2 = ms2 → ∃ (h' : Heap) (tk' : Nat) (lx : Addr) (mv2 : List Value) (n2 : Nat), Flow.next = .next ∧ (⟨h, G, D, tk, O⟩ : Shared) = ⟨h', G, D, tk', O⟩ ∧ (dropWs ms).length ≤ ms.length ∧ (∀ m ∈ dropWs ms, OkS m.s) ∧ St g L h' [("marks", .ref lx), ("signs", .ref sgA)] ((lx, listOf mv2.toArray n2) :: (sgA, listOf (strValues cs).toArray n) :: ts) ∧ Mk ts (dropWs ms) mv2 := by
        intro h tk S e
        rw [← hdw, e]
        exact ⟨h, tk, lx, mv2, n2, rfl, rfl, hml2, fun m hm => hmo m (hin m hm), S, HM2⟩
      repeat (walk_at "m")
      apply m_ifb <;> intro hne
      · obtain ⟨m, ms3, rfl⟩ : ∃ m r, ms2 = m :: r := by
          cases ms2 with
          | nil => simp at hne
          | cons m r => exact ⟨m, r, rfl⟩
        have HM2' := HM2
        cases HM2' with
        | @cons ta _ t1 t2 t3 _ mv3 htm HM3 =>
        have hlm : mv3.length ≤ 100 := by
          simp only [List.length_cons] at hlv2 hml2
          omega
        repeat (walk_at "m")
        refine' m_idx (by assumption) ?hm ?hz ?h0 ?hx ?hs ?_
        case hm => walk_at "mem"
        case hz => walk_at "sz"
        case h0 => decide
        case hx => rfl
        case hs => with_unfolding_all rfl
        repeat (walk_at "m")
        refine' m_tidx (by assumption) ?hm ?hz ?h0 ?hx ?hs ?_
        case hm => exact List.mem_append_right [_, _, _] htm
        case hz => exact Nat.le_of_ble_eq_true rfl
        case h0 => decide
        case hx => rfl
        case hs => with_unfolding_all rfl
        repeat (walk_at "m")
        apply m_ifb <;> intro hhop
        · repeat (walk_at "m")
          refine' m_idx (by assumption) ?hm ?hz ?h0 ?hx ?hs ?_
          case hm => walk_at "mem"
          case hz => walk_at "sz"
          case h0 => decide
          case hx => rfl
          case hs => with_unfolding_all rfl
          repeat (walk_at "m")
          refine' m_tidx (by assumption) ?hm ?hz ?h0 ?hx ?hs ?_
          case hm => exact List.mem_append_right [_, _, _] htm
          case hz => exact Nat.le_of_ble_eq_true rfl
          case h0 => decide
          case hx => rfl
          case hs => with_unfolding_all rfl
          repeat (walk_at "m")
          apply m_ifb <;> intro hws
          · repeat (walk_at "m")
            refine' m_cutFrom (a := 1) (by assumption) ?hm ?hs ?hz ?ha ?he ?_
            case hm => walk_at "mem"
            case hs => walk_at "mem"
            case hz => walk_at "sz"
            case ha => rfl
            case he => with_unfolding_all rfl
            clear S
            intro lx' h S
            repeat (walk_at "m")
            have hp1 : m.hop = 1 := by have := eq_of_beq hhop; omega
            exact ⟨_, by rw [hk]; exact Nat.lt_succ_self _, h, _, lx', ms3, mv3, 0, rfl, rfl, fun m' hm' => hin m' (.tail _ hm'), by simp only [List.length_cons] at hml2; omega,
              (S.pick (.cons_cons _ (.cons _ (.cons _ (.cons _ (List.Sublist.refl _)))))).low (lo_cons rfl (lo_cons rfl lo_nil)), HM3,
              by rw [← hdw]; show _ = List.dropWhile _ (m :: ms3); rw [List.dropWhile_cons_of_pos (by simp only [hp1, decide_true, Bool.true_and]; exact hws)]; rfl⟩
          · repeat (walk_at "m")
            refine fin _ _ (S.pick (.cons _ (List.Sublist.refl _))) ?_
            show List.dropWhile _ (m :: ms3) = _
            rw [List.dropWhile_cons_of_neg]
            intro e
            rw [Bool.and_eq_true] at e
            have e2 : inS wsL m.s = false := hws
            rw [e2] at e
            exact Bool.noConfusion e.2
        · repeat (walk_at "m")
          refine fin _ _ (S.pick (.cons _ (List.Sublist.refl _))) ?_
          show List.dropWhile _ (m :: ms3) = _
          rw [List.dropWhile_cons_of_neg]
          intro e
          rw [Bool.and_eq_true] at e
          have e2 := of_decide_eq_true e.1
          rw [e2] at hhop
          cases hhop
      · repeat (walk_at "m")
        refine fin _ _ (S.pick (.cons _ (List.Sublist.refl _))) ?_
        cases ms2 with
        | nil => rfl
        | cons m r => simp at hne
    case rest =>
      clear S HM hlt hms
      rintro f s' ⟨h, tk, lx, mv2, n2, rfl, rfl, hdl, hmo2, S, HM⟩
      have hlv2 := HM.length
      have hro : readOf (cs.map (·.1)) = match dropWs ms with
        | [] => scanM wsL [] Str.empty
        | m :: r => if m.s == qt && decide (m.hop = 1) then scanM qt r Str.empty else scanM wsL (m :: r) Str.empty := by rw [hms']; rfl
      generalize dropWs ms = ds at hdl hmo2 HM hlv2 hro
      have hdl65 : ds.length ≤ 65 := by omega
      walk_at "m"
      walk_at "m"
      walk_at "m"
      walk_at "m"
      walk_at "m"
      refine' wpAny_mono (Q := fun f s' => ∃ (h : Heap) (tk : Nat) (lx : Addr) (mv2 : List Value) (n2 : Nat) (es : Str) (te : Tok) (d2 : List Mark), f = .next ∧ s' = ⟨h, G, D, tk, O⟩ ∧ d2.length ≤ 65 ∧ (∀ m ∈ d2, OkS m.s) ∧ St g L h [("ends", .str es te), ("marks", .ref lx)] ((lx, listOf mv2.toArray n2) :: (sgA, listOf (strValues cs).toArray n) :: ts) ∧ Mk ts d2 mv2 ∧ readOf (cs.map (·.1)) = scanM es d2 Str.empty) ?if2 ?rest2 (fun _ _ x => x)
      case if2 =>
        repeat (walk_at "m")
        refine' m_ned_marks (by assumption) ?h1 ?h0 HM ?hk2 ?hok ?hu ?_
        case h1 => walk_at "mem"
        case h0 => walk_at "mem"
        case hk2 => exact fun p hp => .tail _ (.tail _ (.tail _ hp))
        case hok => exact hmo2
        case hu => show A.units + 3 < 600; omega
        repeat (walk_at "m")
        apply m_ifb <;> intro hne
        · obtain ⟨m, ms3, rfl⟩ : ∃ m r, ds = m :: r := by
            cases ds with
            | nil => simp at hne
            | cons m r => exact ⟨m, r, rfl⟩
          have HM2' := HM
          cases HM2' with
          | @cons ta _ t1 t2 t3 _ mv3 htm HM3 =>
          have hlm : mv3.length ≤ 100 := by
            simp only [List.length_cons] at hlv2 hdl65
            omega
          repeat (walk_at "m")
          refine' m_idx (by assumption) ?hm ?hz ?h0 ?hx ?hs ?_
          case hm => walk_at "mem"
          case hz => walk_at "sz"
          case h0 => decide
          case hx => rfl
          case hs => with_unfolding_all rfl
          repeat (walk_at "m")
          refine' m_tcut2 (by assumption) ?hm ?hs ?he ?_
          case hm => exact List.mem_append_right [_, _, _, _] htm
          case hs => walk_at "mem"
          case he => with_unfolding_all rfl
          clear S
          intro tc h S
          repeat (walk_at "m")
          obtain ⟨tq, rfl⟩ : ∃ x, x = l := ⟨l, rfl⟩
          refine' m_eqd (da := .tuple [.str m.s, .int m.hop]) (db := .tuple [.str qt, .int 1]) (reads_tuple_at (S.at (.tail _ (.head _))) rfl rfl (.cons (.str _ _) (.cons (.int _ _) .nil))) (reads_tuple_at (S.at (.head _)) rfl rfl (.cons (.str _ _) (.cons (.int _ _) .nil))) ?sh1 ?sh2 ?hu ?_
          case sh1 => exact mark_shaped_two (hmo2 _ (.head _)) _
          case sh2 => exact mark_shaped_two qt_ok _
          case hu => exact units_ok (by show A.units + 3 < 600; omega)
          rw [mark_eqv_two]
          repeat (walk_at "m")
          apply m_ifb <;> intro hq
          · repeat (walk_at "m")
            refine' m_cutFrom (a := 1) (by assumption) ?hm ?hs ?hz ?ha ?he ?_
            case hm => walk_at "mem"
            case hs => walk_at "mem"
            case hz => walk_at "sz"
            case ha => rfl
            case he => with_unfolding_all rfl
            clear S
            intro lx' h S
            repeat (walk_at "m")
            have hq2 : (m.s == qt && decide (m.hop = 1)) = true := by
              rw [Bool.and_eq_true] at hq ⊢
              exact ⟨hq.1, decide_eq_true (by have := eq_of_beq hq.2; omega)⟩
            refine ⟨h, _, lx', mv3, 0, qt, _, ms3, rfl, rfl, by simp only [List.length_cons] at hdl65; omega, fun m' hm' => hmo2 m' (.tail _ hm'), (S.pick ?sb).low (lo_cons rfl (lo_cons rfl lo_nil)), HM3, ?_⟩
            case sb => k_dflt (walk_at "sub")
            rw [hro]; simp only [hq2, if_true]
          · repeat (walk_at "m")
            have hq2 : (m.s == qt && decide (m.hop = 1)) = false := by
              rw [Bool.eq_false_iff] at hq ⊢
              intro e
              rw [Bool.and_eq_true] at e
              refine hq ?_
              rw [Bool.and_eq_true]
              have e2 := of_decide_eq_true e.2
              exact ⟨e.1, by rw [e2]; rfl⟩
            refine ⟨h, _, lx, _, n2, wsL, _, m :: ms3, rfl, rfl, hdl65, hmo2, (S.pick ?sb).low (lo_cons rfl (lo_cons rfl lo_nil)), HM, ?_⟩
            case sb => k_dflt (walk_at "sub")
            rw [hro]; simp only [hq2, Bool.false_eq_true, if_false]
        · repeat (walk_at "m")
          obtain rfl : ds = [] := by
            cases ds with
            | nil => rfl
            | cons m r => simp at hne
          refine ⟨h, _, lx, _, n2, wsL, _, [], rfl, rfl, hdl65, hmo2, (S.pick ?sb).low (lo_cons rfl (lo_cons rfl lo_nil)), HM, hro⟩
          case sb => k_dflt (walk_at "sub")
      case rest2 =>
        clear S HM hlv2 hmo2 hdl hdl65 hro
        rintro f s' ⟨h, tk, lx, mv2, n2, es, te, d2, rfl, rfl, hdl, hmo2, S, HM, hro⟩
        have hlv2 := HM.length
        repeat (walk_at "m")
        refine' wpAny_For ?_ ?hfs
        case hfs => intro _; rfl
        repeat (walk_at "m")
        refine' codeAny_forLoop_any (fun k s' => ∃ (h : Heap) (tk i : Nat) (tok : Str) (t te : Tok), s' = ⟨h, G, D, tk, O⟩ ∧ k = d2.length - i ∧ i ≤ d2.length ∧ tok.length ≤ 8 * i ∧ scanM es d2 Str.empty = scanM es (d2.drop i) tok ∧
          St g L h [("token", .str tok t), ("ends", .str es te)] ((it, iterOf lx i) :: (lx, listOf mv2.toArray n2) :: (sgA, listOf (strValues cs).toArray n) :: ts)) ?turn3 d2.length ?init3
        case init3 => exact ⟨h, _, 0, Str.empty, _, _, rfl, by omega, by omega, by decide, by rw [List.drop_zero], S.low (lo_cons rfl (lo_cons rfl lo_nil))⟩
        clear S
        have fin2 : ∀ {h tk r tok b t1 t2} {i2 : Int} {lo own'}, St g L h lo ((r, tupOf [.str tok t1, .int i2 t2]) :: own') → (sgA, listOf (strValues cs).toArray n) ∈ own' → (tok, b) = readOf (cs.map (·.1)) → i2 = (b : Nat) → R (.ok (.ret (.ref r))) ⟨h, G, D, tk, O⟩ := by
          intro h tk r tok b t1 t2 i2 lo own' S hm e ei
          subst hg ei
          refine q _ _ _ t1 t2 (S.back (fun p hp => ?_) (fun p hp => ?_)) ?_ ?_
          · rcases List.mem_singleton.mp hp with rfl; exact .tail _ hm
          · rcases List.mem_singleton.mp hp with rfl; exact hl0
          · rw [← e]; exact S.at (.head _)
          · exact S.fresh (.head _) (fun e => by rcases List.mem_singleton.mp e with e; exact S.apart hm e)
        rintro k s' ⟨h, tk, i, tok, t, te, rfl, hk, hi, htl, hsc, S⟩
        rcases Nat.lt_or_ge i d2.length with hlt | hge
        · obtain ⟨m, hm⟩ : ∃ m, d2[i]? = some m := ⟨_, List.getElem?_eq_getElem hlt⟩
          obtain ⟨ta, t1, t2, t3, hva, hta⟩ := HM.getAt hm
          refine' m_next (by assumption) At.here (.tail _ (.head _)) hva ?_
          clear S
          intro h S
          dsimp only
          refine' m_letOwned (by assumption) (.head _) ?_
          refine' m_unpack (by assumption) ?hm ?hh ?hn ?hst ?_
          case hm => exact List.mem_append_right [_, _, _] hta
          case hh => exact hh
          case hn => rfl
          case hst => rfl
          clear S
          intro h S
          refine' m_inOrder ?_
          repeat (walk_at "m")
          refine' m_inOrder ?_
          repeat (walk_at "m")
          refine' m_inOrder ?_
          repeat (walk_at "m")
          refine' m_inOrder0 ?_
          have hdr : d2.drop i = m :: d2.drop (i + 1) := by
            obtain ⟨hx, e⟩ := List.getElem?_eq_some_iff.mp hm
            rw [List.drop_eq_getElem_cons hx, e]
          have hml8 := (hmo2 m (List.mem_of_getElem? hm)).len
          have again : ∀ h tk (t : Tok), St g L h [("token", .str (tok ++ m.s) t), ("ends", .str es te)] ((it, iterOf lx (i + 1)) :: (lx, listOf mv2.toArray n2) :: (sgA, listOf (strValues cs).toArray n) :: ts) → ((↑m.hop == (1 : Int)) = false ∨ (!List.isEmpty (Builtin.Str.occurrences es m.s 0 es.length 1)) = false) →
              ∃ k', k' < k ∧ ∃ (h' : Heap) (tk' i : Nat) (tok : Str) (t te : Tok), (⟨h, G, D, tk, O⟩ : Shared) = ⟨h', G, D, tk', O⟩ ∧ k' = d2.length - i ∧ i ≤ d2.length ∧ tok.length ≤ 8 * i ∧ scanM es d2 Str.empty = scanM es (d2.drop i) tok ∧
          St g L h' [("token", .str tok t), ("ends", .str es te)] ((it, iterOf lx i) :: (lx, listOf mv2.toArray n2) :: (sgA, listOf (strValues cs).toArray n) :: ts) := by
            intro h tk t S hc
            refine ⟨d2.length - (i + 1), by omega, h, tk, i + 1, tok ++ m.s, t, te, rfl, rfl, by omega, by rw [Str.length_append]; have := (hmo2 m (List.mem_of_getElem? hm)).len; omega, ?_, S⟩
            rw [hsc, hdr]
            show (if _ then _ else _) = _
            rw [if_neg]
            intro e
            rw [Bool.and_eq_true] at e
            rcases hc with hc | hc
            · rw [of_decide_eq_true e.1] at hc; cases hc
            · have e2 : inS es m.s = false := hc
              rw [e2] at e; exact Bool.noConfusion e.2
          repeat (walk_at "m")
          apply m_ifb <;> intro hhop
          · have hp1 : m.hop = 1 := by have := eq_of_beq hhop; omega
            repeat (walk_at "m")
            apply m_ifb <;> intro hin
            · repeat (walk_at "m")
              have hro' : readOf (cs.map (·.1)) = (tok, m.b) := by
                rw [hro, hsc, hdr]
                show (if _ then _ else _) = _
                rw [if_pos]
                rw [Bool.and_eq_true]
                exact ⟨decide_eq_true hp1, hin⟩
              exact fin2 S (by k_dflt (walk_at "mem")) (hro'.symm) rfl
            · repeat (walk_at "m")
              exact again _ _ _ (S.low (lo_cons rfl (lo_cons rfl lo_nil))) (Or.inr hin)
          · repeat (walk_at "m")
            exact again _ _ _ (S.low (lo_cons rfl (lo_cons rfl lo_nil))) (Or.inl hhop)
        · have hnx : mv2[i]? = none := by rw [List.getElem?_eq_none_iff]; omega
          have hsd : sgA ≠ it := fun e => S.apart (.tail _ (.head _)) e.symm
          refine' m_nextEnd (own' := (sgA, listOf (strValues cs).toArray n) :: ts) (by assumption) ?hh (.head _) (.tail _ (.head _)) hnx ?hs ?hn ?_
          case hh => exact hh
          case hs => exact fun p hp => ⟨.tail _ (.tail _ hp), fun e => S.apart (b := p.1) (o' := p.2) (.tail _ hp) e.symm⟩
          case hn => exact (S.pick (.cons _ (.cons _ (List.Sublist.refl _)))).nd
          clear S
          intro h S
          dsimp only
          repeat (walk_at "m")
          refine fin2 (b := 0) S (by k_dflt (walk_at "mem")) ?_ rfl
          rw [hro, hsc, List.drop_of_length_le hge]; rfl
end Mine

namespace Mine

theorem nsOk45 (P : Params) : nsOkIn (hd1.heap_39 P) 45 = true := by
  unfold nsOkIn
  have e : (hd1.heap_39 P).lookup 45 = some _ := rfl
  rw [e]
  dsimp only
  rw [← Array.all_toList]
  rfl
theorem excK1 (P : Params) : ExcK (hd1.heap_39 P) 46 45 := ⟨⟨_, _, _, _, _, _, _, _, _, _, _, _, _, rfl⟩, nsOk45 P⟩

def netMap (msg fn ln : Value) : Str → Option Value := fun y => if y = "msg" then some msg else if y = "lineno" then some ln else if y = "filename" then some fn else none

theorem net_init {w : World} {b0 : Heap} {p : Program} {loose : List Str} {mg mb : Str → Option Value} {mean : ExcName → Option Value} (X0 : (hd1.heap_39 w.params).In b0) (T0 : Top p loose mean mg mb b0) {A : Around} (hroom : A.depth < 500)
    {h : Heap} {G : Array GenState} {D : Drawn} {tk : Nat} {O : OsState} {e t : Addr} {msg : Str} {tm : Tok} {fn ln : Value} (he : h.get? e = some (excOf 46 none t)) (hb : b0.StaysIn (gOf h [(e, excOf 46 none t)])) {R : Result → Shared → Prop}
    (q : ∀ h' tk' d od t', DictMap od (netMap (.str msg tm) fn ln) → h'.get? e = some (excOf 46 (some d) t') → (∀ p ∈ [(d, od), (t', tupOf [.str msg tm])], h'.get? p.1 = some p.2 ∧ h.get? p.1 = none) → d ≠ t' →
      (∀ b o, h.get? b = some o → b ∉ [e] → h'.get? b = some o) → R (.ok (.ret .none)) ⟨h', G, D, tk', O⟩) :
    codeAny (model PySem.Challenge.rw_km0063_01.row.prog w) A (.call (.ref 36) ⟨[.ref e, .str msg tm, fn, ln], []⟩) R ⟨h, G, D, tk, O⟩ := by
  have hb' : b0.StaysIn h := fun b o e => gOf_get (hb b o e)
  have _kf : (hd1.heap_39 w.params).In b0 ∧ PySem.Challenge.rw_km0063_01 = PySem.Challenge.rw_km0063_01 := by (k_fill; exact ⟨X0, rfl⟩)
  clear _kf
  refine' m_enter (own := [(e, excOf 46 none t)]) X0 T0.nolimit hb' ?_ ?_ ?ho ?hcd ?hr ?hbind ?hloc ?hcell ?hco ?hgen ?hk ?_
  case ho => k_is
  case hcd => k_is
  case hr => have : (500:Nat) < recursionLimit := by decide
             omega
  case hbind => exact kp_binds (binds := [("self", .ref e), ("msg", .str msg tm), ("filename", fn), ("lineno", ln)]) (X0.keeps hb') (fun _ => rfl)
  case hloc => exact locs rfl
  case hcell => decide
  case hco => rfl
  case hgen => rfl
  case hk => rfl
  · intro p hp
    rcases List.mem_singleton.mp hp with rfl
    exact he
  · simp
  intro L h₁ tk₁ hL hk S
  have X := X0.keeps hb
  have T := topRead_of (T0.keeps hb)
  replace S := S.low (lo' := [("self", .ref e), ("msg", .str msg tm), ("filename", fn), ("lineno", ln)]) (lo_cons rfl (lo_cons rfl (lo_cons rfl (lo_cons rfl lo_nil))))
  have XC : ExcK (hd1.heap_39 w.params) 46 45 := excK1 _
  clear hL
  generalize hg : gOf h [(e, excOf 46 none t)] = g at S X T
  repeat (walk_at "m")
  refine' m_setExc0 (by assumption) X XC ?hsa ?hna ?hB ?_
  case hsa => k_is
  case hna => k_is
  case hB => rw [typeLookup_type, builtinLookup_eq_fast]; kernel_rfl
  clear S
  intro h tk d od hd S
  repeat (walk_at "m")
  refine' m_setExc1 (by assumption) X XC ?hsa ?hna ?hB hd (.cons _ _ .nil) (by size_fits) ?_
  case hsa => k_is
  case hna => k_is
  case hB => rw [typeLookup_type, builtinLookup_eq_fast]; kernel_rfl
  clear S
  intro h tk od hd S
  repeat (walk_at "m")
  refine' m_setExc1 (by assumption) X XC ?hsa ?hna ?hB hd (.cons _ _ (.cons _ _ .nil)) (by size_fits) ?_
  case hsa => k_is
  case hna => k_is
  case hB => rw [typeLookup_type, builtinLookup_eq_fast]; kernel_rfl
  clear S
  intro h tk od hd S
  repeat (walk_at "m")
  refine' m_blt (by assumption) ?hx ?hk ?hd ?hn X T ?e PyProof.Rows.Boot.«Exception» ?_
  case hx => with_unfolding_all rfl
  case hk => with_unfolding_all rfl
  case hd => decide +kernel
  case hn => decide +kernel
  case e => k_is
  refine' m_typeInit (by assumption) X ?ht ?hs ?e ?_
  case ht => rfl
  case hs => decide +kernel
  case e => k_is
  intro tk
  dsimp only
  refine' m_cw_method0 ?hs ?hp ?_
  case hs => with_unfolding_all rfl
  case hp => with_unfolding_all rfl
  repeat (walk_at "m")
  refine' m_excInit (by assumption) X XC (by size_fits) ?_
  clear S
  intro h t' S
  repeat (walk_at "m")
  subst hg
  refine q h _ d od t' hd (S.at (.head _)) (fun p hp => ?_) ?_ S.keptBut
  · rcases List.mem_cons.mp hp with rfl | hp
    · exact S.made (.tail _ (.tail _ (.head _))) (fun z => by rcases List.mem_singleton.mp z with z; exact S.apart (.tail _ (.head _)) z.symm)
    · rcases List.mem_singleton.mp hp with rfl
      exact S.made (.tail _ (.head _)) (fun z => by rcases List.mem_singleton.mp z with z; exact S.apart (.head _) z.symm)
  · have nd := S.nd
    simp only [List.map_cons, List.nodup_cons, List.mem_cons, not_or] at nd
    exact fun z => nd.2.1.1 z.symm
end Mine

namespace Mine

def defOf : Option Stmt → Option (Arguments × List Stmt × Scope)
  | some (.FunctionDef _ a b _ _ _ sc _ _ _) => some (a, b, sc)
  | _ => none
def firstDef : List Stmt → Option Stmt
  | [] => none
  | .FunctionDef n a b d r t sc ts bi p :: _ => some (.FunctionDef n a b d r t sc ts bi p)
  | _ :: r => firstDef r
def lawDef : Option (Arguments × List Stmt × Scope) := defOf PySem.Challenge.rw_km0063_01.row.prog.main.body.getLast?
def giveDef : Option (Arguments × List Stmt × Scope) := match lawDef with
  | some x => defOf (firstDef x.2.1)
  | none => none
def gA : Arguments := match giveDef with
  | some x => x.1
  | none => default
def gB : List Stmt := match giveDef with
  | some x => x.2.1
  | none => []
def gS : Scope := match giveDef with
  | some x => x.2.2
  | none => default

/-- the stream, the lexer and what hangs on them -/
structure Rig where
  (lA cA cC cL lC xS dS xL dL lP fG cd : Addr)
  cs : List (Str × Tok)
  (nA nC nP nS nL : Nat)
  (oA oC oL oc : Obj)
  esS : List DictEntry
  esL : Int → Tok → List DictEntry
  (doc pm ctv : Value)
  cl : List (Str × Addr)
abbrev Rig.own (r : Rig) (k : Int) (tA : Tok) (ln : Int) (tL : Tok) : List (Addr × Obj) :=
  [(r.lA, listOf [.int k tA].toArray r.nA), (r.dL, dictOf (r.esL ln tL) r.nL), (r.cA, r.oA), (r.cC, r.oC), (r.cL, r.oL), (r.lC, listOf (strValues r.cs).toArray r.nC), (r.xS, instObj 87 r.dS), (r.dS, dictOf r.esS r.nS), (r.xL, instObj 87 r.dL), (r.lP, listOf ([] : List Value).toArray r.nP),
    (r.fG, fnMade "_law_give" "law.<locals>._law_give" gA gB gS r.cl r.doc r.pm r.cd r.ctv), (r.cd, r.oc)]
theorem Rig.keys (r : Rig) (k k' : Int) (tA tA' : Tok) (ln ln' : Int) (tL tL' : Tok) : keys (r.own k tA ln tL) = keys (r.own k' tA' ln' tL') := rfl
structure RigOk (r : Rig) : Prop where
  a : r.oA.data = .cell (some (.ref r.lA))
  c : r.oC.data = .cell (some (.ref r.lC))
  l : r.oL.data = .cell (some (.ref r.xL))
  cdf : ∃ vs t, r.oc.data = .fields vs ∧ vs[1]? = some (.str "law.<locals>._law_give" t)
  cla : r.cl.lookup ("at" : Str) = some r.cA
  clc : r.cl.lookup ("cells" : Str) = some r.cC
  cll : r.cl.lookup ("lex" : Str) = some r.cL
  ln : ∀ ln tL, getL "lineno" (r.esL ln tL) = some (some (.int ln tL))
  ins : ∀ ln tL, getL "instream" (r.esL ln tL) = some (some (.ref r.xS))
  psh : ∀ ln tL, getL "pushback" (r.esL ln tL) = some (some (.ref r.lP))
  wsp : ∃ t, ∀ ln tL, getL "whitespace" (r.esL ln tL) = some (some (.str "\n\t\r " t))
  rc : ∀ ln tL, getL "_read_char" (r.esL ln tL) = some none
  gt : ∀ ln tL, getL "get_token" (r.esL ln tL) = some none
  rd : getL "read" r.esS = some (some (.ref r.fG))
  put : ∀ hsh key ln tL ln' tL', putL "lineno" hsh key (.int ln' tL') (r.esL ln tL) = r.esL ln' tL'
  putn : ∀ ln tL, putN "lineno" (r.esL ln tL) r.nL = r.nL
  esz : ∀ ln tL, (r.esL ln tL).length ≤ 100
  ne : ∀ c ∈ r.cs, (c.1 == Str.empty) = false
  len : r.cs.length ≤ 64
  str : ∀ c ∈ r.cs, OkS c.1

def isNet (c : Str) : Bool := c == "net"
def isKey (c : Str) : Bool := c == "key"
/-- what a read of one cell gives -/
structure GiveQ (r : Rig) (k : Nat) (ln : Int) (tL : Tok) (ks : List Addr) (outer : List Env) (h : Heap) (G : Array GenState) (D : Drawn) (O : OsState) (R : Result → Shared → Prop) : Prop where
  fin : r.cs[k]? = none → ∀ t h' tk' tA', (∀ b o, h.get? b = some o → b ∉ ks → h'.get? b = some o) → (∀ p ∈ r.own k tA' ln tL, h'.get? p.1 = some p.2) → R (.ok (.ret (.str Str.empty t))) ⟨h', G, D, tk', O⟩
  one : ∀ c, r.cs[k]? = some c → isNet c.1 = false → isKey c.1 = false → ∀ t h' tk' tA', (∀ b o, h.get? b = some o → b ∉ ks → h'.get? b = some o) → (∀ p ∈ r.own (k + 1 : Nat) tA' ln tL, h'.get? p.1 = some p.2) → R (.ok (.ret (.str c.1 t))) ⟨h', G, D, tk', O⟩
  net : ∀ c, r.cs[k]? = some c → isNet c.1 = true → ∀ e d od t' tm tk1 tk2 h' tk' tA', DictMap od (netMap (.str "fault" tm) (.int (k + 1 : Nat) tk1) (.int ln tk2)) → Flown h ks outer e (.ref 46) (some d) (.ref t') .none ((d, od) :: (t', tupOf [.str "fault" tm]) :: r.own (k + 1 : Nat) tA' ln tL) h' → R (.error (.ref e)) ⟨h', G, D, tk', O⟩
  key : ∀ c, r.cs[k]? = some c → isNet c.1 = false → isKey c.1 = true → ∀ e t' tk1 h' tk' tA', Flown h ks outer e (.type "KeyError") none (.ref t') .none ((t', tupOf [.int (k + 1 : Nat) tk1]) :: r.own (k + 1 : Nat) tA' ln tL) h' → R (.error (.ref e)) ⟨h', G, D, tk', O⟩

theorem law_give {w : World} {b0 : Heap} {p : Program} {loose : List Str} {mg mb : Str → Option Value} {mean : ExcName → Option Value} (X0 : (hd1.heap_39 w.params).In b0) (T0 : Top p loose mean mg mb b0) {A : Around} {outer : List Env} (hroom : A.depth < 400) (hun : A.units < 500) (hh : A.handled = none)
    {h : Heap} {G : Array GenState} {D : Drawn} {tk : Nat} {O : OsState} {r : Rig} (ok : RigOk r) {k : Nat} {tA : Tok} {ln : Int} {tL : Tok} {u : Tok} (hle : k ≤ r.cs.length) (hown : ∀ p ∈ r.own k tA ln tL, h.get? p.1 = some p.2) (hnd : (keys (r.own k tA ln tL)).Nodup)
    (KB : Below A b0 outer (gOf h (r.own k tA ln tL))) {R : Result → Shared → Prop} (q : GiveQ r k ln tL (keys (r.own k tA ln tL)) outer h G D O R) :
    codeAny (model PySem.Challenge.rw_km0063_01.row.prog w) A (.call (.ref r.fG) ⟨[.int 1 u], []⟩) R ⟨h, G, D, tk, O⟩ := by
  have hb := KB.stays
  have hb' : b0.StaysIn h := fun b o e => gOf_get (hb b o e)
  have _kf : (hd1.heap_39 w.params).In b0 ∧ PySem.Challenge.rw_km0063_01 = PySem.Challenge.rw_km0063_01 := by (k_fill; exact ⟨X0, rfl⟩)
  clear _kf
  refine' m_enterOwn (own := r.own k tA ln tL) X0 T0.nolimit hb' hown hnd ?ho ?hcd ?hr ?hbind ?hloc ?hcell ?hco ?hgen ?hk ?_
  case ho => walk_at "mem"
  case hcd => 
    obtain ⟨vs, t, h1, h2⟩ := ok.cdf
    exact ⟨r.cd, r.oc, vs, t, rfl, hown (r.cd, r.oc) (by walk_at "mem"), h1, h2⟩
  case hr => have : (500:Nat) < recursionLimit := by decide
             omega
  case hbind => exact BindsTo.of_eq rfl
  case hloc => exact locs rfl
  case hcell => decide
  case hco => rfl
  case hgen => rfl
  case hk => rfl
  intro L h₁ tk₁ hL hk S
  have X := X0.keeps hb
  have T := topRead_of (T0.keeps hb)
  replace S := S.low (lo' := [("size", .int 1 u)]) (lo_cons rfl lo_nil)
  clear hL
  generalize hg : gOf h (r.own k tA ln tL) = g at S X T
  have oka := ok.a
  have okc := ok.c
  have okl := ok.l
  have cla := ok.cla
  have clc := ok.clc
  have cll := ok.cll
  have okn := ok.ln
  have oklen := ok.len
  have okstr := ok.str
  clear ok
  with_unfolding_all refine' m_execs_cons ?_
  repeat (walk_at "m")
  refine' m_idx (by assumption) ?hm ?hz ?h0 ?hx ?hs ?_
  case hm => walk_at "mem"
  case hz => walk_at "sz"
  case h0 => decide
  case hx => rfl
  case hs => with_unfolding_all rfl
  repeat (walk_at "m")
  refine' m_idx (by assumption) ?hm ?hz ?h0 ?hx ?hs ?_
  case hm => walk_at "mem"
  case hz => walk_at "sz"
  case h0 => decide
  case hx => rfl
  case hs => with_unfolding_all rfl
  repeat (walk_at "m")
  refine' m_cutN (a := k) (b := k + 1) (by assumption) ?hm ?hs ?hz ?ha ?hb ?he ?_
  case hm => walk_at "mem"
  case hs => walk_at "mem"
  case hz => walk_at "sz"
  case ha => rfl
  case hb => rfl
  case he => with_unfolding_all rfl
  clear S
  intro pc h' S
  rw [sv_drop, sv_take, Nat.add_sub_cancel_left] at S
  repeat (walk_at "m")
  refine' m_AugSub ?hs ?_
  case hs => intros; rfl
  repeat (walk_at "m")
  refine' m_getItem_list (by assumption) ?hm ?hz ?h0 ?hx ?_
  case hm => walk_at "mem"
  case hz => walk_at "sz"
  case h0 => decide
  case hx => rfl
  repeat (walk_at "m")
  refine' m_setItem0 (by assumption) ?U ?h0 ?hk2 ?hz ?_
  case U => walk_at "at"
  case h0 => decide
  case hk2 => show (0:Int) < 1; decide
  case hz => walk_at "sz"
  clear S
  intro h S
  rw [show (0:Int).toNat = 0 from rfl] at S
  simp only [List.set_cons_zero, sv_len] at S
  obtain ⟨tN, rfl⟩ : ∃ x, x = t := ⟨t, rfl⟩
  cases hc : r.cs[k]? with
  | none =>
    have hge : r.cs.length ≤ k := List.getElem?_eq_none_iff.mp hc
    rw [show (r.cs.drop k).take 1 = [] by rw [List.drop_of_length_le hge]; rfl] at S
    rw [show (k:Int) + (([] : List (Str × Tok)).length : Int) = (k : Int) by simp] at S
    repeat (walk_at "m")
    refine' m_iff ?_
    repeat (walk_at "m")
    refine' m_iff ?_
    repeat (walk_at "m")
    refine' m_join (by assumption) ?hm ?hok ?_
    case hm => walk_at "mem"
    case hok => rfl
    intro t tk
    repeat (walk_at "m")
    subst hg
    rw [show Txt.join (Str.ofString "") ((([] : List (Str × Tok))).map (·.1)) = Str.empty by decide +kernel]
    exact q.fin hc _ _ _ tN S.keptBut (fun p hp => (S.nw p (.tail _ (.tail _ hp))).1)
  | some c =>
    have hdr : r.cs.drop k = c :: r.cs.drop (k + 1) := by
      obtain ⟨hx, e⟩ := List.getElem?_eq_some_iff.mp hc
      rw [List.drop_eq_getElem_cons hx, e]
    rw [show (r.cs.drop k).take 1 = [c] by rw [hdr]; rfl] at S
    rw [show (k:Int) + (([c] : List (Str × Tok)).length : Int) = ((k + 1 : Nat) : Int) by simp] at S
    repeat (walk_at "m")
    rw [show ((([c] : List (Str × Tok)).map (·.1)).any fun x => x == Str.ofString "net") = isNet c.1 by simp [isNet]]
    apply m_ifb <;> intro hnet
    · repeat (walk_at "m")
      refine' m_RaiseExc hh (excK1 w.params) ?_
      repeat (walk_at "m")
      refine' m_cwCls (by assumption) X ?hk3 ?hs ?hp ?_
      case hk3 => k_is
      case hs => with_unfolding_all rfl
      case hp => with_unfolding_all rfl
      repeat (walk_at "m")
      refine' m_idx (by assumption) ?hm ?hz ?h0 ?hx ?hs ?_
      case hm => walk_at "mem"
      case hz => walk_at "sz"
      case h0 => decide
      case hx => rfl
      case hs => with_unfolding_all rfl
      repeat (walk_at "m")
      refine' m_getOwn (by assumption) X ?hx ?hd ?hg2 ?hh2 ?ha ?hn ?hl ?hv ?_
      case hx => walk_at "mem"
      case hd => walk_at "mem"
      case hg2 => k_is
      case hh2 => k_is
      case ha => k_is
      case hn => first | rfl | k_is
      case hl => exact okn ln tL
      case hv => rfl
      intro tk
      repeat (walk_at "m")
      refine' and_K (S.hasK X) ?_
      refine' m_excNew (by assumption) X (excK1 w.params) ?hi ?hf ?hfc (by size_fits) ?_
      case hi => k_is
      case hf => rfl
      case hfc => rfl
      clear S
      intro h e t0 S
      refine' m_callF ?_
      refine' net_init X0 T0 (depth_type hroom) (S.at (.head _)) (S.stays (hg ▸ hb) (fun p hp => by rcases List.mem_singleton.mp hp with rfl; exact .head _)) ?_
      intro h' tk' d od t' hdm he hnew hne hkept
      have S' := S.initBack hkept he hnew (by show [d, t'].Nodup; simp [hne])
      clear S
      refine ⟨rfl, e, some d, t', rfl, S'.hasK X, S'.at (.head _), ?_⟩
      subst hg
      refine' flown_first KB S' rfl rfl rfl rfl ?_
      intro h3 fl
      refine' q.net c hc hnet e d od t' _ _ _ h3 _ tN hdm (Flown.sub fl ?sub)
      case sub => exact .cons₂ _ (.cons₂ _ (.cons _ (.cons _ (.cons _ (List.Sublist.refl _)))))
    · repeat (walk_at "m")
      rw [show ((([c] : List (Str × Tok)).map (·.1)).any fun x => x == Str.ofString "key") = isKey c.1 by simp [isKey]]
      apply m_ifb <;> intro hkey
      · repeat (walk_at "m")
        refine' m_RaiseKey hh ?_
        repeat (walk_at "m")
        refine' m_idx (by assumption) ?hm ?hz ?h0 ?hx ?hs ?_
        case hm => walk_at "mem"
        case hz => walk_at "sz"
        case h0 => decide
        case hx => rfl
        case hs => with_unfolding_all rfl
        repeat (walk_at "m")
        refine' key_call ?_ (by size_fits)
        intro h' e M
        obtain ⟨t', S'⟩ := S.madeExc M
        clear S
        refine ⟨e, t', rfl, S'.at (.head _), ?_⟩
        subst hg
        refine' flown_first KB S' rfl rfl rfl rfl ?_
        intro h3 fl
        refine' q.key c hc hnet hkey e t' tN h3 _ tN (Flown.sub fl ?sub)
        case sub => exact .cons₂ _ (.cons _ (.cons _ (List.Sublist.refl _)))
      · repeat (walk_at "m")
        refine' m_join (by assumption) ?hm ?hok ?_
        case hm => walk_at "mem"
        case hok => exact joinOk_small _ (by simp) (fun x hx => by rcases List.mem_singleton.mp hx with rfl; exact (okstr _ (List.mem_of_getElem? hc)).len)
        intro t tk
        repeat (walk_at "m")
        subst hg
        exact q.one c hc hnet hkey _ _ _ tN S.keptBut (fun p hp => (S.nw p (.tail _ (.tail _ hp))).1)
end Mine

namespace Mine

def nlS : Str := "\n"
def lnOf (c : Str) (ln : Int) : Int := if c == nlS then ln + 1 else ln
structure ReadQ (r : Rig) (k : Nat) (ln : Int) (ks : List Addr) (outer : List Env) (h : Heap) (G : Array GenState) (D : Drawn) (O : OsState) (R : Result → Shared → Prop) : Prop where
  fin : r.cs[k]? = none → ∀ t h' tk' tA' tL', (∀ b o, h.get? b = some o → b ∉ ks → h'.get? b = some o) → (∀ p ∈ r.own k tA' ln tL', h'.get? p.1 = some p.2) → R (.ok (.ret (.str Str.empty t))) ⟨h', G, D, tk', O⟩
  one : ∀ c, r.cs[k]? = some c → isNet c.1 = false → isKey c.1 = false → ∀ t h' tk' tA' tL', (∀ b o, h.get? b = some o → b ∉ ks → h'.get? b = some o) → (∀ p ∈ r.own (k + 1 : Nat) tA' (lnOf c.1 ln) tL', h'.get? p.1 = some p.2) → R (.ok (.ret (.str c.1 t))) ⟨h', G, D, tk', O⟩
  net : ∀ c, r.cs[k]? = some c → isNet c.1 = true → ∀ e d od t' tm tk1 tk2 h' tk' tA' tL', DictMap od (netMap (.str "fault" tm) (.int (k + 1 : Nat) tk1) (.int ln tk2)) → Flown h ks outer e (.ref 46) (some d) (.ref t') .none ((d, od) :: (t', tupOf [.str "fault" tm]) :: r.own (k + 1 : Nat) tA' ln tL') h' → R (.error (.ref e)) ⟨h', G, D, tk', O⟩
  key : ∀ c, r.cs[k]? = some c → isNet c.1 = false → isKey c.1 = true → ∀ e t' tk1 h' tk' tA' tL', Flown h ks outer e (.type "KeyError") none (.ref t') .none ((t', tupOf [.int (k + 1 : Nat) tk1]) :: r.own (k + 1 : Nat) tA' ln tL') h' → R (.error (.ref e)) ⟨h', G, D, tk', O⟩

theorem read_char {w : World} {b0 : Heap} {p : Program} {loose : List Str} {mg mb : Str → Option Value} {mean : ExcName → Option Value} (X0 : (hd1.heap_39 w.params).In b0) (T0 : Top p loose mean mg mb b0) {A : Around} {outer : List Env} (hroom : A.depth < 390) (hun : A.units < 490) (hh : A.handled = none)
    {h : Heap} {G : Array GenState} {D : Drawn} {tk : Nat} {O : OsState} {r : Rig} (ok : RigOk r) {k : Nat} {tA : Tok} {ln : Int} {tL : Tok} (hle : k ≤ r.cs.length) (hown : ∀ p ∈ r.own k tA ln tL, h.get? p.1 = some p.2) (hnd : (keys (r.own k tA ln tL)).Nodup)
    (KB : Below A b0 outer (gOf h (r.own k tA ln tL))) {R : Result → Shared → Prop} (q : ReadQ r k ln (keys (r.own k tA ln tL)) outer h G D O R) :
    codeAny (model PySem.Challenge.rw_km0063_01.row.prog w) A (.call (.ref 70) ⟨[.ref r.xL], []⟩) R ⟨h, G, D, tk, O⟩ := by
  have hb := KB.stays
  have hb' : b0.StaysIn h := fun b o e => gOf_get (hb b o e)
  have _kf : (hd1.heap_39 w.params).In b0 ∧ PySem.Challenge.rw_km0063_01 = PySem.Challenge.rw_km0063_01 := by (k_fill; exact ⟨X0, rfl⟩)
  clear _kf
  refine' m_enter (own := r.own k tA ln tL) X0 T0.nolimit hb' hown hnd ?ho ?hcd ?hr ?hbind ?hloc ?hcell ?hco ?hgen ?hk ?_
  case ho => k_is
  case hcd => k_is
  case hr => have : (500:Nat) < recursionLimit := by decide
             omega
  case hbind => exact BindsTo.of_eq rfl
  case hloc => exact locs rfl
  case hcell => decide
  case hco => rfl
  case hgen => rfl
  case hk => rfl
  intro L h₁ tk₁ hL hk S
  have X := X0.keeps hb
  have T := topRead_of (T0.keeps hb)
  replace S := S.low (lo' := [("self", .ref r.xL)]) (lo_cons rfl lo_nil)
  clear hL
  generalize hg : gOf h (r.own k tA ln tL) = g at S X T
  repeat (walk_at "m")
  refine' m_getOwn (by assumption) X ?hx ?hd ?hg2 ?hh2 ?ha ?hn ?hl ?hv ?_
  case hx => walk_at "mem"
  case hd => walk_at "mem"
  case hg2 => k_is
  case hh2 => k_is
  case ha => k_is
  case hn => first | rfl | k_is
  case hl => exact ok.ins ln tL
  case hv => rfl
  intro tk
  repeat (walk_at "m")
  refine' m_methOwn (by assumption) X ?hx ?hd ?hg2 ?hh2 ?ha ?hl ?hv ?_
  case hx => walk_at "mem"
  case hd => walk_at "mem"
  case hg2 => k_is
  case hh2 => k_is
  case ha => k_is
  case hl => exact ok.rd
  case hv => rfl
  intro tk
  dsimp only
  have hfn : FnAt r.fG h₁ := fnAt_own S (by walk_at "mem")
  refine' m_cwK hfn ?hs ?hp ?_
  case hs => with_unfolding_all rfl
  case hp => with_unfolding_all rfl
  repeat (walk_at "m")
  refine' and_K hfn ?_
  refine' m_callF ?_
  have KB1 := KB
  rw [hg] at KB1
  refine' law_give (A := A.deeper _) X0 T0 ?hr ?hu ?hh ok hle (fun p hp => S.at (a := p.1) (o := p.2) hp) hnd (below_call KB1 S (fun p hp => hp) ?hk) ?_
  case hh => exact hh
  case hk => rfl
  case hr => show A.depth + 1 < 400; omega
  case hu => show A.units + 3 < 500; omega
  refine ⟨fun hc t h' tk' tA' hk2 hm2 => ?_, fun c hc hn hky t h' tk' tA' hk2 hm2 => ?_, fun c hc hn e d od t' tm tk1 tk2 h' tk' tA' hdm fl => ?_, fun c hc hn hky e t' tk1 h' tk' tA' fl => ?_⟩
  · replace S := S.after hk2 (fun b hb => hb) hm2 rfl
    repeat (walk_at "m")
    rw [show (Str.empty == Str.ofString "\n") = false by decide +kernel]
    repeat (walk_at "m")
    subst hg
    exact q.fin hc _ _ _ tA' tL S.keptBut (fun p hp => (S.nw p hp).1)
  · replace S := S.after hk2 (fun b hb => hb) hm2 rfl
    repeat (walk_at "m")
    apply m_ifb <;> intro hnl
    · repeat (walk_at "m")
      refine' m_getOwn (by assumption) X ?hx ?hd ?hg2 ?hh2 ?ha ?hn ?hl ?hv ?_
      case hx => walk_at "mem"
      case hd => walk_at "mem"
      case hg2 => k_is
      case hh2 => k_is
      case ha => k_is
      case hn => first | rfl | k_is
      case hl => exact ok.ln ln tL
      case hv => rfl
      intro tk
      repeat (walk_at "m")
      obtain ⟨tN, rfl⟩ : ∃ x, x = t := ⟨t, rfl⟩
      refine' m_reOwn (es' := r.esL (ln + 1) tN) (by assumption) X ?hx ?U ?hp' ?hn ?hs ?hp ?ht ?hh ?hl ?hz ?_
      case hx => walk_at "mem"
      case U => walk_at "at"
      case hp' => exact fun hsh key => ok.put hsh key ln tL (ln + 1) tN
      case hn => exact ok.putn ln tL
      case hs => k_is
      case hp => k_is
      case ht => k_is
      case hh => k_is
      case hl => rw [ok.ln ln tL]; rfl
      case hz => exact Nat.le_trans (ok.esz ln tL) (by decide)
      clear S
      intro h tk S
      repeat (walk_at "m")
      subst hg
      have e2 : lnOf c.1 ln = ln + 1 := by unfold lnOf; rw [show (c.1 == nlS) = true from hnl]; rfl
      exact q.one c hc hn hky _ _ _ tA' tN S.keptBut (fun p hp => by rw [e2] at hp; exact (S.nw p hp).1)
    · repeat (walk_at "m")
      subst hg
      have e2 : lnOf c.1 ln = ln := by unfold lnOf; rw [show (c.1 == nlS) = false from hnl]; rfl
      exact q.one c hc hn hky _ _ _ tA' tL S.keptBut (fun p hp => by rw [e2] at hp; exact (S.nw p hp).1)
  · subst hg
    refine' flown_leave KB S fl (.inl rfl) (fun b hb => hb) ?_
    intro h3 fl3
    exact q.net c hc hn e d od t' tm tk1 tk2 h3 _ tA' _ hdm fl3
  · subst hg
    refine' flown_leave KB S fl (.inl rfl) (fun b hb => hb) ?_
    intro h3 fl3
    exact q.key c hc hn hky e t' tk1 h3 _ tA' _ fl3
end Mine

namespace Mine

section
variable {w : World} {b0 : Heap} {p : Program} {loose : List Str} {mg mb : Str → Option Value} {mean : ExcName → Option Value} {A : Around} {outer : List Env}
  {g0 g h : Heap} {G : Array GenState} {D : Drawn} {tk : Nat} {O : OsState} {r : Rig} {k : Nat} {tA : Tok} {ln : Int} {tL u : Tok} {L a bm it : Addr} {lo : List (Str × Value)} {rest : List (Addr × Obj)}
  {cn : Str} {cs : Scope} {ccd : Value} {cl : List (Str × Addr)} {E : Value → Shared → Prop}

abbrev bmOf (r : Rig) : Obj := methodObj (.ref 70) (.ref r.xL)

/-- the next sign by the callable iterator -/
theorem next_char (X0 : (hd1.heap_39 w.params).In b0) (T0 : Top p loose mean mg mb b0) (hroom : A.depth < 380) (hun : A.units < 480) (hh : A.handled = none) (hk : cs.kind = .function)
    (KB : Below A b0 outer g) (ok : RigOk r) (hle : k ≤ r.cs.length) {Q : Option Value → Shared → Prop}
    (S : St g L h lo ((it, citOf (.ref bm) (.str Str.empty u)) :: (bm, bmOf r) :: (r.own k tA ln tL)))
    (qf : r.cs[k]? = none → ∀ h' tk' tA' tL', St g L h' lo ((it, citEnd) :: (bm, bmOf r) :: r.own k tA' ln tL') → Q none ⟨h', G, D, tk', O⟩)
    (qo : ∀ c, r.cs[k]? = some c → isNet c.1 = false → isKey c.1 = false → ∀ t h' tk' tA' tL', St g L h' lo ((it, citOf (.ref bm) (.str Str.empty u)) :: (bm, bmOf r) :: r.own (k + 1 : Nat) tA' (lnOf c.1 ln) tL') → Q (some (.str c.1 t)) ⟨h', G, D, tk', O⟩)
    (qn : ∀ c, r.cs[k]? = some c → isNet c.1 = true → ∀ e d od t' tm tk1 tk2 h' tk' tA' tL', DictMap od (netMap (.str "fault" tm) (.int (k + 1 : Nat) tk1) (.int ln tk2)) → Flown h (keys (r.own k tA ln tL)) (envX cn cs L a ccd cl :: outer) e (.ref 46) (some d) (.ref t') .none ((d, od) :: (t', tupOf [.str "fault" tm]) :: r.own (k + 1 : Nat) tA' ln tL') h' → E (.ref e) ⟨h', G, D, tk', O⟩)
    (qk : ∀ c, r.cs[k]? = some c → isNet c.1 = false → isKey c.1 = true → ∀ e t' tk1 h' tk' tA' tL', Flown h (keys (r.own k tA ln tL)) (envX cn cs L a ccd cl :: outer) e (.type "KeyError") none (.ref t') .none ((t', tupOf [.int (k + 1 : Nat) tk1]) :: r.own (k + 1 : Nat) tA' ln tL') h' → E (.ref e) ⟨h', G, D, tk', O⟩) :
    wpAny (model PySem.Challenge.rw_km0063_01.row.prog w) (A.deeper (envX cn cs L a ccd cl)) (pyNext (.ref it)) Q E ⟨h, G, D, tk, O⟩ := by
  have X := X0.keeps KB.stays
  have XK := S.hasK X
  have hnd : (keys (r.own k tA ln tL)).Nodup := (S.pick (.cons _ (.cons _ (List.Sublist.refl _)))).nd
  have nit : it ∉ keys (r.own k tA ln tL) := fun hm => by
    have := S.nd
    rw [List.map_cons, List.nodup_cons] at this
    exact this.1 (.tail _ hm)
  have nbm : bm ∉ keys (r.own k tA ln tL) := fun hm => by
    have := (S.pick (.cons _ (List.Sublist.refl _))).nd
    rw [List.map_cons, List.nodup_cons] at this
    exact this.1 hm
  obtain ⟨fo, fd, hfo, hfd⟩ : ∃ fo fd, (hd1.heap_39 w.params).lookup 70 = some fo ∧ fo.data = .func fd := ⟨_, _, rfl, rfl⟩
  have g70 : g.get? 70 = some fo := X _ _ hfo
  have n70 : 70 ∉ keys (r.own k tA ln tL) := fun hm => by
    obtain ⟨q, hq, e⟩ := List.mem_map.mp hm
    have := (S.nw q (.tail _ (.tail _ hq))).2.2
    rw [e, g70] at this; cases this
  refine' m_itNext (f := 70) hh (S.at (.head _)) (S.at (.tail _ (.head _))) (S.gkeep _ _ g70) hfd ?_
  refine' read_char (A := (A.deeper _).in1) X0 T0 ?hr ?hu ?hh ok hle (fun p hp => S.at (a := p.1) (o := p.2) (.tail _ (.tail _ hp))) hnd (Below.in1 (below_call KB S (fun p hp => .tail _ (.tail _ hp)) ?hk)) ?_
  case hr => show A.depth + 1 < 390; omega
  case hu => show A.units + 3 + 1 < 490; omega
  case hh => exact hh
  case hk => exact hk
  have back : ∀ {h' tA' ln' tL'} {k' : Nat}, (∀ b o, h.get? b = some o → b ∉ keys (r.own k tA ln tL) → h'.get? b = some o) → (∀ p ∈ r.own k' tA' ln' tL', h'.get? p.1 = some p.2) →
      St g L h' lo ((it, citOf (.ref bm) (.str Str.empty u)) :: (bm, bmOf r) :: r.own k' tA' ln' tL') := fun hk2 hm2 =>
    S.after hk2 (fun b hb => .tail _ (.tail _ hb)) (fun p hp => by
      rcases List.mem_cons.mp hp with rfl | hp
      · exact hk2 _ _ (S.at (.head _)) nit
      · rcases List.mem_cons.mp hp with rfl | hp
        · exact hk2 _ _ (S.at (.tail _ (.head _))) nbm
        · exact hm2 p hp) rfl
  refine ⟨fun hc t h' tk' tA' tL' hk2 hm2 => ?_, fun c hc hn hky t h' tk' tA' tL' hk2 hm2 => ?_, fun c hc hn e d od t' tm tk1 tk2 h' tk' tA' tL' hdm fl => ?_, fun c hc hn hky e t' tk1 h' tk' tA' tL' fl => ?_⟩
  · have S' := back hk2 hm2
    refine ⟨S'.at (.tail _ (.head _)), hk2 _ _ (S.gkeep _ _ g70) n70, ⟨u, S'.at (.head _)⟩, ?_⟩
    rw [if_pos (by decide +kernel)]
    intro h2 hx he
    refine qf hc h2 tk' tA' tL' (S'.upd (a := it) .here hx he)
  · have S' := back hk2 hm2
    refine ⟨S'.at (.tail _ (.head _)), hk2 _ _ (S.gkeep _ _ g70) n70, ⟨u, S'.at (.head _)⟩, ?_⟩
    have hne : (c.1 == Str.empty) = false := ok.ne c (List.mem_of_getElem? hc)
    rw [hne, if_neg (by decide)]
    exact qo c hc hn hky t h' tk' tA' tL' S'
  · refine ⟨fun A' E' Q' q' => ?_, qn c hc hn e d od t' tm tk1 tk2 h' tk' tA' tL' hdm fl⟩
    obtain ⟨oe, vs, z1, z2, _⟩ := fl.at
    exact not_stop (s := ⟨h', G, D, tk', O⟩) (excK1 w.params) (X0.keeps (fl.keptBase S KB.stays (fun b hb => .tail _ (.tail _ hb)) (below_call KB S (own0 := []) (fun p hp => nomatch hp) hk))) z1 z2 q'
  · refine ⟨fun A' E' Q' q' => ?_, qk c hc hn hky e t' tk1 h' tk' tA' tL' fl⟩
    obtain ⟨oe, vs, z1, z2, _⟩ := fl.at
    exact not_stopKey (s := ⟨h', G, D, tk', O⟩) z1 z2 q'
end
end Mine

namespace Mine

section
variable {w : World} {b0 : Heap} {p : Program} {loose : List Str} {mg mb : Str → Option Value} {mean : ExcName → Option Value} {A : Around} {outer : List Env}
  {g0 g h : Heap} {G : Array GenState} {D : Drawn} {tk : Nat} {O : OsState} {r : Rig} {k : Nat} {tA : Tok} {ln : Int} {tL u : Tok} {L a bm it : Addr} {lo : List (Str × Value)} {rest : List (Addr × Obj)} {oit : Obj}
  {cn : Str} {cs : Scope} {ccd : Value} {cl : List (Str × Addr)} {E : Value → Shared → Prop}

/-- a sign read at once -/
theorem call_rc (X0 : (hd1.heap_39 w.params).In b0) (T0 : Top p loose mean mg mb b0) (hroom : A.depth < 380) (hun : A.units < 480) (hh : A.handled = none) (hk : cs.kind = .function)
    (KB : Below A b0 outer g) (ok : RigOk r) (hle : k ≤ r.cs.length) {Q : Value → Shared → Prop}
    (S : St g L h lo ((it, oit) :: (bm, bmOf r) :: (r.own k tA ln tL)))
    (qf : r.cs[k]? = none → ∀ t h' tk' tA' tL', St g L h' lo ((it, oit) :: (bm, bmOf r) :: r.own k tA' ln tL') → Q (.str Str.empty t) ⟨h', G, D, tk', O⟩)
    (qo : ∀ c, r.cs[k]? = some c → isNet c.1 = false → isKey c.1 = false → ∀ t h' tk' tA' tL', St g L h' lo ((it, oit) :: (bm, bmOf r) :: r.own (k + 1 : Nat) tA' (lnOf c.1 ln) tL') → Q (.str c.1 t) ⟨h', G, D, tk', O⟩)
    (qn : ∀ c, r.cs[k]? = some c → isNet c.1 = true → ∀ e d od t' tm tk1 tk2 h' tk' tA' tL', DictMap od (netMap (.str "fault" tm) (.int (k + 1 : Nat) tk1) (.int ln tk2)) → Flown h (keys (r.own k tA ln tL)) (envX cn cs L a ccd cl :: outer) e (.ref 46) (some d) (.ref t') .none ((d, od) :: (t', tupOf [.str "fault" tm]) :: r.own (k + 1 : Nat) tA' ln tL') h' → E (.ref e) ⟨h', G, D, tk', O⟩)
    (qk : ∀ c, r.cs[k]? = some c → isNet c.1 = false → isKey c.1 = true → ∀ e t' tk1 h' tk' tA' tL', Flown h (keys (r.own k tA ln tL)) (envX cn cs L a ccd cl :: outer) e (.type "KeyError") none (.ref t') .none ((t', tupOf [.int (k + 1 : Nat) tk1]) :: r.own (k + 1 : Nat) tA' ln tL') h' → E (.ref e) ⟨h', G, D, tk', O⟩) :
    wpAny (model PySem.Challenge.rw_km0063_01.row.prog w) (A.deeper (envX cn cs L a ccd cl)) (call (.ref 70) [.ref r.xL]) Q E ⟨h, G, D, tk, O⟩ := by
  have hnd : (keys (r.own k tA ln tL)).Nodup := (S.pick (.cons _ (.cons _ (List.Sublist.refl _)))).nd
  have nit : it ∉ keys (r.own k tA ln tL) := fun hm => by
    have := S.nd
    rw [List.map_cons, List.nodup_cons] at this
    exact this.1 (.tail _ hm)
  have nbm : bm ∉ keys (r.own k tA ln tL) := fun hm => by
    have := (S.pick (.cons _ (List.Sublist.refl _))).nd
    rw [List.map_cons, List.nodup_cons] at this
    exact this.1 hm
  refine' m_callF ?_
  refine' read_char (A := (A.deeper _)) X0 T0 ?hr ?hu ?hh ok hle (fun p hp => S.at (a := p.1) (o := p.2) (.tail _ (.tail _ hp))) hnd (below_call KB S (fun p hp => .tail _ (.tail _ hp)) ?hk) ?_
  case hr => show A.depth + 1 < 390; omega
  case hu => show A.units + 3 < 490; omega
  case hh => exact hh
  case hk => exact hk
  have back : ∀ {h' tA' ln' tL'} {k' : Nat}, (∀ b o, h.get? b = some o → b ∉ keys (r.own k tA ln tL) → h'.get? b = some o) → (∀ p ∈ r.own k' tA' ln' tL', h'.get? p.1 = some p.2) →
      St g L h' lo ((it, oit) :: (bm, bmOf r) :: r.own k' tA' ln' tL') := fun hk2 hm2 =>
    S.after hk2 (fun b hb => .tail _ (.tail _ hb)) (fun p hp => by
      rcases List.mem_cons.mp hp with rfl | hp
      · exact hk2 _ _ (S.at (.head _)) nit
      · rcases List.mem_cons.mp hp with rfl | hp
        · exact hk2 _ _ (S.at (.tail _ (.head _))) nbm
        · exact hm2 p hp) rfl
  exact ⟨fun hc t h' tk' tA' tL' hk2 hm2 => qf hc t h' tk' tA' tL' (back hk2 hm2), fun c hc hn hky t h' tk' tA' tL' hk2 hm2 => qo c hc hn hky t h' tk' tA' tL' (back hk2 hm2),
    fun c hc hn e d od t' tm tk1 tk2 h' tk' tA' tL' hdm fl => qn c hc hn e d od t' tm tk1 tk2 h' tk' tA' tL' hdm fl, fun c hc hn hky e t' tk1 h' tk' tA' tL' fl => qk c hc hn hky e t' tk1 h' tk' tA' tL' fl⟩
end

end Mine

namespace Mine
set_option hygiene false in
local macro_rules | `(tactic| walk_at "fly") => `(tactic| ((try dsimp only); first
  | (refine' flown_noted KB fl (frames_no KB S) (by first | exact Or.inl rfl | exact Or.inr rfl) ?_; clear fl; intro hfly fl)
  | (refine' flown_back fl (frames_no KB S) ?_; clear fl; intro hfly fl)))

def wsP : Str := "\n\t\r "
inductive Mode | skip | quoted | plain
inductive Out
  | tok (s : Str) (k : Nat) (ln : Int)
  | net (k : Nat) (ln : Int)
  | key (k : Nat) (ln : Int)
def run : List Str → Mode → Bool → Str → Nat → Int → Out
  | [], _, _, tok, k, ln => .tok tok k ln
  | c :: r, m, esc, tok, k, ln =>
    if isNet c then .net (k + 1) ln else if isKey c then .key (k + 1) ln else
    if esc then run r m false (tok ++ c) (k + 1) (lnOf c ln) else
    match m with
    | .skip => if inS wsP c then run r .skip false tok (k + 1) (lnOf c ln) else if c == qt then run r .quoted false tok (k + 1) (lnOf c ln) else if c == bs then run r .plain true tok (k + 1) (lnOf c ln) else run r .plain false (tok ++ c) (k + 1) (lnOf c ln)
    | .quoted => if c == qt then .tok tok (k + 1) (lnOf c ln) else if c == bs then run r .quoted true tok (k + 1) (lnOf c ln) else run r .quoted false (tok ++ c) (k + 1) (lnOf c ln)
    | .plain => if inS wsP c then .tok tok (k + 1) (lnOf c ln) else if c == bs then run r .plain true tok (k + 1) (lnOf c ln) else run r .plain false (tok ++ c) (k + 1) (lnOf c ln)

theorem str_app_nil (x : Str) : x ++ Str.empty = x := by
  obtain ⟨c⟩ := x
  show Str.mk (c ++ #[]) = Str.mk c
  rw [Array.append_empty]
theorem drop_some {cs : List (Str × Tok)} {k : Nat} {c : Str × Tok} (h : cs[k]? = some c) : (cs.map (·.1)).drop k = c.1 :: (cs.map (·.1)).drop (k + 1) := by
  obtain ⟨hx, e⟩ := List.getElem?_eq_some_iff.mp h
  rw [← List.map_drop, ← List.map_drop, List.drop_eq_getElem_cons hx, e, List.map_cons]
theorem drop_none {cs : List (Str × Tok)} {k : Nat} (h : cs[k]? = none) : (cs.map (·.1)).drop k = [] := by
  rw [List.getElem?_eq_none_iff] at h
  exact List.drop_of_length_le (by simpa using h)
theorem lt_some {cs : List (Str × Tok)} {k : Nat} {c : Str × Tok} (h : cs[k]? = some c) : k < cs.length := (List.getElem?_eq_some_iff.mp h).1
theorem run_nil (m : Mode) (e : Bool) (tok : Str) (k : Nat) (ln : Int) : run [] m e tok k ln = .tok tok k ln := by simp [run]
theorem run_net {c : Str} (r : List Str) (m : Mode) (e : Bool) (tok : Str) (k : Nat) (ln : Int) (h : isNet c = true) : run (c :: r) m e tok k ln = .net (k + 1) ln := by simp [run, h]
theorem run_key {c : Str} (r : List Str) (m : Mode) (e : Bool) (tok : Str) (k : Nat) (ln : Int) (h : isNet c = false) (h2 : isKey c = true) : run (c :: r) m e tok k ln = .key (k + 1) ln := by simp [run, h, h2]
theorem run_esc {c : Str} (r : List Str) (m : Mode) (tok : Str) (k : Nat) (ln : Int) (h : isNet c = false) (h2 : isKey c = false) : run (c :: r) m true tok k ln = run r m false (tok ++ c) (k + 1) (lnOf c ln) := by simp [run, h, h2]
theorem run_skip {c : Str} (r : List Str) (tok : Str) (k : Nat) (ln : Int) (h : isNet c = false) (h2 : isKey c = false) : run (c :: r) .skip false tok k ln = if inS wsP c then run r .skip false tok (k + 1) (lnOf c ln) else if c == qt then run r .quoted false tok (k + 1) (lnOf c ln) else if c == bs then run r .plain true tok (k + 1) (lnOf c ln) else run r .plain false (tok ++ c) (k + 1) (lnOf c ln) := by simp [run, h, h2]
theorem run_quoted {c : Str} (r : List Str) (tok : Str) (k : Nat) (ln : Int) (h : isNet c = false) (h2 : isKey c = false) : run (c :: r) .quoted false tok k ln = if c == qt then .tok tok (k + 1) (lnOf c ln) else if c == bs then run r .quoted true tok (k + 1) (lnOf c ln) else run r .quoted false (tok ++ c) (k + 1) (lnOf c ln) := by simp [run, h, h2]
theorem run_plain {c : Str} (r : List Str) (tok : Str) (k : Nat) (ln : Int) (h : isNet c = false) (h2 : isKey c = false) : run (c :: r) .plain false tok k ln = if inS wsP c then .tok tok (k + 1) (lnOf c ln) else if c == bs then run r .plain true tok (k + 1) (lnOf c ln) else run r .plain false (tok ++ c) (k + 1) (lnOf c ln) := by simp [run, h, h2]

structure TokQ (r : Rig) (out : Out) (ks : List Addr) (outer : List Env) (h : Heap) (G : Array GenState) (D : Drawn) (O : OsState) (R : Result → Shared → Prop) : Prop where
  tok : ∀ s k' ln', out = .tok s k' ln' → ∀ t h' tk' tA' tL', (∀ b o, h.get? b = some o → b ∉ ks → h'.get? b = some o) → (∀ p ∈ r.own k' tA' ln' tL', h'.get? p.1 = some p.2) → R (.ok (.ret (.str s t))) ⟨h', G, D, tk', O⟩
  net : ∀ k' ln', out = .net k' ln' → ∀ e d od t' tm tk1 tk2 h' tk' tA' tL', DictMap od (netMap (.str "fault" tm) (.int (k' : Nat) tk1) (.int ln' tk2)) → Flown h ks outer e (.ref 46) (some d) (.ref t') .none ((d, od) :: (t', tupOf [.str "fault" tm]) :: r.own k' tA' ln' tL') h' → R (.error (.ref e)) ⟨h', G, D, tk', O⟩
  key : ∀ k' ln', out = .key k' ln' → ∀ e t' tk1 h' tk' tA' tL', Flown h ks outer e (.type "KeyError") none (.ref t') .none ((t', tupOf [.int (k' : Nat) tk1]) :: r.own k' tA' ln' tL') h' → R (.error (.ref e)) ⟨h', G, D, tk', O⟩

theorem get_token {w : World} {b0 : Heap} {p : Program} {loose : List Str} {mg mb : Str → Option Value} {mean : ExcName → Option Value} (X0 : (hd1.heap_39 w.params).In b0) (T0 : Top p loose mean mg mb b0) {A : Around} {outer : List Env} (hroom : A.depth < 370) (hun : A.units < 470) (hh : A.handled = none)
    {h : Heap} {G : Array GenState} {D : Drawn} {tk : Nat} {O : OsState} {r : Rig} (ok : RigOk r) {k : Nat} {tA : Tok} {ln : Int} {tL : Tok} (hle : k ≤ r.cs.length) (hown : ∀ p ∈ r.own k tA ln tL, h.get? p.1 = some p.2) (hnd : (keys (r.own k tA ln tL)).Nodup)
    (KB : Below A b0 outer (gOf h (r.own k tA ln tL))) {R : Result → Shared → Prop} (q : TokQ r (run ((r.cs.map (·.1)).drop k) .skip false Str.empty k ln) (keys (r.own k tA ln tL)) outer h G D O R) :
    codeAny (model PySem.Challenge.rw_km0063_01.row.prog w) A (.call (.ref 77) ⟨[.ref r.xL], []⟩) R ⟨h, G, D, tk, O⟩ := by
  have hb := KB.stays
  have hb' : b0.StaysIn h := fun b o e => gOf_get (hb b o e)
  have _kf : (hd1.heap_39 w.params).In b0 ∧ PySem.Challenge.rw_km0063_01 = PySem.Challenge.rw_km0063_01 := by (k_fill; exact ⟨X0, rfl⟩)
  clear _kf
  refine' m_enter (own := r.own k tA ln tL) X0 T0.nolimit hb' hown hnd ?ho ?hcd ?hr ?hbind ?hloc ?hcell ?hco ?hgen ?hk ?_
  case ho => k_is
  case hcd => k_is
  case hr => have : (500:Nat) < recursionLimit := by decide
             omega
  case hbind => exact BindsTo.of_eq rfl
  case hloc => exact locs rfl
  case hcell => decide
  case hco => rfl
  case hgen => rfl
  case hk => rfl
  intro L h₁ tk₁ hL hk S
  have X := X0.keeps hb
  have T := topRead_of (T0.keeps hb)
  replace S := S.low (lo' := [("self", .ref r.xL)]) (lo_cons rfl lo_nil)
  clear hL
  generalize hg : gOf h (r.own k tA ln tL) = g at S X T
  repeat (walk_at "m")
  refine' m_getOwn (by assumption) X ?hx ?hd ?hg2 ?hh2 ?ha ?hn ?hl ?hv ?_
  case hx => walk_at "mem"
  case hd => walk_at "mem"
  case hg2 => k_is
  case hh2 => k_is
  case ha => k_is
  case hn => first | rfl | k_is
  case hl => exact ok.psh ln tL
  case hv => rfl
  intro tk
  refine' m_truthy_list (by assumption) ?hm ?hz ?_
  case hm => walk_at "mem"
  case hz => walk_at "sz"
  intro tk
  refine' m_iff ?_
  repeat (walk_at "m")
  refine' m_bound (by assumption) X ?hx ?hd ?hg2 ?hh2 ?ha ?hf ?hgf ?ht ?hc ?hl ?_
  case hx => walk_at "mem"
  case hd => walk_at "mem"
  case hg2 => k_is
  case hh2 => k_is
  case ha => k_is
  case hf => k_is
  case hgf => k_is
  case ht => k_is
  case hc => decide +kernel
  case hl => exact ok.rc ln tL
  clear S
  intro bm h tk S
  repeat (walk_at "m")
  refine' m_iter2 (by assumption) ?hm ?_
  case hm => walk_at "mem"
  clear S
  intro it h S
  repeat (walk_at "m")
  rw [show Str.ofString "" = Str.empty by decide +kernel] at S
  obtain ⟨u, hu2⟩ : ∃ u, u = t := ⟨t, rfl⟩
  rw [← hu2] at S
  clear hu2
  refine' wpAny_For ?_ ?hfs
  case hfs => intro _; rfl
  repeat (walk_at "m")
  refine' m_citIter (S.at (.head _)) ?_
  obtain ⟨out, hout⟩ : ∃ out, out = run ((r.cs.map (·.1)).drop k) .skip false Str.empty k ln := ⟨_, rfl⟩
  rw [← hout] at q
  refine' codeAny_forLoop (fun n s' => ∃ (h : Heap) (tk k : Nat) (tA : Tok) (ln : Int) (tL : Tok), s' = ⟨h, G, D, tk, O⟩ ∧ k ≤ r.cs.length ∧
    ((∃ t, n = r.cs.length - k + 1 ∧ St g L h [("fiter", .ref it), ("token", .str Str.empty t), ("self", .ref r.xL)] ((it, citOf (.ref bm) (.str Str.empty u)) :: (bm, bmOf r) :: r.own k tA ln tL) ∧ out = run ((r.cs.map (·.1)).drop k) .skip false Str.empty k ln) ∨
     (∃ sx t, n = 0 ∧ St g L h [("fiter", .ref it), ("token", .str sx t), ("self", .ref r.xL)] ((it, citEnd) :: (bm, bmOf r) :: r.own k tA ln tL) ∧ out = .tok sx k ln))) ?turn (r.cs.length - k + 1) ?init ?ht
  case ht => intro _; rfl
  case init => exact ⟨h, tk, k, tA, ln, tL, rfl, hle, .inl ⟨_, rfl, S, hout⟩⟩
  clear S hout hown hnd hle hk
  obtain ⟨tws, hws⟩ := ok.wsp
  have hlen64 := ok.len
  have hez : Str.empty.length = 0 := rfl
  rintro n s' ⟨h, tk, k, tA, ln, tL, rfl, hle, ⟨t, hn, S, hout⟩ | ⟨sx, t, hn, S, hout⟩⟩
  · have KB1 := KB
    rw [hg] at KB1
    refine' next_char X0 T0 ?hr ?hu ?hh ?hk KB1 ok hle S ?qf ?qo ?qn ?qk
    case hr => omega
    case hu => omega
    case hh => exact hh
    case hk => rfl
    case qf =>
      clear S
      intro hc h' tk' tA' tL' S
      repeat (walk_at "m")
      subst hg
      rw [drop_none hc, run_nil] at hout
      exact q.tok _ _ _ hout _ _ _ tA' tL' S.keptBut (fun p hp => (S.nw p (.tail _ (.tail _ hp))).1)
    case qo =>
      clear S
      intro c hc hnet hky tc h' tk' tA' tL' S
      rw [drop_some hc, run_skip _ _ _ _ hnet hky] at hout
      have hlt := lt_some hc
      repeat (walk_at "m")
      refine' m_getOwn (by assumption) X ?hx ?hd ?hg2 ?hh2 ?ha ?hn ?hl ?hv ?_
      case hx => walk_at "mem"
      case hd => walk_at "mem"
      case hg2 => k_is
      case hh2 => k_is
      case ha => k_is
      case hn => first | rfl | k_is
      case hl => exact hws _ _
      case hv => rfl
      intro tk
      repeat (walk_at "m")
      apply m_ifb <;> intro hw
      · repeat (walk_at "m")
        rw [if_pos (show inS wsP c.1 = true from hw)] at hout
        exact ⟨r.cs.length - (k + 1) + 1, by omega, _, _, k + 1, tA', lnOf c.1 ln, tL', rfl, hlt, .inl ⟨t, rfl, S.low (lo_cons rfl (lo_cons rfl (lo_cons rfl lo_nil))), hout⟩⟩
      · repeat (walk_at "m")
        rw [if_neg (show ¬ (inS wsP c.1 = true) by intro z; have : inS wsP c.1 = false := hw; rw [this] at z; cases z)] at hout
        apply m_ifb <;> intro hq
        · rw [if_pos (show (c.1 == qt) = true from hq)] at hout
          repeat (walk_at "m")
          obtain ⟨k1, hk1e⟩ : ∃ k1, k1 = k + 1 := ⟨_, rfl⟩
          rw [← hk1e] at S hout
          have hk1 : k + 1 ≤ k1 := by omega
          have hk1l : k1 ≤ r.cs.length := by omega
          have htk1 : Str.empty.length ≤ 8 * k1 := Nat.zero_le _
          refine' wpAny_For ?_ ?hfsquoted
          case hfsquoted => intro _; rfl
          repeat (walk_at "m")
          refine' m_citIter (S.at (.head _)) ?_
          refine' codeAny_forLoop (fun n2 s' => ∃ (h : Heap) (tk k2 : Nat) (tA : Tok) (ln : Int) (tL : Tok) (tok2 : Str) (t2 : Tok), s' = ⟨h, G, D, tk, O⟩ ∧ k + 1 ≤ k2 ∧ k2 ≤ r.cs.length ∧ n2 = r.cs.length - k2 + 1 ∧ tok2.length ≤ 8 * k2 ∧
              St g L h [("fiter", .ref it), ("token", .str tok2 t2), ("self", .ref r.xL)] ((it, citOf (.ref bm) (.str Str.empty u)) :: (bm, bmOf r) :: r.own k2 tA ln tL) ∧ out = run ((r.cs.map (·.1)).drop k2) .quoted false tok2 k2 ln) ?turn2quoted (r.cs.length - k1 + 1) ?init2quoted ?ht2quoted
          case ht2quoted => intro _; rfl
          case init2quoted => exact ⟨h, _, k1, _, _, _, _, _, rfl, hk1, hk1l, rfl, htk1, S.low (lo_cons rfl (lo_cons rfl (lo_cons rfl lo_nil))), hout⟩
          clear S hout
          rintro n2 s' ⟨h, tk, k2, tA, ln, tL, tok2, t2, rfl, hk2, hk2l, hn2, htl, S, hout⟩
          refine' next_char X0 T0 ?hr ?hu ?hh ?hk KB1 ok hk2l S ?qfIquoted ?qoIquoted ?qnIquoted ?qkIquoted
          case hr => omega
          case hu => omega
          case hh => exact hh
          case hk => rfl
          case qfIquoted =>
            clear S
            intro hc2 h' tk' tA' tL' S
            repeat (walk_at "m")
            rw [drop_none hc2, run_nil] at hout
            exact ⟨0, by omega, _, _, k2, tA', ln, tL', rfl, hk2l, .inr ⟨tok2, t2, rfl, S.low (lo_cons rfl (lo_cons rfl (lo_cons rfl lo_nil))), hout⟩⟩
          case qoIquoted =>
            clear S
            intro c2 hc2 hnet2 hky2 tc2 h' tk' tA' tL' S
            rw [drop_some hc2, run_quoted _ _ _ _ hnet2 hky2] at hout
            have hlt2 := lt_some hc2
            have hl82 := (ok.str c2 (List.mem_of_getElem? hc2)).len
            repeat (walk_at "m")
            apply m_ifb <;> intro hw
            · rw [if_pos (show (c2.1 == qt) = true from hw)] at hout
              repeat (walk_at "m")
              subst hg
              exact q.tok _ _ _ hout _ _ _ tA' tL' S.keptBut (fun p hp => (S.nw p (.tail _ (.tail _ hp))).1)
            · rw [if_neg (show ¬ ((c2.1 == qt) = true) by intro z; have : (c2.1 == qt) = false := hw; rw [this] at z; cases z)] at hout
              repeat (walk_at "m")
              apply m_ifb <;> intro hb2
              · rw [if_pos (show (c2.1 == bs) = true from hb2)] at hout
                repeat (walk_at "m")
                refine' m_methInst (by assumption) X ?hx ?hd ?hg2 ?hf ?ht ?hl ?_
                case hx => walk_at "mem"
                case hd => walk_at "mem"
                case hg2 => k_is
                case hf => k_is
                case ht => k_is
                case hl => exact ok.rc _ _
                dsimp only
                refine' m_cwK0 (fnAt_K X S ?hlk) ?_
                case hlk => rfl
                refine' call_rc X0 T0 ?hr ?hu ?hh ?hk KB1 ok hlt2 S ?qfJquoted ?qoJquoted ?qnJquoted ?qkJquoted
                case hr => omega
                case hu => omega
                case hh => exact hh
                case hk => rfl
                case qfJquoted =>
                  clear S
                  intro hc3 tc3 h' tk' tA' tL' S
                  repeat (walk_at "m")
                  exact ⟨r.cs.length - (k2 + 1) + 1, by omega, _, _, k2 + 1, _, _, _, tok2 ++ Str.empty, _, rfl, by omega, by omega, rfl, by rw [str_app_nil]; omega, S.low (lo_cons rfl (lo_cons rfl (lo_cons rfl lo_nil))), by rw [drop_none hc3, run_nil] at hout; rw [drop_none hc3, run_nil, str_app_nil]; exact hout⟩
                case qoJquoted =>
                  clear S
                  intro c3 hc3 hnet3 hky3 tc3 h' tk' tA' tL' S
                  have hlt3 := lt_some hc3
                  have hl83 := (ok.str c3 (List.mem_of_getElem? hc3)).len
                  repeat (walk_at "m")
                  exact ⟨r.cs.length - (k2 + 1 + 1) + 1, by omega, _, _, k2 + 1 + 1, _, _, _, tok2 ++ c3.1, _, rfl, by omega, by omega, rfl, by rw [Str.length_append]; omega, S.low (lo_cons rfl (lo_cons rfl (lo_cons rfl lo_nil))), by rw [drop_some hc3, run_esc _ _ _ _ _ hnet3 hky3] at hout; exact hout⟩
                case qnJquoted =>
                  intro c3 hc3 hnet3 e d od t' tm tk1 tk2 h' tk' tA' tL' hdm fl
                  subst hg
                  repeat (walk_at "fly")
                  refine' flown_leave KB S fl (.inr rfl) (fun b hb => .tail _ (.tail _ hb)) ?_
                  intro h3 fl3
                  rw [drop_some hc3, run_net _ _ _ _ _ _ hnet3] at hout
                  exact q.net _ _ hout e d od t' tm tk1 tk2 h3 _ tA' _ hdm fl3
                case qkJquoted =>
                  intro c3 hc3 hnet3 hky3 e t' tk1 h' tk' tA' tL' fl
                  subst hg
                  repeat (walk_at "fly")
                  refine' flown_leave KB S fl (.inr rfl) (fun b hb => .tail _ (.tail _ hb)) ?_
                  intro h3 fl3
                  rw [drop_some hc3, run_key _ _ _ _ _ _ hnet3 hky3] at hout
                  exact q.key _ _ hout e t' tk1 h3 _ tA' _ fl3
              · rw [if_neg (show ¬ ((c2.1 == bs) = true) by intro z; have : (c2.1 == bs) = false := hb2; rw [this] at z; cases z)] at hout
                repeat (walk_at "m")
                exact ⟨r.cs.length - (k2 + 1) + 1, by omega, _, _, k2 + 1, _, _, _, tok2 ++ c2.1, _, rfl, by omega, by omega, rfl, by rw [Str.length_append]; omega, S.low (lo_cons rfl (lo_cons rfl (lo_cons rfl lo_nil))), hout⟩
          case qnIquoted =>
            intro c2 hc2 hnet2 e d od t' tm tk1 tk2 h' tk' tA' tL' hdm fl
            subst hg
            repeat (walk_at "fly")
            refine' flown_leave KB S fl (.inr rfl) (fun b hb => .tail _ (.tail _ hb)) ?_
            intro h3 fl3
            rw [drop_some hc2, run_net _ _ _ _ _ _ hnet2] at hout
            exact q.net _ _ hout e d od t' tm tk1 tk2 h3 _ tA' _ hdm fl3
          case qkIquoted =>
            intro c2 hc2 hnet2 hky2 e t' tk1 h' tk' tA' tL' fl
            subst hg
            repeat (walk_at "fly")
            refine' flown_leave KB S fl (.inr rfl) (fun b hb => .tail _ (.tail _ hb)) ?_
            intro h3 fl3
            rw [drop_some hc2, run_key _ _ _ _ _ _ hnet2 hky2] at hout
            exact q.key _ _ hout e t' tk1 h3 _ tA' _ fl3
        · rw [if_neg (show ¬ ((c.1 == qt) = true) by intro z; have : (c.1 == qt) = false := hq; rw [this] at z; cases z)] at hout
          walk_at "m"
          refine' wpAny_mono (Q := fun f s' => ∃ (h : Heap) (tk k1 : Nat) (tA : Tok) (ln : Int) (tL : Tok) (ch : Str) (tc t : Tok), f = .next ∧ s' = ⟨h, G, D, tk, O⟩ ∧ k + 1 ≤ k1 ∧ k1 ≤ r.cs.length ∧ ch.length ≤ 8 ∧
            St g L h [("ch", .str ch tc), ("fiter", .ref it), ("token", .str Str.empty t), ("self", .ref r.xL)] ((it, citOf (.ref bm) (.str Str.empty u)) :: (bm, bmOf r) :: r.own k1 tA ln tL) ∧ out = run ((r.cs.map (·.1)).drop k1) .plain false (Str.empty ++ ch) k1 ln) ?if1 ?rest1 (fun _ _ x => x)
          case if1 =>
            have hl8 := (ok.str c (List.mem_of_getElem? hc)).len
            repeat (walk_at "m")
            apply m_ifb <;> intro hb2
            · rw [if_pos (show (c.1 == bs) = true from hb2)] at hout
              repeat (walk_at "m")
              refine' m_methInst (by assumption) X ?hx ?hd ?hg2 ?hf ?ht ?hl ?_
              case hx => walk_at "mem"
              case hd => walk_at "mem"
              case hg2 => k_is
              case hf => k_is
              case ht => k_is
              case hl => exact ok.rc _ _
              dsimp only
              refine' m_cwK0 (fnAt_K X S ?hlk) ?_
              case hlk => rfl
              refine' call_rc X0 T0 ?hr ?hu ?hh ?hk KB1 ok hlt S ?qfP ?qoP ?qnP ?qkP
              case hr => omega
              case hu => omega
              case hh => exact hh
              case hk => rfl
              case qfP =>
                clear S
                intro hc2 tc2 h' tk' tA' tL' S
                repeat (walk_at "m")
                exact ⟨_, _, k + 1, _, _, _, _, _, _, rfl, rfl, Nat.le_refl _, hlt, by decide, S.low (lo_cons rfl (lo_cons rfl (lo_cons rfl (lo_cons rfl lo_nil)))), by rw [drop_none hc2, run_nil] at hout; rw [drop_none hc2, run_nil]; exact hout⟩
              case qoP =>
                clear S
                intro c2 hc2 hnet2 hky2 tc2 h' tk' tA' tL' S
                have hlt2 := lt_some hc2
                have hl82 := (ok.str c2 (List.mem_of_getElem? hc2)).len
                repeat (walk_at "m")
                exact ⟨_, _, k + 1 + 1, _, _, _, _, _, _, rfl, rfl, by omega, hlt2, hl82, S.low (lo_cons rfl (lo_cons rfl (lo_cons rfl (lo_cons rfl lo_nil)))), by rw [drop_some hc2, run_esc _ _ _ _ _ hnet2 hky2] at hout; exact hout⟩
              case qnP =>
                intro c2 hc2 hnet2 e d od t' tm tk1 tk2 h' tk' tA' tL' hdm fl
                subst hg
                repeat (walk_at "fly")
                refine' flown_leave KB S fl (.inr rfl) (fun b hb => .tail _ (.tail _ hb)) ?_
                intro h3 fl3
                rw [drop_some hc2, run_net _ _ _ _ _ _ hnet2] at hout
                exact q.net _ _ hout e d od t' tm tk1 tk2 h3 _ tA' _ hdm fl3
              case qkP =>
                intro c2 hc2 hnet2 hky2 e t' tk1 h' tk' tA' tL' fl
                subst hg
                repeat (walk_at "fly")
                refine' flown_leave KB S fl (.inr rfl) (fun b hb => .tail _ (.tail _ hb)) ?_
                intro h3 fl3
                rw [drop_some hc2, run_key _ _ _ _ _ _ hnet2 hky2] at hout
                exact q.key _ _ hout e t' tk1 h3 _ tA' _ fl3
            · rw [if_neg (show ¬ ((c.1 == bs) = true) by intro z; have : (c.1 == bs) = false := hb2; rw [this] at z; cases z)] at hout
              repeat (walk_at "m")
              exact ⟨_, _, k + 1, _, _, _, _, _, _, rfl, rfl, Nat.le_refl _, hlt, hl8, S.low (lo_cons rfl (lo_cons rfl (lo_cons rfl (lo_cons rfl lo_nil)))), hout⟩
          case rest1 =>
            clear S hout
            rintro f s' ⟨h, tk, k1, tA, ln, tL, ch, tc, t, rfl, rfl, hk1, hk1l, hch, S, hout⟩
            repeat (walk_at "m")
            have htk1 : (Str.empty ++ ch).length ≤ 8 * k1 := by rw [Str.length_append]; omega
            refine' wpAny_For ?_ ?hfsplain
            case hfsplain => intro _; rfl
            repeat (walk_at "m")
            refine' m_citIter (S.at (.head _)) ?_
            refine' codeAny_forLoop (fun n2 s' => ∃ (h : Heap) (tk k2 : Nat) (tA : Tok) (ln : Int) (tL : Tok) (tok2 : Str) (t2 : Tok), s' = ⟨h, G, D, tk, O⟩ ∧ k + 1 ≤ k2 ∧ k2 ≤ r.cs.length ∧ n2 = r.cs.length - k2 + 1 ∧ tok2.length ≤ 8 * k2 ∧
                St g L h [("fiter", .ref it), ("token", .str tok2 t2), ("self", .ref r.xL)] ((it, citOf (.ref bm) (.str Str.empty u)) :: (bm, bmOf r) :: r.own k2 tA ln tL) ∧ out = run ((r.cs.map (·.1)).drop k2) .plain false tok2 k2 ln) ?turn2plain (r.cs.length - k1 + 1) ?init2plain ?ht2plain
            case ht2plain => intro _; rfl
            case init2plain => exact ⟨h, _, k1, _, _, _, _, _, rfl, hk1, hk1l, rfl, htk1, S.low (lo_cons rfl (lo_cons rfl (lo_cons rfl lo_nil))), hout⟩
            clear S hout
            rintro n2 s' ⟨h, tk, k2, tA, ln, tL, tok2, t2, rfl, hk2, hk2l, hn2, htl, S, hout⟩
            refine' next_char X0 T0 ?hr ?hu ?hh ?hk KB1 ok hk2l S ?qfIplain ?qoIplain ?qnIplain ?qkIplain
            case hr => omega
            case hu => omega
            case hh => exact hh
            case hk => rfl
            case qfIplain =>
              clear S
              intro hc2 h' tk' tA' tL' S
              repeat (walk_at "m")
              rw [drop_none hc2, run_nil] at hout
              exact ⟨0, by omega, _, _, k2, tA', ln, tL', rfl, hk2l, .inr ⟨tok2, t2, rfl, S.low (lo_cons rfl (lo_cons rfl (lo_cons rfl lo_nil))), hout⟩⟩
            case qoIplain =>
              clear S
              intro c2 hc2 hnet2 hky2 tc2 h' tk' tA' tL' S
              rw [drop_some hc2, run_plain _ _ _ _ hnet2 hky2] at hout
              have hlt2 := lt_some hc2
              have hl82 := (ok.str c2 (List.mem_of_getElem? hc2)).len
              repeat (walk_at "m")
              refine' m_getOwn (by assumption) X ?hx ?hd ?hg2 ?hh2 ?ha ?hn ?hl ?hv ?_
              case hx => walk_at "mem"
              case hd => walk_at "mem"
              case hg2 => k_is
              case hh2 => k_is
              case ha => k_is
              case hn => first | rfl | k_is
              case hl => exact hws _ _
              case hv => rfl
              intro tk
              repeat (walk_at "m")
              apply m_ifb <;> intro hw
              · rw [if_pos (show inS wsP c2.1 = true from hw)] at hout
                repeat (walk_at "m")
                subst hg
                exact q.tok _ _ _ hout _ _ _ tA' tL' S.keptBut (fun p hp => (S.nw p (.tail _ (.tail _ hp))).1)
              · rw [if_neg (show ¬ (inS wsP c2.1 = true) by intro z; have : inS wsP c2.1 = false := hw; rw [this] at z; cases z)] at hout
                repeat (walk_at "m")
                apply m_ifb <;> intro hb2
                · rw [if_pos (show (c2.1 == bs) = true from hb2)] at hout
                  repeat (walk_at "m")
                  refine' m_methInst (by assumption) X ?hx ?hd ?hg2 ?hf ?ht ?hl ?_
                  case hx => walk_at "mem"
                  case hd => walk_at "mem"
                  case hg2 => k_is
                  case hf => k_is
                  case ht => k_is
                  case hl => exact ok.rc _ _
                  dsimp only
                  refine' m_cwK0 (fnAt_K X S ?hlk) ?_
                  case hlk => rfl
                  refine' call_rc X0 T0 ?hr ?hu ?hh ?hk KB1 ok hlt2 S ?qfJplain ?qoJplain ?qnJplain ?qkJplain
                  case hr => omega
                  case hu => omega
                  case hh => exact hh
                  case hk => rfl
                  case qfJplain =>
                    clear S
                    intro hc3 tc3 h' tk' tA' tL' S
                    repeat (walk_at "m")
                    exact ⟨r.cs.length - (k2 + 1) + 1, by omega, _, _, k2 + 1, _, _, _, tok2 ++ Str.empty, _, rfl, by omega, by omega, rfl, by rw [str_app_nil]; omega, S.low (lo_cons rfl (lo_cons rfl (lo_cons rfl lo_nil))), by rw [drop_none hc3, run_nil] at hout; rw [drop_none hc3, run_nil, str_app_nil]; exact hout⟩
                  case qoJplain =>
                    clear S
                    intro c3 hc3 hnet3 hky3 tc3 h' tk' tA' tL' S
                    have hlt3 := lt_some hc3
                    have hl83 := (ok.str c3 (List.mem_of_getElem? hc3)).len
                    repeat (walk_at "m")
                    exact ⟨r.cs.length - (k2 + 1 + 1) + 1, by omega, _, _, k2 + 1 + 1, _, _, _, tok2 ++ c3.1, _, rfl, by omega, by omega, rfl, by rw [Str.length_append]; omega, S.low (lo_cons rfl (lo_cons rfl (lo_cons rfl lo_nil))), by rw [drop_some hc3, run_esc _ _ _ _ _ hnet3 hky3] at hout; exact hout⟩
                  case qnJplain =>
                    intro c3 hc3 hnet3 e d od t' tm tk1 tk2 h' tk' tA' tL' hdm fl
                    subst hg
                    repeat (walk_at "fly")
                    refine' flown_leave KB S fl (.inr rfl) (fun b hb => .tail _ (.tail _ hb)) ?_
                    intro h3 fl3
                    rw [drop_some hc3, run_net _ _ _ _ _ _ hnet3] at hout
                    exact q.net _ _ hout e d od t' tm tk1 tk2 h3 _ tA' _ hdm fl3
                  case qkJplain =>
                    intro c3 hc3 hnet3 hky3 e t' tk1 h' tk' tA' tL' fl
                    subst hg
                    repeat (walk_at "fly")
                    refine' flown_leave KB S fl (.inr rfl) (fun b hb => .tail _ (.tail _ hb)) ?_
                    intro h3 fl3
                    rw [drop_some hc3, run_key _ _ _ _ _ _ hnet3 hky3] at hout
                    exact q.key _ _ hout e t' tk1 h3 _ tA' _ fl3
                · rw [if_neg (show ¬ ((c2.1 == bs) = true) by intro z; have : (c2.1 == bs) = false := hb2; rw [this] at z; cases z)] at hout
                  repeat (walk_at "m")
                  exact ⟨r.cs.length - (k2 + 1) + 1, by omega, _, _, k2 + 1, _, _, _, tok2 ++ c2.1, _, rfl, by omega, by omega, rfl, by rw [Str.length_append]; omega, S.low (lo_cons rfl (lo_cons rfl (lo_cons rfl lo_nil))), hout⟩
            case qnIplain =>
              intro c2 hc2 hnet2 e d od t' tm tk1 tk2 h' tk' tA' tL' hdm fl
              subst hg
              repeat (walk_at "fly")
              refine' flown_leave KB S fl (.inr rfl) (fun b hb => .tail _ (.tail _ hb)) ?_
              intro h3 fl3
              rw [drop_some hc2, run_net _ _ _ _ _ _ hnet2] at hout
              exact q.net _ _ hout e d od t' tm tk1 tk2 h3 _ tA' _ hdm fl3
            case qkIplain =>
              intro c2 hc2 hnet2 hky2 e t' tk1 h' tk' tA' tL' fl
              subst hg
              repeat (walk_at "fly")
              refine' flown_leave KB S fl (.inr rfl) (fun b hb => .tail _ (.tail _ hb)) ?_
              intro h3 fl3
              rw [drop_some hc2, run_key _ _ _ _ _ _ hnet2 hky2] at hout
              exact q.key _ _ hout e t' tk1 h3 _ tA' _ fl3
    case qn =>
      intro c hc hnet e d od t' tm tk1 tk2 h' tk' tA' tL' hdm fl
      subst hg
      walk_at "fly"
      walk_at "fly"
      refine' flown_leave KB S fl (.inr rfl) (fun b hb => .tail _ (.tail _ hb)) ?_
      intro h3 fl3
      rw [drop_some hc, run_net _ _ _ _ _ _ hnet] at hout
      exact q.net _ _ hout e d od t' tm tk1 tk2 h3 _ tA' _ hdm fl3
    case qk =>
      intro c hc hnet hky e t' tk1 h' tk' tA' tL' fl
      subst hg
      walk_at "fly"
      walk_at "fly"
      refine' flown_leave KB S fl (.inr rfl) (fun b hb => .tail _ (.tail _ hb)) ?_
      intro h3 fl3
      rw [drop_some hc, run_key _ _ _ _ _ _ hnet hky] at hout
      exact q.key _ _ hout e t' tk1 h3 _ tA' _ fl3
  · refine' m_itNextEnded hh (S.at (.head _)) ?_
    intro h' hk'
    replace S := S.keeps hk'
    repeat (walk_at "m")
    subst hg
    exact q.tok _ _ _ hout _ _ _ tA tL S.keptBut (fun p hp => (S.nw p (.tail _ (.tail _ hp))).1)
end Mine

namespace Mine

def kindsL : List Str := ["n", "\"", "\\", " ", "\n", "'", "r", "\t", "\r", "#", "\x0c", "\u00a0", "net", "key"]
def dfltL : List Str := ["n", "\\", "net", "n", "\"", "\n", "key", "\"", "n", "\"", "net"]
theorem dflt_in : ∀ x ∈ dfltL, x ∈ kindsL := by decide +kernel
theorem kinds_ok : ∀ x ∈ kindsL, OkS x := by
  have : kindsL.all (fun x => decide (x.length ≤ 8) && PyData.strOk x) = true := by decide +kernel
  intro x hx
  have := List.all_eq_true.mp this x hx
  rw [Bool.and_eq_true] at this
  exact ⟨of_decide_eq_true this.1, this.2⟩

theorem law_cells {w : World} {b0 : Heap} {p : Program} {loose : List Str} {mg mb : Str → Option Value} {mean : ExcName → Option Value} (X0 : (hd1.heap_39 w.params).In b0) (T0 : Top p loose mean mg mb b0) {A : Around} (hroom : A.depth < 500) (hun : A.units < 500) (hh : A.handled = none)
    {h : Heap} {G : Array GenState} {D : Drawn} {tk : Nat} {O : OsState} {sA : Addr} {vs : List Value} {ns : List Int} (hl : h.IsList sA vs.toArray) (hi : IntsAre vs ns) (hb : b0.StaysIn h) {R : Result → Shared → Prop}
    (q : ∀ r h' tk' n cs, (∀ b o, h.get? b = some o → h'.get? b = some o) → h'.get? r = some (listOf (strValues cs).toArray n) → h.get? r = none → cs.length ≤ 24 → (∀ c ∈ cs, c.1 ∈ kindsL) → R (.ok (.ret (.ref r))) ⟨h', G, D, tk', O⟩) :
    codeAny (model PySem.Challenge.rw_km0063_01.row.prog w) A (.call (.ref 98) ⟨[.ref sA], []⟩) R ⟨h, G, D, tk, O⟩ := by
  have _kf : (hd1.heap_39 w.params).In b0 ∧ PySem.Challenge.rw_km0063_01 = PySem.Challenge.rw_km0063_01 := by (k_fill; exact ⟨X0, rfl⟩)
  clear _kf
  refine' m_enter (own := []) X0 T0.nolimit hb ?_ ?_ ?ho ?hcd ?hr ?hbind ?hloc ?hcell ?hco ?hgen ?hk ?_
  case ho => k_is
  case hcd => k_is
  case hr => have : (500:Nat) < recursionLimit := by decide
             omega
  case hbind => exact BindsTo.of_eq rfl
  case hloc => exact locs rfl
  case hcell => decide
  case hco => rfl
  case hgen => rfl
  case hk => rfl
  · intro p hp; cases hp
  · simp
  intro L h₁ tk₁ hL hk S
  have hbg : b0.StaysIn (gOf h []) := fun b o e => gOf_keep (hb b o e) (fun z => nomatch z)
  have X := X0.keeps hbg
  have T := topRead_of (T0.keeps hbg)
  replace S := S.low (lo' := [("script", .ref sA)]) (lo_cons rfl lo_nil)
  have hlg : (gOf h []).IsList sA vs.toArray := by
    obtain ⟨o, ho, r⟩ := hl
    exact ⟨o, gOf_keep ho (fun z => nomatch z), r⟩
  clear hL
  generalize hg : gOf h [] = g at S X T hlg
  repeat (walk_at "m")
  obtain ⟨lk, lc, ks, hks, S⟩ : ∃ lk lc ks, ks.map (·.1) = kindsL ∧ St g L h [("cells", .ref lc), ("kinds", .ref lk), ("script", .ref sA)] [(lc, listOf (strValues []).toArray 0), (lk, listOf (strValues ks).toArray 0)] := by
    refine ⟨_, _, [(_, _), (_, _), (_, _), (_, _), (_, _), (_, _), (_, _), (_, _), (_, _), (_, _), (_, _), (_, _), (_, _), (_, _)], ?_, S⟩
    with_unfolding_all rfl
  refine' wpAny_For ?_ ?hfs
  case hfs => intro _; rfl
  repeat (walk_at "m")
  refine' m_iterG (by assumption) hlg ?_
  clear S
  intro it h S
  refine' codeAny_forLoop (fun n s' => ∃ (h : Heap) (tk i : Nat) (cs : List (Str × Tok)) (nn : Nat), s' = ⟨h, G, D, tk, O⟩ ∧ n = vs.length - i ∧ i ≤ vs.length ∧ cs.length ≤ 24 ∧ (∀ c ∈ cs, c.1 ∈ kindsL) ∧
    St g L h [("cells", .ref lc), ("kinds", .ref lk)] [(it, iterOf sA i), (lc, listOf (strValues cs).toArray nn), (lk, listOf (strValues ks).toArray 0)]) ?turn vs.length ?init ?ht
  case ht => intro _; rfl
  case init => exact ⟨h, _, 0, [], 0, rfl, rfl, Nat.zero_le _, by decide, (fun c hc => nomatch hc), S.low (lo_cons rfl (lo_cons rfl lo_nil))⟩
  clear S
  rintro n s' ⟨h, tk, i, cs, nn, rfl, hn, hi2, hcl, hck, S⟩
  rcases Nat.lt_or_ge i vs.length with hlt | hge
  · obtain ⟨z, tz, hz⟩ := intsAre_at hi hlt
    refine' m_nextG (by assumption) At.here hlg hz ?_
    clear S
    intro h S
    repeat (walk_at "m")
    refine' m_pow (by decide) (by decide) (by decide) ?_
    intro t tk
    refine' m_mod (by decide) ?_
    intro t tk
    obtain ⟨rs, hrs⟩ : ∃ rs, rs = (if z < 0 then -z else z).fmod (14 ^ (24 : Int).toNat) := ⟨_, rfl⟩
    rw [← hrs]
    have h0 : 0 ≤ rs := by rw [hrs]; exact fmod_nonneg14 _ (by decide)
    clear hrs
    repeat (walk_at "m")
    refine' wpAny_While (codeAny_whileLoop (fun n2 s' => ∃ (h : Heap) (tk : Nat) (cs : List (Str × Tok)) (nn : Nat) (rs : Int) (tr : Tok), s' = ⟨h, G, D, tk, O⟩ ∧ n2 = 24 - cs.length ∧ cs.length ≤ 24 ∧ (∀ c ∈ cs, c.1 ∈ kindsL) ∧ 0 ≤ rs ∧
      St g L h [("rest", .int rs tr), ("cells", .ref lc), ("kinds", .ref lk)] [(it, iterOf sA (i + 1)), (lc, listOf (strValues cs).toArray nn), (lk, listOf (strValues ks).toArray 0)]) ?turnw (24 - cs.length) ?initw)
    case initw => exact ⟨h, _, cs, nn, rs, _, rfl, rfl, hcl, hck, h0, S.low (lo_cons rfl (lo_cons rfl (lo_cons rfl lo_nil)))⟩
    clear S hcl hck h0
    rintro n2 s' ⟨h, tk, cs, nn, rs, tr, rfl, hn2, hcl, hck, h0, S⟩
    repeat (walk_at "m")
    apply m_if <;> intro hl24
    · rw [sv_len] at hl24
      repeat (walk_at "m")
      refine' m_mod (by decide) ?_
      intro t tk
      have hf0 : 0 ≤ rs.fmod 14 := fmod_nonneg14 _ (by decide)
      have hf1 : rs.fmod 14 < 14 := Int.fmod_lt_of_pos _ (by decide)
      have hkl : ks.length = 14 := by have := congrArg List.length hks; simpa [kindsL] using this
      obtain ⟨c, hc⟩ : ∃ c, ks[(rs.fmod 14).toNat]? = some c := ⟨_, List.getElem?_eq_getElem (by omega)⟩
      refine' m_idx (x := .str c.1 c.2) (by assumption) ?hm ?hz ?h0 ?hx ?hs ?_
      case hm => walk_at "mem"
      case hz => walk_at "sz"
      case h0 => exact hf0
      case hx => rw [sv_get, hc]; rfl
      case hs => with_unfolding_all rfl
      repeat (walk_at "m")
      rw [show strValues cs ++ [Value.str c.1 c.2] = strValues (cs ++ [c]) by simp [strValues]] at S
      refine' m_ifdiv (by decide) (noPy14 _) ?_
      intro t tk
      have h1 : 0 ≤ rs.fdiv 14 := Int.fdiv_nonneg h0 (by decide)
      have hck2 : ∀ x ∈ cs ++ [c], x.1 ∈ kindsL := fun x hx => by
        rcases List.mem_append.mp hx with hx | hx
        · exact hck x hx
        · rcases List.mem_singleton.mp hx with rfl
          rw [← hks]
          exact List.mem_map_of_mem (List.mem_of_getElem? hc)
      have hcl2 : (cs ++ [c]).length ≤ 24 := by rw [List.length_append]; simp; omega
      repeat (walk_at "m")
      apply m_ifb <;> intro hz0
      · repeat (walk_at "m")
        exact ⟨vs.length - (i + 1), by omega, _, _, i + 1, cs ++ [c], _, rfl, rfl, hlt, hcl2, hck2, S.low (lo_cons rfl (lo_cons rfl lo_nil))⟩
      · repeat (walk_at "m")
        exact ⟨24 - (cs ++ [c]).length, by rw [List.length_append]; simp; omega, _, _, cs ++ [c], _, rs.fdiv 14, _, rfl, rfl, hcl2, hck2, h1, S.low (lo_cons rfl (lo_cons rfl (lo_cons rfl lo_nil)))⟩
    · repeat (walk_at "m")
      exact ⟨vs.length - (i + 1), by omega, _, _, i + 1, cs, _, rfl, rfl, hlt, hcl, hck, S.low (lo_cons rfl (lo_cons rfl lo_nil))⟩
  · refine' m_nextEndG (by assumption) ?hh hlg (List.getElem?_eq_none_iff.mpr hge) ?_
    case hh => exact hh
    clear S
    intro h S
    repeat (walk_at "m")
    refine' m_eqNil (by assumption) ?h1 ?h0 ?hok ?hu ?_
    case h1 => walk_at "mem"
    case h0 => walk_at "mem"
    case hok => exact fun c hc => kinds_ok _ (hck c hc)
    case hu => show A.units + 3 < 600; omega
    repeat (walk_at "m")
    apply m_ifb <;> intro he
    · repeat (walk_at "m")
      subst hg
      dsimp only
      obtain ⟨ds, hds, S⟩ : ∃ ds : List (Str × Tok), ds.map (·.1) = dfltL ∧ St (gOf _ []) L h _ ((l, listOf (strValues ds).toArray 0) :: _) := by
        refine ⟨[(_, _), (_, _), (_, _), (_, _), (_, _), (_, _), (_, _), (_, _), (_, _), (_, _), (_, _)], ?_, S⟩
        with_unfolding_all rfl
      obtain ⟨z1, z2⟩ := S.made (p := (l, listOf (strValues ds).toArray 0)) (.head _) (fun z => nomatch z)
      exact q l _ _ 0 ds (S.back (fun p hp => nomatch hp) (fun p hp => nomatch hp)) z1 z2 (by have := congrArg List.length hds; simp [dfltL] at this; omega) (fun c hc => dflt_in _ (hds ▸ List.mem_map_of_mem (f := (·.1)) hc))
    · repeat (walk_at "m")
      subst hg
      obtain ⟨z1, z2⟩ := S.made (p := (lc, listOf (strValues cs).toArray nn)) (by walk_at "mem") (fun z => nomatch z)
      exact q lc _ _ nn cs (S.back (fun p hp => nomatch hp) (fun p hp => nomatch hp)) z1 z2 hcl hck
end Mine

namespace Mine

def netText (fn ln : Int) : Str := Str.ofString "fault (" ++ Str.ofString (toString fn) ++ Str.ofString ", line " ++ Str.ofString (toString ln) ++ Str.ofString ")"
theorem net_str {w : World} {b0 : Heap} {p : Program} {loose : List Str} {mg mb : Str → Option Value} {mean : ExcName → Option Value} (X0 : (hd1.heap_39 w.params).In b0) (T0 : Top p loose mean mg mb b0) {A : Around} (hroom : A.depth < 500)
    {h : Heap} {G : Array GenState} {D : Drawn} {tk : Nat} {O : OsState} {e d : Addr} {oe od : Obj} {tm tf tl : Tok} {fn ln : Int} (hf0 : 0 ≤ fn) (hf1 : fn < 100) (hl0 : 0 ≤ ln) (hl1 : ln < 100) (hown : ∀ p ∈ [(e, oe), (d, od)], h.get? p.1 = some p.2) (hne : e ≠ d) (hoc : oe.cls = .ref 46) (hod : oe.dict = some d) (hof : ∃ fs, oe.data = .fields fs)
    (hdm : DictMap od (netMap (.str "fault" tm) (.int fn tf) (.int ln tl))) (hb : b0.StaysIn (gOf h [(e, oe), (d, od)])) {R : Result → Shared → Prop}
    (q : ∀ h' tk' t, (∀ b o, h.get? b = some o → h'.get? b = some o) → R (.ok (.ret (.str (netText fn ln) t))) ⟨h', G, D, tk', O⟩) :
    codeAny (model PySem.Challenge.rw_km0063_01.row.prog w) A (.call (.ref 43) ⟨[.ref e], []⟩) R ⟨h, G, D, tk, O⟩ := by
  have hb' : b0.StaysIn h := fun b o e => gOf_get (hb b o e)
  have _kf : (hd1.heap_39 w.params).In b0 ∧ PySem.Challenge.rw_km0063_01 = PySem.Challenge.rw_km0063_01 := by (k_fill; exact ⟨X0, rfl⟩)
  clear _kf
  refine' m_enter (own := [(e, oe), (d, od)]) X0 T0.nolimit hb' hown ?_ ?ho ?hcd ?hr ?hbind ?hloc ?hcell ?hco ?hgen ?hk ?_
  case ho => k_is
  case hcd => k_is
  case hr => have : (500:Nat) < recursionLimit := by decide
             omega
  case hbind => exact BindsTo.of_eq rfl
  case hloc => exact locs rfl
  case hcell => decide
  case hco => rfl
  case hgen => rfl
  case hk => rfl
  · simp [hne]
  intro L h₁ tk₁ hL hk S
  have X := X0.keeps hb
  have T := topRead_of (T0.keeps hb)
  replace S := S.low (lo' := [("self", .ref e)]) (lo_cons rfl lo_nil)
  clear hL
  generalize hg : gOf h [(e, oe), (d, od)] = g at S X T
  have e1 : (Str.ofString "fault").length = 5 := by decide +kernel
  have e2 : (Str.ofString " (").length = 2 := by decide +kernel
  have e3 : (Str.ofString ", line ").length = 7 := by decide +kernel
  have e4 : (Str.ofString ")").length = 1 := by decide +kernel
  have e5 : Str.empty.length = 0 := rfl
  have e6 := figs_len hf0 hf1
  have e7 := figs_len hl0 hl1
  repeat (walk_at "m")
  refine' m_getExc (by assumption) X (excK1 w.params) (by walk_at "mem") hoc hod hof (by walk_at "mem") hdm ?hv ?hg1 ?hg2 ?hna ?hB ?hh2 ?_
  case hv => rfl
  case hg1 => k_is
  case hg2 => k_is
  case hna => k_is
  case hB => rw [typeLookup_type, builtinLookup_eq_fast]; kernel_rfl
  case hh2 => rfl
  intro tk
  repeat (walk_at "m")
  refine' m_getExc (by assumption) X (excK1 w.params) (by walk_at "mem") hoc hod hof (by walk_at "mem") hdm ?hv ?hg1 ?hg2 ?hna ?hB ?hh2 ?_
  case hv => rfl
  case hg1 => k_is
  case hg2 => k_is
  case hna => k_is
  case hB => rw [typeLookup_type, builtinLookup_eq_fast]; kernel_rfl
  case hh2 => rfl
  intro tk
  repeat (walk_at "m")
  refine' m_getExc (by assumption) X (excK1 w.params) (by walk_at "mem") hoc hod hof (by walk_at "mem") hdm ?hv ?hg1 ?hg2 ?hna ?hB ?hh2 ?_
  case hv => rfl
  case hg1 => k_is
  case hg2 => k_is
  case hna => k_is
  case hB => rw [typeLookup_type, builtinLookup_eq_fast]; kernel_rfl
  case hh2 => rfl
  intro tk
  repeat (walk_at "m")
  subst hg
  have eT : Str.empty ++ Str.ofString "fault" ++ Str.ofString " (" = Str.ofString "fault (" := by decide +kernel
  rw [eT]
  exact q _ _ _ (S.back (fun p hp => hp) hown)
end Mine

namespace Mine

abbrev lexEs (w : World) (k1 k2 k3 k4 : Tok) (ln : Int) (tl : Tok) (fp : Value) (tw : Tok) (lP : Addr) : List DictEntry :=
  [⟨PyData.keyHash w.params "lineno", .str "lineno" k1, .int ln tl⟩, ⟨PyData.keyHash w.params "instream", .str "instream" k2, fp⟩, ⟨PyData.keyHash w.params "whitespace", .str "whitespace" k3, .str "\n\t\r " tw⟩, ⟨PyData.keyHash w.params "pushback", .str "pushback" k4, .ref lP⟩]

theorem lex_init {w : World} {b0 : Heap} {p : Program} {loose : List Str} {mg mb : Str → Option Value} {mean : ExcName → Option Value} (X0 : (hd1.heap_39 w.params).In b0) (T0 : Top p loose mean mg mb b0) {A : Around} (hroom : A.depth < 500)
    {h : Heap} {G : Array GenState} {D : Drawn} {tk : Nat} {O : OsState} {x dx : Addr} {fp : Value} (hown : ∀ p ∈ [(x, instObj 87 dx), (dx, dictOf [] 0)], h.get? p.1 = some p.2) (hne : x ≠ dx) (hb : b0.StaysIn (gOf h [(x, instObj 87 dx), (dx, dictOf [] 0)])) {R : Result → Shared → Prop}
    (q : ∀ h' tk' k1 k2 k3 k4 tl tw lP, (∀ b o, h.get? b = some o → b ∉ [dx] → h'.get? b = some o) → h'.get? dx = some (dictOf (lexEs w k1 k2 k3 k4 1 tl fp tw lP) 4) → h'.get? lP = some (listOf ([] : List Value).toArray 0) → h.get? lP = none → R (.ok (.ret .none)) ⟨h', G, D, tk', O⟩) :
    codeAny (model PySem.Challenge.rw_km0063_01.row.prog w) A (.call (.ref 63) ⟨[.ref x, fp], []⟩) R ⟨h, G, D, tk, O⟩ := by
  have hb' : b0.StaysIn h := fun b o e => gOf_get (hb b o e)
  have _kf : (hd1.heap_39 w.params).In b0 ∧ PySem.Challenge.rw_km0063_01 = PySem.Challenge.rw_km0063_01 := by (k_fill; exact ⟨X0, rfl⟩)
  clear _kf
  refine' m_enter (own := [(x, instObj 87 dx), (dx, dictOf [] 0)]) X0 T0.nolimit hb' hown ?_ ?ho ?hcd ?hr ?hbind ?hloc ?hcell ?hco ?hgen ?hk ?_
  case ho => k_is
  case hcd => k_is
  case hr => have : (500:Nat) < recursionLimit := by decide
             omega
  case hbind => exact BindsTo.of_eq rfl
  case hloc => exact locs rfl
  case hcell => decide
  case hco => rfl
  case hgen => rfl
  case hk => rfl
  · simp [hne]
  intro L h₁ tk₁ hL hk S
  have X := X0.keeps hb
  have T := topRead_of (T0.keeps hb)
  replace S := S.low (lo' := [("self", .ref x), ("fp", fp)]) (lo_cons rfl (lo_cons rfl lo_nil))
  clear hL
  generalize hg : gOf h [(x, instObj 87 dx), (dx, dictOf [] 0)] = g at S X T
  repeat (walk_at "m")
  refine' m_setOwn (by assumption) X ?hx ?U ?hs ?hp ?ht ?hh ?hl ?hz ?_
  case hx => walk_at "mem"
  case U => walk_at "at"
  case hs => k_is
  case hp => k_is
  case ht => k_is
  case hh => k_is
  case hl => rfl
  case hz => exact Nat.le_of_ble_eq_true rfl
  clear S
  intro h tk1 S
  have S := (show St g L h [("self", .ref x), ("fp", fp)] [(x, instObj 87 dx), (dx, dictOf [⟨PyData.keyHash w.params "lineno", .str "lineno" _, .int 1 _⟩] 1)] from S)
  repeat (walk_at "m")
  refine' m_setOwn (by assumption) X ?hx ?U ?hs ?hp ?ht ?hh ?hl ?hz ?_
  case hx => walk_at "mem"
  case U => walk_at "at"
  case hs => k_is
  case hp => k_is
  case ht => k_is
  case hh => k_is
  case hl => rfl
  case hz => exact Nat.le_of_ble_eq_true rfl
  clear S
  intro h tk2 S
  have S := (show St g L h [("self", .ref x), ("fp", fp)] [(x, instObj 87 dx), (dx, dictOf [⟨PyData.keyHash w.params "lineno", .str "lineno" _, .int 1 _⟩, ⟨PyData.keyHash w.params "instream", .str "instream" _, fp⟩] 2)] from S)
  repeat (walk_at "m")
  refine' m_setOwn (by assumption) X ?hx ?U ?hs ?hp ?ht ?hh ?hl ?hz ?_
  case hx => walk_at "mem"
  case U => walk_at "at"
  case hs => k_is
  case hp => k_is
  case ht => k_is
  case hh => k_is
  case hl => rfl
  case hz => exact Nat.le_of_ble_eq_true rfl
  clear S
  intro h tk3 S
  have S := (show St g L h [("self", .ref x), ("fp", fp)] [(x, instObj 87 dx), (dx, dictOf [⟨PyData.keyHash w.params "lineno", .str "lineno" _, .int 1 _⟩, ⟨PyData.keyHash w.params "instream", .str "instream" _, fp⟩, ⟨PyData.keyHash w.params "whitespace", .str "whitespace" _, .str "\n\t\r " _⟩] 3)] from S)
  repeat (walk_at "m")
  refine' m_setOwn (by assumption) X ?hx ?U ?hs ?hp ?ht ?hh ?hl ?hz ?_
  case hx => walk_at "mem"
  case U => walk_at "at"
  case hs => k_is
  case hp => k_is
  case ht => k_is
  case hh => k_is
  case hl => rfl
  case hz => exact Nat.le_of_ble_eq_true rfl
  clear S
  intro h tk4 S
  repeat (walk_at "m")
  subst hg
  have hd : _ = some (dictOf (lexEs w _ _ _ _ 1 _ fp _ l) 4) := S.at (.tail _ (.tail _ (.head _)))
  have hlP := S.made (p := (l, listOf ([] : List Value).toArray 0)) (.head _) (fun z => by
    rcases List.mem_cons.mp z with z | z
    · exact S.apart (.head _) z
    · exact S.apart (.tail _ (.head _)) (List.mem_singleton.mp z))
  refine q _ _ _ _ _ _ _ _ l (fun b o hbo hn => ?_) hd hlP.1 hlP.2
  by_cases z : b = x
  · subst z
    have z0 := hown (b, instObj 87 dx) (.head _)
    dsimp only at z0
    rw [z0] at hbo; cases hbo
    exact S.at (.tail _ (.head _))
  · exact S.keptBut b o hbo (fun hm => by
      rcases List.mem_cons.mp hm with z2 | z2
      · exact z z2
      · exact hn z2)
end Mine

namespace Mine

def addNl (l : List Str) (ln : Int) : Int := l.foldl (fun n c => lnOf c n) ln
theorem addNl_cons (c : Str) (l : List Str) (ln : Int) : addNl (c :: l) ln = addNl l (lnOf c ln) := rfl
/-- what stands behind a cut: nothing, or a fault -/
def tailOut (r : List Str) (tok : Str) (k : Nat) (ln : Int) : Out := match r with
  | [] => .tok tok k ln
  | c :: _ => if isNet c then .net (k + 1) ln else .key (k + 1) ln
def TailOk (r : List Str) : Prop := match r with
  | [] => True
  | c :: _ => isNet c = true ∨ isKey c = true
theorem run_tail {r : List Str} (h : TailOk r) (m : Mode) (e : Bool) (tok : Str) (k : Nat) (ln : Int) : run r m e tok k ln = tailOut r tok k ln := by
  cases r with
  | nil => simp [run, tailOut]
  | cons c r =>
    cases hn : isNet c with
    | true => simp [run, tailOut, hn]
    | false =>
      have hk : isKey c = true := by
        rcases h with h | h
        · rw [hn] at h; cases h
        · exact h
      simp [run, tailOut, hn, hk]
structure Sign (c : Str) : Prop where
  net : isNet c = false
  key : isKey c = false
  ws : inS wsP c = inS wsL c
  q : inS qt c = (c == qt)
theorem signs : ∀ c ∈ kindsL, isNet c = false → isKey c = false → Sign c := by
  have h : kindsL.all (fun c => isNet c || isKey c || ((inS wsP c == inS wsL c) && (inS qt c == (c == qt)))) = true := by decide +kernel
  intro c hc hn hk
  have := List.all_eq_true.mp h c hc
  rw [hn, hk, Bool.false_or, Bool.false_or, Bool.and_eq_true] at this
  exact ⟨hn, hk, eq_of_beq this.1, eq_of_beq this.2⟩
/-- the marks' own answer, put into the place -/
def cutOut (l r : List Str) (i : Nat) (t : Str × Nat) (k : Nat) (ln : Int) : Out :=
  if 0 < t.2 then .tok t.1 (k + (t.2 - i)) (addNl (l.take (t.2 - i)) ln) else tailOut r t.1 (k + l.length) (addNl l ln)

theorem marks_nil (i : Nat) : marksOf [] i = [] := rfl
theorem marks_bs1 (i : Nat) : marksOf [bs] i = [⟨Str.empty, 2, i + 2⟩] := by simp [marksOf]
theorem marks_bs (d : Str) (l : List Str) (i : Nat) : marksOf (bs :: d :: l) i = ⟨d, 2, i + 2⟩ :: marksOf l (i + 2) := by simp [marksOf]
theorem marks_c {c : Str} (h : (c == bs) = false) (l : List Str) (i : Nat) : marksOf (c :: l) i = ⟨c, 1, i + 1⟩ :: marksOf l (i + 1) := by
  cases l <;> simp [marksOf, h]
theorem scan_pos (ends : Str) : ∀ (ms : List Mark) (tok : Str) (i : Nat), (∀ m ∈ ms, i < m.b) → 0 < (scanM ends ms tok).2 → i < (scanM ends ms tok).2
  | [], tok, i, _, h => by simp [scanM] at h
  | m :: r, tok, i, hb, h => by
    simp only [scanM] at h ⊢
    split
    · exact hb m (.head _)
    · rename_i hc
      rw [if_neg hc] at h
      exact scan_pos ends r _ i (fun x hx => hb x (.tail _ hx)) h
theorem marks_gt (l : List Str) (i : Nat) : ∀ m ∈ marksOf l i, i < m.b := by
  fun_induction marksOf l i with
  | case1 => intro m hm; cases hm
  | case2 c i hc => intro m hm; rcases List.mem_singleton.mp hm with rfl; show i < i + 2; omega
  | case3 c i hc => intro m hm; rcases List.mem_singleton.mp hm with rfl; show i < i + 1; omega
  | case4 =>
    rename_i ih
    intro m hm
    rcases List.mem_cons.mp hm with rfl | hm
    · exact Nat.lt_add_of_pos_right (by decide)
    · exact Nat.lt_trans (Nat.lt_add_of_pos_right (by decide)) (ih m hm)
  | case5 =>
    rename_i ih
    intro m hm
    rcases List.mem_cons.mp hm with rfl | hm
    · exact Nat.lt_add_of_pos_right (by decide)
    · exact Nat.lt_trans (Nat.lt_add_of_pos_right (by decide)) (ih m hm)
theorem cut_shift (c : Str) (l r : List Str) (i : Nat) (t : Str × Nat) (k : Nat) (ln : Int) (h : 0 < t.2 → i + 1 < t.2 ∨ i + 1 = t.2) : cutOut l r (i + 1) t (k + 1) (lnOf c ln) = cutOut (c :: l) r i t k ln := by
  unfold cutOut
  by_cases h2 : 0 < t.2
  · rw [if_pos h2, if_pos h2]
    have h3 := h h2
    have e : t.2 - i = (t.2 - (i + 1)) + 1 := by omega
    rw [e, List.take_succ_cons, addNl_cons]
    congr 1
    omega
  · rw [if_neg h2, if_neg h2, addNl_cons, List.length_cons]
    congr 1
    omega

/-- reading on, behind the first sign of a token: `ends` by the mode -/
theorem run_scan (m : Mode) (ends : Str) (hm : (m = .quoted ∧ ends = qt) ∨ (m = .plain ∧ ends = wsL)) (r : List Str) (hr : TailOk r) : ∀ (n : Nat) (l : List Str), l.length ≤ n → (∀ c ∈ l, Sign c) → ∀ (i k : Nat) (ln : Int) (tok : Str), run (l ++ r) m false tok k ln = cutOut l r i (scanM ends (marksOf l i) tok) k ln := by
  have stepE : ∀ {c : Str} (hs : Sign c) (l' : List Str) (tok : Str) (k : Nat) (ln : Int), run (c :: l') m false tok k ln = if inS ends c then .tok tok (k + 1) (lnOf c ln) else if c == bs then run l' m true tok (k + 1) (lnOf c ln) else run l' m false (tok ++ c) (k + 1) (lnOf c ln) := by
    intro c hs l' tok k ln
    rcases hm with ⟨rfl, rfl⟩ | ⟨rfl, rfl⟩
    · rw [run_quoted _ _ _ _ hs.net hs.key, hs.q]
    · rw [run_plain _ _ _ _ hs.net hs.key, hs.ws]
  have bsE : inS ends bs = false := by
    rcases hm with ⟨rfl, rfl⟩ | ⟨rfl, rfl⟩ <;> decide +kernel
  intro n
  induction n with
  | zero =>
    intro l hl _ i k ln tok
    obtain rfl : l = [] := List.length_eq_zero_iff.mp (by omega)
    rw [List.nil_append, run_tail hr]
    simp [marksOf, scanM, cutOut, addNl]
  | succ n ih =>
    intro l hl hs i k ln tok
    cases l with
    | nil =>
      rw [List.nil_append, run_tail hr]
      simp [marksOf, scanM, cutOut, addNl]
    | cons c l =>
      have hsc := hs c (.head _)
      have hs' : ∀ x ∈ l, Sign x := fun x hx => hs x (.tail _ hx)
      rw [List.cons_append, stepE hsc]
      by_cases hb : (c == bs) = true
      · obtain rfl : c = bs := eq_of_beq hb
        rw [bsE, if_neg (by decide), if_pos (by decide +kernel)]
        cases l with
        | nil =>
          rw [List.nil_append, run_tail hr, marks_bs1]
          simp [scanM, cutOut, addNl, str_app_nil]
        | cons d l =>
          have hsd := hs' d (.head _)
          rw [List.cons_append, run_esc _ _ _ _ _ hsd.net hsd.key, marks_bs]
          rw [ih l (by simp only [List.length_cons] at hl; omega) (fun x hx => hs' x (.tail _ hx)) (i + 2)]
          have e : scanM ends (⟨d, 2, i + 2⟩ :: marksOf l (i + 2)) tok = scanM ends (marksOf l (i + 2)) (tok ++ d) := by simp [scanM]
          rw [e]
          have hp := scan_pos ends (marksOf l (i + 2)) (tok ++ d) (i + 2) (marks_gt l (i + 2))
          rw [← cut_shift bs (d :: l) r i _ k ln (fun h => .inl (by have := hp h; omega)), ← cut_shift d l r (i + 1) _ (k + 1) _ (fun h => .inl (hp h))]
      · have hb' : (c == bs) = false := by simpa using hb
        rw [hb', marks_c hb']
        cases he : inS ends c with
        | true =>
          have e : scanM ends (⟨c, 1, i + 1⟩ :: marksOf l (i + 1)) tok = (tok, i + 1) := by simp [scanM, he]
          rw [e, if_pos rfl]
          unfold cutOut
          rw [if_pos (by show 0 < i + 1; omega)]
          have e2 : i + 1 - i = 1 := by omega
          simp [e2, addNl]
        | false =>
          have e : scanM ends (⟨c, 1, i + 1⟩ :: marksOf l (i + 1)) tok = scanM ends (marksOf l (i + 1)) (tok ++ c) := by simp [scanM, he]
          rw [e, if_neg (by decide), if_neg (by decide)]
          rw [ih l (by simp only [List.length_cons] at hl; omega) hs' (i + 1)]
          have hp := scan_pos ends (marksOf l (i + 1)) (tok ++ c) (i + 1) (marks_gt l (i + 1))
          rw [← cut_shift c l r i _ k ln (fun h => .inl (hp h))]
end Mine

namespace Mine

def readM (ms : List Mark) : Str × Nat := match dropWs ms with
  | [] => scanM wsL [] Str.empty
  | m :: r => if m.s == qt && decide (m.hop = 1) then scanM qt r Str.empty else scanM wsL (m :: r) Str.empty
theorem readOf_eq (cs : List Str) : readOf cs = readM (marksOf cs 0) := rfl
theorem mem_dropWs (ms : List Mark) : ∀ m ∈ dropWs ms, m ∈ ms := fun m hm => (List.dropWhile_sublist _).subset hm
theorem readM_pos (ms : List Mark) (i : Nat) (hb : ∀ m ∈ ms, i < m.b) (h : 0 < (readM ms).2) : i < (readM ms).2 := by
  unfold readM at h ⊢
  have hd : ∀ m ∈ dropWs ms, i < m.b := fun m hm => hb m (mem_dropWs ms m hm)
  cases hq : dropWs ms with
  | nil => rw [hq] at h; simp [scanM] at h
  | cons m r =>
    rw [hq] at h hd
    simp only at h ⊢
    split
    · rename_i hc
      rw [if_pos hc] at h
      exact scan_pos _ _ _ _ (fun x hx => hd x (.tail _ hx)) h
    · rename_i hc
      rw [if_neg hc] at h
      exact scan_pos _ _ _ _ hd h

theorem run_read (r : List Str) (hr : TailOk r) : ∀ (l : List Str), (∀ c ∈ l, Sign c) → ∀ (i k : Nat) (ln : Int), run (l ++ r) .skip false Str.empty k ln = cutOut l r i (readM (marksOf l i)) k ln := by
  have bsP : inS wsP bs = false := by decide +kernel
  have bsL : inS wsL bs = false := by decide +kernel
  have qtL : inS wsL qt = false := by decide +kernel
  have qtP : inS wsP qt = false := by decide +kernel
  have bq : (bs == qt) = false := by decide +kernel
  have qb : (qt == bs) = false := by decide +kernel
  have plain : ∀ (c : Str) (l : List Str) (i k : Nat) (ln : Int), (∀ x ∈ c :: l, Sign x) → inS wsP c = false → (c == qt) = false → run ((c :: l) ++ r) .skip false Str.empty k ln = cutOut (c :: l) r i (scanM wsL (marksOf (c :: l) i) Str.empty) k ln := by
    intro c l i k ln hs hw hq
    have hsc := hs c (.head _)
    rw [← run_scan .plain wsL (.inr ⟨rfl, rfl⟩) r hr _ (c :: l) (Nat.le_refl _) hs i k ln Str.empty, List.cons_append, run_skip _ _ _ _ hsc.net hsc.key, run_plain _ _ _ _ hsc.net hsc.key, hw, hq]
    simp
  intro l
  induction l with
  | nil =>
    intro _ i k ln
    rw [List.nil_append, run_tail hr]
    simp [readM, dropWs, marksOf, scanM, cutOut, addNl]
  | cons c l ih =>
    intro hs i k ln
    have hsc := hs c (.head _)
    have hs' : ∀ x ∈ l, Sign x := fun x hx => hs x (.tail _ hx)
    by_cases hb : (c == bs) = true
    · obtain rfl : c = bs := eq_of_beq hb
      rw [plain bs l i k ln hs bsP bq]
      congr 1
      cases l with
      | nil => rw [marks_bs1]; simp [readM, dropWs]
      | cons d l => rw [marks_bs]; simp [readM, dropWs]
    · have hb' : (c == bs) = false := by simpa using hb
      cases hw : inS wsL c with
      | true =>
        rw [List.cons_append, run_skip _ _ _ _ hsc.net hsc.key, hsc.ws, hw, if_pos rfl, ih hs' (i + 1), marks_c hb']
        have e : readM (⟨c, 1, i + 1⟩ :: marksOf l (i + 1)) = readM (marksOf l (i + 1)) := by simp [readM, dropWs, hw]
        rw [e, ← cut_shift c l r i _ k ln (fun h => .inl (readM_pos _ _ (marks_gt l (i + 1)) h))]
      | false =>
        cases hq : c == qt with
        | true =>
          obtain rfl : c = qt := eq_of_beq hq
          rw [List.cons_append, run_skip _ _ _ _ hsc.net hsc.key, qtP, if_neg (by decide), if_pos hq, run_scan .quoted qt (.inl ⟨rfl, rfl⟩) r hr _ l (Nat.le_refl _) hs' (i + 1), marks_c hb']
          have e : readM (⟨qt, 1, i + 1⟩ :: marksOf l (i + 1)) = scanM qt (marksOf l (i + 1)) Str.empty := by simp [readM, dropWs, hw]
          rw [e, ← cut_shift qt l r i _ k ln (fun h => .inl (scan_pos _ _ _ _ (marks_gt l (i + 1)) h))]
        | false =>
          rw [plain c l i k ln hs (by rw [hsc.ws, hw]) hq, marks_c hb']
          congr 1
          have hq2 : (c == qt) = false := hq
          simp [readM, dropWs, hw, hq2]
end Mine

namespace Mine
open PySem
theorem marks_le (l : List Str) (i : Nat) : ∀ m ∈ marksOf l i, m.hop = 1 → m.b ≤ i + l.length := by
  induction l, i using marksOf.induct with
  | case1 i => intro m hm; cases hm
  | case2 c i hc => intro m hm h; rw [marksOf, if_pos hc] at hm; rcases List.mem_singleton.mp hm with rfl; cases h
  | case3 c i hc => intro m hm h; rw [marksOf, if_neg hc] at hm; rcases List.mem_singleton.mp hm with rfl; exact Nat.le_refl _
  | case4 c d r i hc ih =>
    intro m hm h; rw [marksOf, if_pos hc] at hm
    rcases List.mem_cons.mp hm with rfl | hm
    · cases h
    · have := ih m hm h; simp only [List.length_cons]; omega
  | case5 c d r i hc ih =>
    intro m hm h; rw [marksOf, if_neg hc] at hm
    rcases List.mem_cons.mp hm with rfl | hm
    · simp only [List.length_cons]; omega
    · have := ih m hm h; simp only [List.length_cons] at this ⊢; omega
theorem scan_le (ends : Str) (n : Nat) : ∀ (ms : List Mark) (tok : Str), (∀ m ∈ ms, m.hop = 1 → m.b ≤ n) → (scanM ends ms tok).2 ≤ n := by
  intro ms
  induction ms with
  | nil => intro tok _; exact Nat.zero_le _
  | cons m r ih =>
    intro tok h
    unfold scanM
    split
    · rename_i hc
      simp only [Bool.and_eq_true, decide_eq_true_eq] at hc
      exact h m (.head _) hc.1
    · exact ih _ fun x hx => h x (.tail _ hx)
theorem readOf_le (cs : List Str) : (readOf cs).2 ≤ cs.length := by
  have hb : ∀ m ∈ dropWs (marksOf cs 0), m.hop = 1 → m.b ≤ cs.length := fun m hm h => by have := marks_le cs 0 m (mem_dropWs _ m hm) h; omega
  unfold readOf
  split
  · exact Nat.zero_le _
  · rename_i m r hq
    rw [hq] at hb
    split
    · exact scan_le _ _ _ _ fun x hx => hb x (.tail _ hx)
    · exact scan_le _ _ _ _ hb
end Mine

namespace Mine
def faultAt (cs : List (Str × Tok)) (i : Nat) : Bool := match cs[i]? with
  | some c => c.1.length == 3
  | none => false
/-- where the cells' next read begins -/
def nextOf (cs : List (Str × Tok)) (k f b : Nat) : Nat := if 0 < b then k + b else if f < cs.length then f + 1 else cs.length
/-- the kind that the turn is due -/
def kindOf (cs : List (Str × Tok)) (f b : Nat) : Str := if 0 < b then "token" else match cs[f]? with
  | some c => c.1
  | none => "token"
theorem fault_of {cs : List (Str × Tok)} {k : Nat} {z : Int} (hk : k ≤ cs.length) (h1 : z ∈ ((List.range' k (cs.length - k)).filter (faultAt cs)).map Int.ofNat ++ [(cs.length : Int)])
    (h2 : ∀ a ∈ ((List.range' k (cs.length - k)).filter (faultAt cs)).map Int.ofNat ++ [(cs.length : Int)], z ≤ a) :
    ∃ f : Nat, z = f ∧ k ≤ f ∧ f ≤ cs.length ∧ (∀ j, k ≤ j → j < f → faultAt cs j = false) ∧ (f < cs.length → faultAt cs f = true) := by
  have hmem : ∀ j, k ≤ j → j < cs.length → faultAt cs j = true → z ≤ (j : Int) := fun j a b c => h2 _ (List.mem_append_left _ (List.mem_map.mpr ⟨j, List.mem_filter.mpr ⟨List.mem_range'_1.mpr ⟨a, by omega⟩, c⟩, rfl⟩))
  rcases List.mem_append.mp h1 with h | h
  · obtain ⟨f, hf, rfl⟩ := List.mem_map.mp h
    obtain ⟨hr, hff⟩ := List.mem_filter.mp hf
    obtain ⟨a, b⟩ := List.mem_range'_1.mp hr
    refine ⟨f, rfl, a, by omega, fun j hj hjf => ?_, fun _ => hff⟩
    cases e : faultAt cs j
    · rfl
    · have := hmem j hj (by omega) e
      have h3 : (Int.ofNat f) = (f : Int) := rfl
      omega
  · have := List.mem_singleton.mp h
    subst this
    refine ⟨cs.length, rfl, hk, Nat.le_refl _, fun j hj hjf => ?_, fun h => absurd h (Nat.lt_irrefl _)⟩
    cases e : faultAt cs j
    · rfl
    · have := hmem j hj hjf e
      omega
theorem addNl_snoc (l : List Str) (c : Str) (n : Int) : addNl (l ++ [c]) n = if (c == Str.ofString "\n") = true then addNl l n + 1 else addNl l n := by
  unfold addNl
  rw [List.foldl_append]
  show lnOf c _ = _
  unfold lnOf nlS
  rfl

theorem addNl_append (l m : List Str) (n : Int) : addNl (l ++ m) n = addNl m (addNl l n) := by
  unfold addNl
  rw [List.foldl_append]
theorem kinds_sort : ∀ c ∈ kindsL, ((c.length == 3) = true → (c = "net" ∧ isNet c = true) ∨ (c = "key" ∧ isNet c = false ∧ isKey c = true)) ∧ ((c.length == 3) = false → isNet c = false ∧ isKey c = false) ∧ ((c.length == 3) = true → (c == nlS) = false) := by
  have h : kindsL.all (fun c => (!(c.length == 3) || ((c == "net" && isNet c) || (c == "key" && !isNet c && isKey c)) && !(c == nlS)) && ((c.length == 3) || (!isNet c && !isKey c))) = true := by decide +kernel
  intro c hc
  have := List.all_eq_true.mp h c hc
  cases h3 : (c.length == 3)
  · rw [h3] at this
    simp only [Bool.not_false, Bool.true_or, Bool.false_or, Bool.true_and, Bool.and_eq_true, Bool.not_eq_true'] at this
    exact ⟨fun e => (by cases e), fun _ => this, fun e => (by cases e)⟩
  · rw [h3] at this
    simp only [Bool.not_true, Bool.true_or, Bool.false_or, Bool.and_true, Bool.and_eq_true, Bool.or_eq_true, Bool.not_eq_true', beq_iff_eq] at this
    refine ⟨fun _ => ?_, fun e => (by cases e), fun _ => by simpa using this.2⟩
    rcases this.1 with z | z
    · exact .inl z
    · exact .inr ⟨z.1.1, z.1.2, z.2⟩

/-- one turn's plain law -/
theorem turn_law {cs : List (Str × Tok)} (hcs : ∀ c ∈ cs, c.1 ∈ kindsL) {k f : Nat} (hkf : k ≤ f) (hfl : f ≤ cs.length) (hN : ∀ j, k ≤ j → j < f → faultAt cs j = false) (hF : f < cs.length → faultAt cs f = true)
    {cut : List (Str × Tok)} (hcut : (cs.drop k).take (f - k) = cut) {nk : Nat} {kd tok : Str} (hnk : nextOf cs k f (readOf (cut.map (·.1))).2 = nk) (hkd : kindOf cs f (readOf (cut.map (·.1))).2 = kd) (htok : (readOf (cut.map (·.1))).1 = tok) :
    nk ≤ cs.length ∧ (k < nk ∨ (nk = cs.length ∧ k = cs.length)) ∧
    ((kd = "token" ∧ run ((cs.map (·.1)).drop k) .skip false Str.empty k (addNl ((cs.map (·.1)).take k) 1) = .tok tok nk (addNl ((cs.map (·.1)).take nk) 1)) ∨
     (kd = "net" ∧ run ((cs.map (·.1)).drop k) .skip false Str.empty k (addNl ((cs.map (·.1)).take k) 1) = .net nk (addNl ((cs.map (·.1)).take nk) 1)) ∨
     (kd = "key" ∧ run ((cs.map (·.1)).drop k) .skip false Str.empty k (addNl ((cs.map (·.1)).take k) 1) = .key nk (addNl ((cs.map (·.1)).take nk) 1))) := by
  have hlc : cut.length = f - k := by rw [← hcut, List.length_take, List.length_drop]; omega
  have hb := readOf_le (cut.map (·.1))
  rw [List.length_map, hlc] at hb
  have hsplit : (cs.map (·.1)).drop k = cut.map (·.1) ++ (cs.map (·.1)).drop f := by
    rw [← hcut, ← List.map_drop, ← List.map_drop, ← List.map_append]
    congr 1
    have := List.take_append_drop (f - k) (cs.drop k)
    rw [List.drop_drop, show k + (f - k) = f by omega] at this
    exact this.symm
  have hget : ∀ (i : Nat) (c : Str × Tok), cut[i]? = some c → cs[k + i]? = some c ∧ i < f - k := fun i c e => by
    rw [← hcut, List.getElem?_take] at e
    split at e
    · rename_i hi
      rw [List.getElem?_drop] at e
      exact ⟨e, hi⟩
    · cases e
  have hsign : ∀ c ∈ cut.map (·.1), Sign c := by
    intro c hc
    obtain ⟨p, hp, rfl⟩ := List.mem_map.mp hc
    obtain ⟨i, hi⟩ := List.mem_iff_getElem?.mp hp
    obtain ⟨h1, h2⟩ := hget i p hi
    have h3 := hN (k + i) (by omega) (by omega)
    rw [faultAt, h1] at h3
    have hk := hcs p (List.mem_of_getElem? h1)
    have z := (kinds_sort p.1 hk).2.1 h3
    exact signs p.1 hk z.1 z.2
  have htail : TailOk ((cs.map (·.1)).drop f) := by
    rcases Nat.lt_or_ge f cs.length with h | h
    · obtain ⟨c, hc⟩ : ∃ c, cs[f]? = some c := ⟨_, List.getElem?_eq_getElem h⟩
      rw [drop_some hc]
      have h3 := hF h
      rw [faultAt, hc] at h3
      rcases (kinds_sort c.1 (hcs c (List.mem_of_getElem? hc))).1 h3 with z | z
      · exact .inl z.2
      · exact .inr z.2.2
    · rw [List.drop_of_length_le (by rw [List.length_map]; exact h)]; trivial
  have hrun := run_read _ htail _ hsign 0 k (addNl ((cs.map (·.1)).take k) 1)
  rw [← hsplit, ← readOf_eq] at hrun
  have hpre : ∀ i, i ≤ f - k → addNl ((cut.map (·.1)).take i) (addNl ((cs.map (·.1)).take k) 1) = addNl ((cs.map (·.1)).take (k + i)) 1 := by
    intro i hi
    rw [← addNl_append, List.take_add]
    congr 2
    rw [hsplit, List.take_append_of_le_length (by rw [List.length_map, hlc]; exact hi)]
  rw [hrun]
  unfold cutOut
  unfold nextOf at hnk
  unfold kindOf at hkd
  by_cases h0 : 0 < (readOf (cut.map (·.1))).2
  · rw [if_pos h0] at hnk hkd
    rw [if_pos h0, Nat.sub_zero]
    refine ⟨by omega, .inl (by omega), .inl ⟨hkd.symm, ?_⟩⟩
    rw [htok, hnk, hpre _ hb, hnk]
  · rw [if_neg h0] at hnk hkd
    rw [if_neg h0]
    have hall : addNl (cut.map (·.1)) (addNl ((cs.map (·.1)).take k) 1) = addNl ((cs.map (·.1)).take f) 1 := by
      have := hpre (f - k) (Nat.le_refl _)
      rw [List.take_of_length_le (by rw [List.length_map, hlc]; exact Nat.le_refl _), show k + (f - k) = f by omega] at this
      exact this
    rw [hall, htok, List.length_map, hlc, show k + (f - k) = f by omega]
    rcases Nat.lt_or_ge f cs.length with h | h
    · rw [if_pos h] at hnk
      obtain ⟨c, hc⟩ : ∃ c, cs[f]? = some c := ⟨_, List.getElem?_eq_getElem h⟩
      rw [hc] at hkd
      have h3 := hF h
      rw [faultAt, hc] at h3
      have hks := kinds_sort c.1 (hcs c (List.mem_of_getElem? hc))
      have hln : addNl ((cs.map (·.1)).take nk) 1 = addNl ((cs.map (·.1)).take f) 1 := by
        rw [← hnk, List.take_add_one, List.getElem?_map, hc]
        show addNl (_ ++ [c.1]) 1 = _
        rw [addNl_snoc]
        have := hks.2.2 h3
        unfold nlS at this
        rw [show (c.1 == Str.ofString "\n") = false from this, if_neg (by decide)]
      rw [drop_some hc, hln]
      refine ⟨by omega, .inl (by omega), .inr ?_⟩
      rcases hks.1 h3 with z | z
      · refine .inl ⟨by rw [← hkd]; exact z.1, ?_⟩
        show (if isNet c.1 then Out.net (f + 1) _ else Out.key (f + 1) _) = _
        rw [z.2, if_pos rfl, hnk]
      · refine .inr ⟨by rw [← hkd]; exact z.1, ?_⟩
        show (if isNet c.1 then Out.net (f + 1) _ else Out.key (f + 1) _) = _
        rw [z.2.1, if_neg (by decide), hnk]
    · have hfe : f = cs.length := by omega
      rw [if_neg (by omega)] at hnk
      rw [List.getElem?_eq_none h] at hkd
      refine ⟨by omega, by omega, .inl ⟨hkd.symm, ?_⟩⟩
      rw [List.drop_of_length_le (by rw [List.length_map]; exact h)]
      show Out.tok tok f _ = _
      rw [hfe, hnk]
end Mine

namespace Mine

def lawB : List Stmt := match lawDef with
  | some x => x.2.1
  | none => []
def lawS : Scope := match lawDef with
  | some x => x.2.2
  | none => default
abbrev lawCl (L : Addr) : List (Str × Addr) := cellsFrom (L + 1) lawS.names []

def restOf (ws : List Stmt) : Expr × List Stmt := match ws with
  | .While t b _ _ :: _ => (t, b)
  | _ => (default, [])
/-- the body of the law's loop -/
def turnB : List Stmt := (restOf (lawB.drop 8)).2


theorem St.tidy {g h : Heap} {L : Addr} {lo : List (Str × Value)} {a : Addr × Obj} {junk ex mid pre post : List (Addr × Obj)} (S : St g L h lo (a :: (junk ++ (ex ++ (mid ++ (pre ++ post)))))) : St g L h lo (a :: (ex ++ (pre ++ (mid ++ post)))) := by
  have S1 : St g L h lo (a :: (ex ++ (mid ++ (pre ++ post)))) := S.pick ((List.sublist_append_right junk _).cons₂ a)
  refine S1.perm (List.Perm.cons a (List.Perm.append_left ex ?_))
  rw [← List.append_assoc, ← List.append_assoc]
  exact List.Perm.append_right post List.perm_append_comm
theorem rest_of {pre mid post : List (Addr × Obj)} (nd : ((pre ++ (mid ++ post)).map (·.1)).Nodup) : (∀ b ∈ keys mid, b ∈ keys (pre ++ (mid ++ post))) ∧ (∀ p ∈ pre ++ post, p ∈ pre ++ (mid ++ post) ∧ p.1 ∉ keys mid) ∧ (keys (pre ++ post)).Nodup := by
  refine ⟨fun b hb => ?_, fun p hp => ?_, ?_⟩
  · show b ∈ List.map (·.1) (pre ++ (mid ++ post))
    rw [List.map_append, List.map_append]
    exact List.mem_append_right _ (List.mem_append_left _ hb)
  · rw [List.map_append, List.map_append, List.nodup_append, List.nodup_append] at nd
    rcases List.mem_append.mp hp with hp | hp
    · exact ⟨List.mem_append_left _ hp, fun hm => nd.2.2 p.1 (List.mem_map_of_mem (f := (·.1)) hp) p.1 (List.mem_append_left _ hm) rfl⟩
    · exact ⟨List.mem_append_right _ (List.mem_append_right _ hp), fun hm => nd.2.1.2.2 p.1 hm p.1 (List.mem_map_of_mem (f := (·.1)) hp) rfl⟩
  · exact nd.sublist (((List.Sublist.refl pre).append (List.sublist_append_right mid post)).map _)
/-- what the turn is told, or due: a token, a fault's words, a fault's place -/
inductive ToldV (nk : Nat) (lines : Int) (token : Str) : Str → Value → PyData → List (Addr × Obj) → Prop
  | tok (t : Tok) : ToldV nk lines token "token" (.str token t) (.str token) []
  | net (t : Tok) : ToldV nk lines token "net" (.str (netText nk lines) t) (.str (netText nk lines)) []
  | key (a : Addr) (t : Tok) : ToldV nk lines token "key" (.ref a) (.tuple [.int nk]) [(a, tupOf [.int nk t])]

theorem ToldV.reads {nk : Nat} {lines : Int} {token kd : Str} {v : Value} {dv : PyData} {ex : List (Addr × Obj)} (H : ToldV nk lines token kd v dv ex) {h : Heap} (hx : ∀ p ∈ ex, h.get? p.1 = some p.2) : Reads h v dv [] := by
  cases H with
  | tok t => exact .str _ _
  | net t => exact .str _ _
  | key a t => exact reads_tuple_at (hx _ (.head _)) rfl rfl (.cons (as := []) (.int _ _) .nil)
theorem ToldV.due {prog : Program} {w : World} {nk : Nat} {lines : Int} {token kd : Str} {v : Value} {dv : PyData} {ex : List (Addr × Obj)} (H : ToldV nk lines token kd v dv ex) {lk : Addr} {a1 a2 a3 : Tok} :
    ∃ v2, valueAt (merged [] [(("token" : Str), Value.str token a1), ("net", .str (netText nk lines) a2), ("key", .ref lk)]) kd = some v2 ∧ ∀ h : Heap, h.get? lk = some (tupOf [.int nk a3]) → Reads h v2 dv [] := by
  have e : merged [] [(("token" : Str), Value.str token a1), ("net", .str (netText nk lines) a2), ("key", .ref lk)] = [(("token" : Str), Value.str token a1), ("net", .str (netText nk lines) a2), ("key", .ref lk)] := merged_nil_of_nodup _ (by show ([("token" : Str), "net", "key"] : List Str).Nodup; decide +kernel)
  rw [e]
  cases H with
  | tok t => exact ⟨_, rfl, fun h _ => .str _ _⟩
  | net t => exact ⟨_, rfl, fun h _ => .str _ _⟩
  | key a t => exact ⟨_, rfl, fun h e => reads_tuple_at e rfl rfl (.cons (as := []) (.int _ _) .nil)⟩
theorem ToldV.shaped {nk : Nat} {lines : Int} {token kd : Str} {v : Value} {dv : PyData} {ex : List (Addr × Obj)} (H : ToldV nk lines token kd v dv ex) (ht : PyData.strOk token = true) (hn : PyData.strOk (netText nk lines) = true) :
    SeqAt.shaped (.tuple [.tuple [.str kd, dv], .int nk, .int lines, .list []]) = true := by
  cases H with
  | tok t => simp [SeqAt.shaped, PyData.canLay0, PyData.canLayAll0, PyData.depth, PyData.depthAll, ht, show PyData.strOk (Str.ofString "token") = true by decide +kernel]
  | net t => simp [SeqAt.shaped, PyData.canLay0, PyData.canLayAll0, PyData.depth, PyData.depthAll, hn, show PyData.strOk (Str.ofString "net") = true by decide +kernel]
  | key a t => simp [SeqAt.shaped, PyData.canLay0, PyData.canLayAll0, PyData.depth, PyData.depthAll, show PyData.strOk (Str.ofString "key") = true by decide +kernel]
theorem strOk_app {x y : Str} (h1 : PyData.strOk x = true) (h2 : PyData.strOk y = true) : PyData.strOk (x ++ y) = true := by
  unfold PyData.strOk at *
  rw [Str.cps_append, Array.all_append, h1, h2]; rfl
theorem scan_ok (ends : Str) : ∀ (ms : List Mark) (tok : Str), (∀ m ∈ ms, OkS m.s) → PyData.strOk tok = true → PyData.strOk (scanM ends ms tok).1 = true
  | [], _, _, h => h
  | m :: r, tok, hm, h => by
    unfold scanM
    split
    · exact h
    · exact scan_ok ends r _ (fun x hx => hm x (.tail _ hx)) (strOk_app h (hm m (.head _)).ok)
theorem readOf_ok (cs : List Str) (hc : ∀ x ∈ cs, OkS x) : PyData.strOk (readOf cs).1 = true := by
  have hd : ∀ m ∈ dropWs (marksOf cs 0), OkS m.s := fun m hm => marks_ok cs 0 hc m (mem_dropWs _ m hm)
  unfold readOf
  split
  · exact scan_ok _ [] _ (fun _ h => nomatch h) (by decide +kernel)
  · rename_i m r hq
    rw [hq] at hd
    split
    · exact scan_ok _ _ _ (fun x hx => hd x (.tail _ hx)) (by decide +kernel)
    · exact scan_ok _ _ _ hd (by decide +kernel)
theorem figs_ok {a : Int} (h0 : 0 ≤ a) (h1 : a < 100) : PyData.strOk (Str.ofString (toString a)) = true := by
  obtain ⟨n, rfl⟩ := Int.eq_ofNat_of_zero_le h0
  have hn : n < 100 := by omega
  have key : ∀ n : Fin 100, PyData.strOk (Str.ofString (toString ((n.val : Nat) : Int))) = true := by decide +kernel
  exact key ⟨n, hn⟩
theorem net_ok {nk : Nat} {lines : Int} (h : nk < 100) (h0 : 0 ≤ lines) (h1 : lines < 100) : PyData.strOk (netText nk lines) = true := by
  unfold netText
  exact strOk_app (strOk_app (strOk_app (strOk_app (by decide +kernel) (figs_ok (by omega) (by omega))) (by decide +kernel)) (figs_ok h0 h1)) (by decide +kernel)
theorem told_reads {g h : Heap} {L t t2 pb : Addr} {lo : List (Str × Value)} {own : List (Addr × Obj)} {a b : Int} {x y z : Tok} {n : Nat} {kd : Str} {v : Value} {dv : PyData} (S : St g L h lo own) (h1 : (t, tupOf [.ref t2, .int a x, .int b y, .ref pb]) ∈ own) (h2 : (t2, tupOf [.str kd z, v]) ∈ own)
    (h4 : (pb, listOf ([] : List Value).toArray n) ∈ own) (hv : Reads h v dv []) : Reads h (.ref t) (.tuple [.tuple [.str kd, dv], .int a, .int b, .list []]) [pb] :=
  reads_tuple_at (S.at h1) rfl rfl (.cons (as := []) (reads_tuple_at (S.at h2) rfl rfl (.cons (as := []) (.str _ _) (.cons (as := []) hv .nil))) (.cons (as := []) (.int _ _) (.cons (as := []) (.int _ _) (.cons (reads_list_at (S.at h4) rfl rfl .nil) .nil))))
theorem told_same {nk : Nat} {lines : Int} {token kd : Str} {v : Value} {dv : PyData} {ex : List (Addr × Obj)} (H : ToldV nk lines token kd v dv ex) :
    PyData.eqv (.tuple [.tuple [.str kd, dv], .int nk, .int lines, .list []]) (.tuple [.tuple [.str kd, dv], .int nk, .int lines, .list []]) = true := by
  cases H <;> simp [PyData.eqv, PyData.eqvAll]

theorem law_end {w : World} {g : Heap} {p : Program} {loose : List Str} {mg mb : Str → Option Value} {mean : ExcName → Option Value} (X : (hd1.heap_39 w.params).In g) (T0 : Top p loose mean mg mb g)
    (KB : Below callerA g [] g) {h : Heap} {G : Array GenState} {D : Drawn} {tk : Nat} {O : OsState} {L fa : Addr} {r : Rig} (ok : RigOk r) (hlen : r.cs.length ≤ 24) (hcs : ∀ c ∈ r.cs, c.1 ∈ kindsL) (erA : r.cA = L + 1) (erC : r.cC = L + 1 + 1) (erX : r.cL = L + 1 + 1 + 1)
    {tA tL tp to tl t3 a1 a2 a3 : Tok} {k nk : Nat} {ov lines : Int} {kd token : Str} {ps : Array Value} (hk : k ≤ r.cs.length) (hnk1 : nk < 100) (hl0 : 0 ≤ lines) (hl1 : lines < 100) (hlines : lines = addNl ((r.cs.map (·.1)).take nk) 1)
    (hout : (kd = "token" ∧ run ((r.cs.map (·.1)).drop k) .skip false Str.empty k (addNl ((r.cs.map (·.1)).take k) 1) = .tok token nk (addNl ((r.cs.map (·.1)).take nk) 1)) ∨
     (kd = "net" ∧ run ((r.cs.map (·.1)).drop k) .skip false Str.empty k (addNl ((r.cs.map (·.1)).take k) 1) = .net nk (addNl ((r.cs.map (·.1)).take nk) 1)) ∨
     (kd = "key" ∧ run ((r.cs.map (·.1)).drop k) .skip false Str.empty k (addNl ((r.cs.map (·.1)).take k) 1) = .key nk (addNl ((r.cs.map (·.1)).take nk) 1)))
    (htok : PyData.strOk token = true)
    {d lk : Addr} {od : Obj} (hd : od.IsDictOf (strKind PySem.Challenge.rw_km0063_01.row.prog w) (merged [] [("token", .str token a1), ("net", .str (netText nk lines) a2), ("key", .ref lk)]))
    (S : St g L h [("due", .ref d), ("lines", .int lines tl), ("place", .int nk tp), ("kind", .str kd t3), ("over", .int ov to)] ((d, od) :: (lk, tupOf [.int nk a3]) :: (r.own k tA (addNl ((r.cs.map (·.1)).take k) 1) tL ++ [(107, tabObj ps)])))
    {Q : Flow → Shared → Prop} {E : Value → Shared → Prop}
    (q : ∀ h' tk' tA' tL', St g L h' [("place", .int nk tp), ("over", .int ov to)] (r.own nk tA' (addNl ((r.cs.map (·.1)).take nk) 1) tL' ++ [(107, tabObj ps)]) → Q .next ⟨h', G, D, tk', O⟩) :
    wpAny (model PySem.Challenge.rw_km0063_01.row.prog w) (callerA.deeper (envX "law" lawS L fa (.ref 109) (lawCl L))) (execs (turnB.drop 6) (envX "law" lawS L fa (.ref 109) (lawCl L))) Q E ⟨h, G, D, tk, O⟩ := by
  have T := topRead_of T0
  have _kf : (hd1.heap_39 w.params).In g ∧ PySem.Challenge.rw_km0063_01 = PySem.Challenge.rw_km0063_01 := by (k_fill; exact ⟨X, rfl⟩)
  clear _kf
  have hclA : (lawCl L).lookup ("at" : Str) = some r.cA := by rw [erA]; rfl
  have hclC : (lawCl L).lookup ("cells" : Str) = some r.cC := by rw [erC]; rfl
  have hclX : (lawCl L).lookup ("lex" : Str) = some r.cL := by rw [erX]; rfl
  have oka := ok.a
  have okc := ok.c
  have okl := ok.l
  have hlen64 := ok.len
  with_unfolding_all refine' m_execs_cons ?_
  refine' wpAny_mono (Q := fun f s' => ∃ (h : Heap) (tk : Nat) (tA tL t1 : Tok) (tt : Addr) (v : Value) (dv : PyData) (ex : List (Addr × Obj)), f = .next ∧ s' = ⟨h, G, D, tk, O⟩ ∧ ToldV nk lines token kd v dv ex ∧
    St g L h [("told", .ref tt), ("due", .ref d), ("lines", .int lines tl), ("place", .int nk tp), ("kind", .str kd t3), ("over", .int ov to)] ((tt, tupOf [.str kd t1, v]) :: (ex ++ (d, od) :: (lk, tupOf [.int nk a3]) :: (r.own nk tA lines tL ++ [(107, tabObj ps)])))) ?try1 ?rest1 (fun _ _ x => x)
  case try1 =>
    refine' wpAny_Try_except ?_
    repeat (walk_at "m")
    refine' m_methInst (by assumption) X ?hx ?hd ?hg2 ?hf ?ht ?hl ?_
    case hx => walk_at "mem"
    case hd => walk_at "mem"
    case hg2 => k_is
    case hf => k_is
    case ht => k_is
    case hl => exact ok.gt _ tL
    refine' m_cwK0 (fnAt_K X S ?hlk) ?_
    case hlk => rfl
    refine' m_callF ?_
    refine' get_token (A := callerA.deeper (envX "law" lawS L fa (.ref 109) (lawCl L))) X T0 ?hr ?hu ?hh ok hk (fun p hp => S.at (a := p.1) (o := p.2) (.tail _ (.tail _ (List.mem_append_left _ hp)))) ?hnd (below_call KB S (fun p hp => .tail _ (.tail _ (List.mem_append_left _ hp))) ?hkk) ?_
    case hr => show callerA.depth + 1 < 370; decide
    case hu => show callerA.units + 3 < 470; decide
    case hh => rfl
    case hkk => rfl
    case hnd => exact S.nd.sublist (((List.sublist_append_left _ _).trans ((List.sublist_cons_self _ _).trans (List.sublist_cons_self _ _))).map _)
    have hwrap : ∀ {h' k' tA' ln' tL'}, (∀ b o, h.get? b = some o → b ∉ keys (r.own k tA (addNl ((r.cs.map (·.1)).take k) 1) tL) → h'.get? b = some o) → (∀ p ∈ r.own k' tA' ln' tL', h'.get? p.1 = some p.2) →
        St g L h' [("due", .ref d), ("lines", .int lines tl), ("place", .int nk tp), ("kind", .str kd t3), ("over", .int ov to)] ((d, od) :: (lk, tupOf [.int nk a3]) :: (r.own k' tA' ln' tL' ++ [(107, tabObj ps)])) := fun hk2 hm2 =>
      St.around (pre := [(d, od), (lk, tupOf [.int nk a3])]) (post := [(107, tabObj ps)]) S hk2 hm2 rfl
    rw [← hlines] at hout q
    refine ⟨?tok, ?net, ?key⟩
    case tok =>
      intro s k' ln' hE t h' tk' tA' tL' hk2 hm2
      obtain ⟨hkd, ho⟩ : kd = "token" ∧ run ((r.cs.map (·.1)).drop k) .skip false Str.empty k (addNl ((r.cs.map (·.1)).take k) 1) = .tok token nk lines := by
        rcases hout with z | ⟨_, z⟩ | ⟨_, z⟩
        · exact z
        · rw [z] at hE; cases hE
        · rw [z] at hE; cases hE
      rw [ho] at hE
      cases hE
      replace S := hwrap hk2 hm2
      subst hkd
      dsimp only
      repeat (walk_at "m")
      exact ⟨h, _, tA', tL', _, _, _, _, [], rfl, rfl, .tok _, S⟩
    case net =>
      intro k' ln' hE e dx od2 t' tm tk1 tk2 h' tk' tA' tL' hdm fl
      obtain ⟨hkd, ho⟩ : kd = "net" ∧ run ((r.cs.map (·.1)).drop k) .skip false Str.empty k (addNl ((r.cs.map (·.1)).take k) 1) = .net nk lines := by
        rcases hout with ⟨_, z⟩ | z | ⟨_, z⟩
        · rw [z] at hE; cases hE
        · exact z
        · rw [z] at hE; cases hE
      rw [ho] at hE
      cases hE
      dsimp only
      obtain ⟨hks, hrest, hrn⟩ := rest_of (pre := [(d, od), (lk, tupOf [.int nk a3])]) (mid := r.own k tA (addNl ((r.cs.map (·.1)).take k) 1) tL) (post := [(107, tabObj ps)]) S.nd
      refine' flown_note ?hfr fl (frames_no1 S) ?_
      case hfr => exact Around.frames_deeper KB.stack
      clear fl
      intro h2 fl
      dsimp only
      refine' flown_set fl (frames_no1 S) ?_
      clear fl
      intro h2 fl
      dsimp only
      obtain ⟨oe, vs, hec, hed, hef, hev, S2⟩ := fl.st S hks hrest hrn
      refine' clause_own (excK1 w.params) ?_
      repeat (walk_at "m")
      refine ⟨rfl, S2.hasK X, ⟨oe, S2.at (.head _), hec⟩, ?_⟩
      refine' flown_set fl (frames_no1 S) ?_
      clear S2 hec hed hef hev oe vs
      clear fl
      intro h2 fl
      dsimp only
      obtain ⟨oe, vs, hec, hed, hef, hev, S2⟩ := fl.st S hks hrest hrn
      clear fl S
      have S := S2
      clear S2
      repeat (walk_at "m")
      refine' m_strOwn S X ?hu2 (.head _) hec hed ⟨vs, hef⟩ (.tail _ (.head _)) ?hs2 ?hf2 ?_
      case hu2 => show callerA.units + 3 + 1 + 1 < cLine; decide
      case hs2 => k_is
      case hf2 => k_is
      refine' m_callF ?_
      have hsub2 : ∀ p ∈ [(e, oe), (dx, od2)], p ∈ (e, oe) :: ((dx, od2) :: (t', tupOf [.str "fault" tm]) :: r.own nk tA' lines tL' ++ ([(d, od), (lk, tupOf [.int nk a3])] ++ [(107, tabObj ps)])) := fun p hp => by
        rcases List.mem_cons.mp hp with rfl | hp
        · exact .head _
        · rcases List.mem_singleton.mp hp with rfl; exact .tail _ (.head _)
      refine' net_str X T0 ?hr2 (by omega) (by omega) hl0 hl1 (fun p hp => S.at (a := p.1) (o := p.2) (hsub2 p hp)) (S.apart (.head _)) hec hed ⟨vs, hef⟩ hdm (S.stays (fun _ _ e => e) hsub2) ?_
      case hr2 => show callerA.depth + 1 < 500; decide
      intro h' tk' t2 hkp
      replace S := S.keeps hkp
      show wpAny _ _ _ _ _ _
      clear hsub2
      repeat (walk_at "m")
      refine' m_nameGoes S ?hx3 ?hk3 (lo' := [("told", .ref _), ("due", .ref d), ("lines", .int lines tl), ("place", .int nk tp), ("kind", .str kd t3), ("over", .int ov to)]) (go_cons (by decide +kernel) rfl (go_cons (by decide +kernel) rfl (go_cons (by decide +kernel) rfl (go_cons (by decide +kernel) rfl (go_cons (by decide +kernel) rfl (go_cons (by decide +kernel) rfl go_nil)))))) ?_
      case hx3 => rfl
      case hk3 => rfl
      clear S
      intro h tk S
      subst hkd
      exact ⟨h, _, tA', tL', _, _, _, _, [], rfl, rfl, .net _, S.tidy (junk := [(e, oe), (dx, od2), (t', _)]) (ex := []) (pre := [(d, od), (lk, tupOf [.int nk a3])]) (mid := r.own nk tA' lines tL') (post := [(107, tabObj ps)])⟩
    case key =>
      intro k' ln' hE e t' tk1 h' tk' tA' tL' fl
      obtain ⟨hkd, ho⟩ : kd = "key" ∧ run ((r.cs.map (·.1)).drop k) .skip false Str.empty k (addNl ((r.cs.map (·.1)).take k) 1) = .key nk lines := by
        rcases hout with ⟨_, z⟩ | ⟨_, z⟩ | z
        · rw [z] at hE; cases hE
        · rw [z] at hE; cases hE
        · exact z
      rw [ho] at hE
      cases hE
      dsimp only
      obtain ⟨hks, hrest, hrn⟩ := rest_of (pre := [(d, od), (lk, tupOf [.int nk a3])]) (mid := r.own k tA (addNl ((r.cs.map (·.1)).take k) 1) tL) (post := [(107, tabObj ps)]) S.nd
      refine' flown_note ?hfr fl (frames_no1 S) ?_
      case hfr => exact Around.frames_deeper KB.stack
      clear fl
      intro h2 fl
      dsimp only
      refine' flown_set fl (frames_no1 S) ?_
      clear fl
      intro h2 fl
      dsimp only
      obtain ⟨oe, vs, hec, hed, hef, hev, S2⟩ := fl.st S hks hrest hrn
      refine' clause_miss (excK1 w.params) ?_
      repeat (walk_at "m")
      refine ⟨rfl, S2.hasK X, ⟨oe, S2.at (.head _), hec⟩, ?_⟩
      refine' wpAny_handleBy_builtin_as (X := "KeyError") (T := "KeyError") (b := true) (by rw [isSubtype_type]; kernel_rfl) (by rw [isSubtype_type]; kernel_rfl) (by rw [isSubtype_type]; kernel_rfl) ?_
      refine' m_blt S2 ?hx4 ?hk4 ?hd4 ?hn4 X T ?e4 ?hv4 ?_
      case hx4 => with_unfolding_all rfl
      case hk4 => with_unfolding_all rfl
      case hd4 => decide +kernel
      case hn4 => decide +kernel
      case e4 => k_is
      case hv4 => boot_fast
      refine ⟨rfl, ⟨oe, S2.at (.head _), hec⟩, ?_⟩
      rw [if_pos rfl]
      refine' flown_set fl (frames_no1 S) ?_
      clear S2 hec hed hef hev oe vs
      clear fl
      intro h2 fl
      dsimp only
      obtain ⟨oe, vs, hec, hed, hef, hev, S2⟩ := fl.st S hks hrest hrn
      clear fl S
      have S := S2
      clear S2
      repeat (walk_at "m")
      refine' m_keyArgs S (.head _) hec hef hev ?_
      intro tk
      repeat (walk_at "m")
      refine' m_nameGoes S ?hx3 ?hk3 (lo' := [("told", .ref _), ("due", .ref d), ("lines", .int lines tl), ("place", .int nk tp), ("kind", .str kd t3), ("over", .int ov to)]) (go_cons (by decide +kernel) rfl (go_cons (by decide +kernel) rfl (go_cons (by decide +kernel) rfl (go_cons (by decide +kernel) rfl (go_cons (by decide +kernel) rfl (go_cons (by decide +kernel) rfl go_nil)))))) ?_
      case hx3 => rfl
      case hk3 => rfl
      clear S
      intro h tk S
      subst hkd
      exact ⟨h, _, tA', tL', _, _, _, _, [(t', tupOf [.int nk tk1])], rfl, rfl, .key _ _, S.tidy (junk := [(e, oe)]) (ex := [(t', tupOf [.int nk tk1])]) (pre := [(d, od), (lk, tupOf [.int nk a3])]) (mid := r.own nk tA' lines tL') (post := [(107, tabObj ps)])⟩
  case rest1 =>
    clear S
    rintro f s' ⟨h, tk, tA, tL, t1, tt, v, dv, ex, rfl, rfl, hT, S⟩
    rw [← hlines] at q
    obtain ⟨v2, hv2, hr2⟩ := hT.due (prog := PySem.Challenge.rw_km0063_01.row.prog) (w := w) (lk := lk) (a1 := a1) (a2 := a2) (a3 := a3)
    replace S : St g L h _ ((tt, tupOf [.str kd t1, v]) :: ((d, od) :: (lk, tupOf [.int nk a3]) :: (r.own nk tA lines tL ++ [(107, tabObj ps)]) ++ ex)) := S.perm (List.Perm.cons _ List.perm_append_comm)
    repeat (walk_at "m")
    refine' m_idx S ?hm ?hz ?h0 ?hx ?hs ?_
    case hm => walk_at "mem"
    case hz => walk_at "sz"
    case h0 => decide
    case hx => rfl
    case hs => with_unfolding_all rfl
    repeat (walk_at "m")
    refine' m_getOwn S X ?hx ?hd ?hg2 ?hh2 ?ha ?hn ?hl ?hv ?_
    case hx => walk_at "mem"
    case hd => walk_at "mem"
    case hg2 => k_is
    case hh2 => k_is
    case ha => k_is
    case hn => first | rfl | k_is
    case hl => exact ok.ln lines tL
    case hv => rfl
    intro tk
    repeat (walk_at "m")
    refine' m_getOwn S X ?hx ?hd ?hg2 ?hh2 ?ha ?hn ?hl ?hv ?_
    case hx => walk_at "mem"
    case hd => walk_at "mem"
    case hg2 => k_is
    case hh2 => k_is
    case ha => k_is
    case hn => first | rfl | k_is
    case hl => exact ok.psh lines tL
    case hv => rfl
    intro tk
    repeat (walk_at "m")
    refine' m_didx S ?hm hd hv2 ?hs ?_
    case hm => walk_at "mem"
    case hs => with_unfolding_all rfl
    intro tk
    repeat (walk_at "m")
    refine' m_ned (s := ⟨h, G, D, _, O⟩) (da := .tuple [.tuple [.str kd, dv], .int nk, .int lines, .list []]) (db := .tuple [.tuple [.str kd, dv], .int nk, .int lines, .list []]) ?ra ?rb ?sa ?sb ?hu5 ?_
    case ra =>
      refine' told_reads S ?m1 ?m2 ?m3 (hT.reads ?m4)
      case m1 => walk_at "mem"
      case m2 => walk_at "mem"
      case m3 => walk_at "mem"
      case m4 =>
        intro p hp
        refine S.at (a := p.1) (o := p.2) ?_
        exact .tail _ (.tail _ (.tail _ (.tail _ (.tail _ (List.mem_append_right _ hp)))))
    case rb =>
      refine' told_reads S ?n1 ?n2 ?n3 (hr2 _ (S.at ?n4))
      case n1 => walk_at "mem"
      case n2 => walk_at "mem"
      case n3 => walk_at "mem"
      case n4 => walk_at "mem"
    case sa => exact hT.shaped htok (net_ok hnk1 hl0 hl1)
    case sb => exact hT.shaped htok (net_ok hnk1 hl0 hl1)
    case hu5 => show callerA.units + 3 + 64 < cLine; decide
    rw [told_same hT, Bool.not_true]
    repeat (walk_at "m")
    have S7 : St g L h _ ((r.own nk tA lines tL ++ [(107, tabObj ps)]) ++ ex) := S.dropN 7
    exact q h _ tA tL ((S7.pick (List.sublist_append_left _ _)).low (lo_cons rfl (lo_cons rfl lo_nil)))
end Mine

namespace Mine

theorem kinds_len : ∀ x ∈ kindsL, x.length < 2 ^ 63 := by decide +kernel
theorem kinds_ne : ∀ x ∈ kindsL, (x == Str.empty) = false := by decide +kernel
theorem third_sub {x y z : Addr × Obj} {r : List (Addr × Obj)} (hn : ((x :: y :: z :: r).map (·.1)).Nodup) : (∀ p ∈ x :: y :: r, p ∈ x :: y :: z :: r ∧ p.1 ≠ z.1) ∧ ((x :: y :: r).map (·.1)).Nodup := by
  simp only [List.map_cons, List.nodup_cons, List.mem_cons, not_or] at hn ⊢
  refine ⟨fun p hp => ?_, ⟨hn.1.1, hn.1.2.2⟩, hn.2.1.2, hn.2.2.2⟩
  rcases hp with rfl | rfl | hp
  · exact ⟨.inl rfl, hn.1.2.1⟩
  · exact ⟨.inr (.inl rfl), hn.2.1.1⟩
  · exact ⟨.inr (.inr (.inr hp)), fun e => hn.2.2.1 (e ▸ List.mem_map_of_mem hp)⟩
theorem law_turn {w : World} {g : Heap} {p : Program} {loose : List Str} {mg mb : Str → Option Value} {mean : ExcName → Option Value} (X : (hd1.heap_39 w.params).In g) (T0 : Top p loose mean mg mb g)
    (KB : Below callerA g [] g) {h : Heap} {G : Array GenState} {D : Drawn} {tk : Nat} {O : OsState} {L fa : Addr} {r : Rig} (ok : RigOk r) (hlen : r.cs.length ≤ 24) (hcs : ∀ c ∈ r.cs, c.1 ∈ kindsL) (erA : r.cA = L + 1) (erC : r.cC = L + 1 + 1) (erX : r.cL = L + 1 + 1 + 1)
    {tA tL tp to : Tok} {k : Nat} {ov : Int} {ps : Array Value} (hk : k ≤ r.cs.length) (S : St g L h [("place", .int k tp), ("over", .int ov to)] (r.own k tA (addNl ((r.cs.map (·.1)).take k) 1) tL ++ [(107, tabObj ps)]))
    {Q : Flow → Shared → Prop} {E : Value → Shared → Prop}
    (q : ∀ h' tk' (k' : Nat) tA' tL' tp' to' (ps' : Array Value), k' ≤ r.cs.length → (k < k' ∨ (k' = r.cs.length ∧ k = r.cs.length)) → St g L h' [("place", .int k' tp'), ("over", .int (if k = r.cs.length then ov + 1 else ov) to')] (r.own k' tA' (addNl ((r.cs.map (·.1)).take k') 1) tL' ++ [(107, tabObj ps')]) → Q .next ⟨h', G, D, tk', O⟩) :
    wpAny (model PySem.Challenge.rw_km0063_01.row.prog w) (callerA.deeper (envX "law" lawS L fa (.ref 109) (lawCl L))) (execs turnB (envX "law" lawS L fa (.ref 109) (lawCl L))) Q E ⟨h, G, D, tk, O⟩ := by
  have T := topRead_of T0
  have _kf : (hd1.heap_39 w.params).In g ∧ PySem.Challenge.rw_km0063_01 = PySem.Challenge.rw_km0063_01 := by (k_fill; exact ⟨X, rfl⟩)
  clear _kf
  have hclA : (lawCl L).lookup ("at" : Str) = some r.cA := by rw [erA]; rfl
  have hclC : (lawCl L).lookup ("cells" : Str) = some r.cC := by rw [erC]; rfl
  have hclX : (lawCl L).lookup ("lex" : Str) = some r.cL := by rw [erX]; rfl
  have oka := ok.a
  have okc := ok.c
  have okl := ok.l
  have hlen64 := ok.len
  have hclen : ∀ c ∈ r.cs, c.1.length < 2 ^ 63 := fun c hm => kinds_len c.1 (hcs c hm)
  with_unfolding_all refine' m_execs_cons ?_
  refine' wpAny_mono (Q := fun f s' => ∃ (h : Heap) (tk : Nat) (to : Tok), f = .next ∧ s' = ⟨h, G, D, tk, O⟩ ∧ St g L h [("place", .int k tp), ("over", .int (if k = r.cs.length then ov + 1 else ov) to)] (r.own k tA (addNl ((r.cs.map (·.1)).take k) 1) tL ++ [(107, tabObj ps)])) ?if1 ?rest1 (fun _ _ x => x)
  case if1 =>
    repeat (walk_at "m")
    rw [sv_len]
    apply m_ifb <;> intro hkl
    · have hkl2 : k = r.cs.length := by have := eq_of_beq hkl; omega
      repeat (walk_at "m")
      exact ⟨h, _, _, rfl, rfl, by rw [if_pos hkl2]; exact S.low (lo_cons rfl (lo_cons rfl lo_nil))⟩
    · have hkl2 : ¬ k = r.cs.length := by
        intro z
        rw [z] at hkl
        simp at hkl
      repeat (walk_at "m")
      exact ⟨h, _, to, rfl, rfl, by rw [if_neg hkl2]; exact S⟩
  case rest1 =>
    clear S to
    rintro f s' ⟨h, tk, to, rfl, rfl, S⟩
    generalize (if k = r.cs.length then ov + 1 else ov) = ov2 at S q
    repeat (walk_at "m")
    refine' m_ListComp (cl := [("cells", r.cC)]) ?hclos ?hkind ?hnames ?hfs ?_
    case hclos => rw [erC]; rfl
    case hkind => rfl
    case hnames => decide +kernel
    case hfs => intro _; rfl
    repeat (walk_at "m")
    refine' m_range (by assumption) ?_
    clear S
    intro ra rv h tk S
    rw [sv_len] at S
    refine' m_rangeIter (by assumption) (.head _) (small_one (by omega) (by omega) (by omega) (by omega)) ?_
    clear S
    intro it h S
    have S0 := S
    refine' m_compGo (by assumption) ?hcell ?hkind2 ?_
    case hcell => decide +kernel
    case hkind2 => rfl
    clear S
    intro Dl C h' tk oL hoL S
    refine' (fun hloop => codeAny_compStart_list hloop (m_rangeSelf (S.at (.tail _ (.tail _ (.head _)))) hloop)) ?_
    rw [rangeSize_one] at S S0
    have hisz : (if (k : Int) < (r.cs.length : Int) then (r.cs.length : Int) - k else 0) = ((r.cs.length - k : Nat) : Int) := by split <;> omega
    rw [hisz] at S S0
    refine' codeAny_compLoop_tests (fun n s' => ∃ (h : Heap) (tk j nn : Nat) (vsD : List Value), s' = ⟨h, G, D, tk, O⟩ ∧ k + j ≤ r.cs.length ∧ n = r.cs.length - (k + j) ∧ IntsAre vsD (((List.range' k j).filter (faultAt r.cs)).map Int.ofNat) ∧
      St g C h [] ((Dl, listOf vsD.toArray nn) :: (L, oL) :: (it, rangeIt ((k + j : Nat) : Int) ((r.cs.length - (k + j) : Nat) : Int)) :: (ra, rangeOf k r.cs.length tp t rv) :: (r.own k tA (addNl ((r.cs.map (·.1)).take k) 1) tL ++ [(107, tabObj ps)]))) ?turn (r.cs.length - k) ?init ?ht
    case ht => intro _; rfl
    case init => exact ⟨h', tk, 0, 0, [], rfl, by omega, rfl, .nil, S⟩
    clear S
    rintro n s' ⟨h2, tk2, j, nn, vsD, rfl, hj, hn, hvs, S⟩
    rcases Nat.lt_or_ge (k + j) r.cs.length with hlt | hge
    · refine' m_rangeNext (y := ((k + j : Nat) : Int)) (left := ((r.cs.length - (k + j) : Nat) : Int)) (by assumption) (.there (.there .here)) (by omega) ?_
      clear S
      intro ti h2 tk2 S
      dsimp only
      refine' m_assignName ?_
      refine' me_store S rfl ?hx ?hk ?_
      case hx => with_unfolding_all rfl
      case hk => rfl
      clear S
      intro h2 tk2 S
      refine' wpAny_tests_one ?_
      repeat (walk_at "m")
      obtain ⟨c, hc⟩ : ∃ c, r.cs[k + j]? = some c := ⟨_, List.getElem?_eq_getElem hlt⟩
      refine' m_idx (x := .str c.1 c.2) (by assumption) ?hm ?hz ?h0 ?hx ?hs ?_
      case hm => walk_at "mem"
      case hz => walk_at "sz"
      case h0 => omega
      case hx => rw [sv_get, Int.toNat_natCast, hc]; rfl
      case hs => with_unfolding_all rfl
      have hc64 : c.1.length < 2 ^ 63 := hclen c (List.mem_of_getElem? hc)
      repeat (walk_at "m")
      have hfa : faultAt r.cs (k + j) = (c.1.length == 3) := by rw [faultAt, hc]
      have hrg : ((List.range' k (j + 1)).filter (faultAt r.cs)).map Int.ofNat = (((List.range' k j).filter (faultAt r.cs)).map Int.ofNat) ++ (if c.1.length == 3 then [((k + j : Nat) : Int)] else []) := by
        rw [List.range'_concat, List.filter_append, List.map_append, Nat.one_mul, List.filter_cons, List.filter_nil, hfa]
        cases c.1.length == 3 <;> rfl
      have hleft : ((r.cs.length - (k + j) : Nat) : Int) - 1 = ((r.cs.length - (k + (j + 1)) : Nat) : Int) := by omega
      have hnext : ((k + j : Nat) : Int) + 1 = ((k + (j + 1) : Nat) : Int) := by omega
      apply m_ifb <;> intro h3
      · have h3' : (c.1.length == 3) = true := by
          have := eq_of_beq h3
          simp only [beq_iff_eq]; omega
        refine' me_local S rfl rfl ?hx ?hk ?hd ?_
        case hx => with_unfolding_all rfl
        case hk => rfl
        case hd => decide +kernel
        rw [h3', if_pos rfl] at hrg
        have hvl : vsD.length ≤ 64 := by
          have e1 := ints_len hvs
          rw [List.length_map] at e1
          have e2 := List.length_filter_le (faultAt r.cs) (List.range' k j)
          rw [List.length_range'] at e2
          omega
        refine' m_append S .here (small_fit hvl) ?_
        clear S
        intro h2 S
        rw [hnext, hleft] at S
        exact ⟨r.cs.length - (k + (j + 1)), by omega, _, _, j + 1, _, vsD ++ [.int ((k + j : Nat) : Int) ti], rfl, by omega, rfl, by rw [hrg]; exact ints_snoc hvs, S.low lo_nil⟩
      · have h3' : (c.1.length == 3) = false := by
          cases e : (c.1.length == 3)
          · rfl
          · have := eq_of_beq e
            rw [this] at h3
            exact absurd h3 (by decide)
        rw [h3', if_neg (by decide), List.append_nil] at hrg
        rw [hnext, hleft] at S
        exact ⟨r.cs.length - (k + (j + 1)), by omega, _, _, j + 1, _, vsD, rfl, by omega, rfl, by rw [hrg]; exact hvs, S.low lo_nil⟩
    · refine' m_rangeEnd (S.first (pre := [_, _]) rfl) ?hh (by omega) ?_
      case hh => rfl
      clear S
      intro h2 S
      dsimp only
      have hje : j = r.cs.length - k := by omega
      refine' m_compEnd S0 hoL S ?_
      clear S S0 hoL
      intro h S
      repeat (walk_at "m")
      have hvl : vsD.length ≤ 24 := by
        have e1 := ints_len hvs
        rw [List.length_map] at e1
        have e2 := List.length_filter_le (faultAt r.cs) (List.range' k j)
        rw [List.length_range'] at e2
        omega
      refine' m_addLists (by assumption) ?hl ?hb ?hz ?_
      case hl => walk_at "mem"
      case hb => walk_at "mem"
      case hz => exact small_fit (by simp only [List.length_cons, List.length_nil]; omega)
      clear S
      intro ls h S
      repeat (walk_at "m")
      refine' m_minList (ns := ((List.filter (faultAt r.cs) (List.range' k j)).map Int.ofNat) ++ [(r.cs.length : Int)]) (by assumption) rfl (.head _) ?hi ?hne ?_
      case hi => rw [sv_len]; exact ints_snoc hvs
      case hne => rw [List.length_append]; exact Nat.lt_add_left _ Nat.one_pos
      clear S
      intro h z tz tk hz1 hz2 S
      obtain ⟨fz, rfl, hfk, hfl, hfN, hfF⟩ := fault_of hk (by rw [← hje]; exact hz1) (by rw [← hje]; exact hz2)
      clear hz1 hz2 hvl hvs
      repeat (walk_at "m")
      refine' m_cwK (fnAt_K X S ?hlk) ?hs ?hp ?_
      case hlk => rfl
      case hs => with_unfolding_all rfl
      case hp => with_unfolding_all rfl
      repeat (walk_at "m")
      refine' m_cutN (a := k) (b := fz) (by assumption) ?hm ?hs ?hz ?ha ?hb2 ?he ?_
      case hm => walk_at "mem"
      case hs => walk_at "mem"
      case hz => walk_at "sz"
      case ha => rfl
      case hb2 => rfl
      case he => with_unfolding_all rfl
      clear S
      intro sg h S
      rw [sv_drop, sv_take] at S
      generalize hcut : (r.cs.drop k).take (fz - k) = cut at S
      have hcl : cut.length ≤ 64 := by rw [← hcut, List.length_take, List.length_drop]; omega
      have hck : ∀ c ∈ cut, OkS c.1 := fun c hm => kinds_ok c.1 (hcs c (by rw [← hcut] at hm; exact List.mem_of_mem_drop (List.mem_of_mem_take hm)))
      repeat (walk_at "m")
      refine' and_K (fnAt_K X S ?hlk2) ?_
      case hlk2 => rfl
      refine' m_callF ?_
      refine' law_read X T0 ?hr ?hu ?hh hcl hck (S.at (.head _)) (S.stays (fun _ _ e => e) (fun p hp => by rw [List.mem_singleton.mp hp]; exact .head _)) ?_
      case hr => show callerA.depth + 1 < 500; decide
      case hu => show callerA.units + 3 < 500; decide
      case hh => rfl
      intro rt h' tk' t1 t2 hk1 hr1 hrn1
      replace S := S.new hk1 hrn1 hr1
      clear hk1 hr1 hrn1 h
      dsimp only
      refine' m_unpack (by assumption) (.head _) rfl rfl rfl ?_
      clear S
      intro h S
      repeat (first | walk_at "m" | refine' m_inOrder ?_)
      refine' m_inOrder0 ?_
      replace S : St g L h _ (r.own k tA (addNl ((r.cs.map (·.1)).take k) 1) tL ++ [(107, tabObj ps)]) := S.dropN 7
      with_unfolding_all refine' m_execs_cons ?_
      refine' wpAny_mono (Q := fun f s' => ∃ (h : Heap) (tk : Nat) (tp t3 tz t4 : Tok) (bh : Int), f = .next ∧ s' = ⟨h, G, D, tk, O⟩ ∧ St g L h [("place", .int (nextOf r.cs k fz (readOf (cut.map (·.1))).2 : Nat) tp), ("kind", .str (kindOf r.cs fz (readOf (cut.map (·.1))).2) t3), ("token", .str (readOf (cut.map (·.1))).1 t4), ("over", .int ov2 to)] (r.own k tA (addNl ((r.cs.map (·.1)).take k) 1) tL ++ [(107, tabObj ps)])) ?if2 ?rest2 (fun _ _ x => x)
      case if2 =>
        generalize readOf (cut.map (·.1)) = rd at S
        repeat (walk_at "m")
        apply m_if <;> intro hb
        · have hb' : 0 < rd.2 := by omega
          repeat (walk_at "m")
          have e1 : ((nextOf r.cs k fz rd.2 : Nat) : Int) = (k : Int) + (rd.2 : Int) := by show (((if 0 < rd.2 then k + rd.2 else _ : Nat) : Nat) : Int) = _; rw [if_pos hb', Int.natCast_add]
          have e2 : kindOf r.cs fz rd.2 = "token" := if_pos hb'
          exact ⟨h, _, _, _, tz, _, 0, rfl, rfl, by rw [e1, e2]; exact S.low (lo_cons rfl (lo_cons rfl (lo_cons rfl (lo_cons rfl lo_nil))))⟩
        · have hb' : ¬ 0 < rd.2 := by omega
          repeat (walk_at "m")
          refine' m_min2 (by assumption) rfl ?_
          clear S
          intro h v tk S
          have e1 : ((nextOf r.cs k fz rd.2 : Nat) : Int) = (if ((strValues r.cs).length : Int) < (fz : Int) + 1 then ((strValues r.cs).length : Int) else (fz : Int) + 1) := by
            show (((if 0 < rd.2 then k + rd.2 else if fz < r.cs.length then fz + 1 else r.cs.length : Nat) : Nat) : Int) = _
            rw [if_neg hb', sv_len]
            split <;> split <;> omega
          rw [← e1] at *
          clear e1
          repeat (walk_at "m")
          have hx5 : ∀ T : Tok, (strValues r.cs ++ [Value.str "token" T])[((fz : Int)).toNat]? = some (.str (kindOf r.cs fz rd.2) (match r.cs[fz]? with | some c => c.2 | none => T)) := by
            intro T
            rw [Int.toNat_natCast]
            have e2 : kindOf r.cs fz rd.2 = (match r.cs[fz]? with | some c => c.1 | none => "token") := if_neg hb'
            rw [e2]
            rcases Nat.lt_or_ge fz r.cs.length with hlt | hge
            · rw [List.getElem?_append_left (by rw [sv_len]; exact hlt), sv_get, List.getElem?_eq_getElem hlt]
              rfl
            · have : fz = r.cs.length := by omega
              subst this
              rw [List.getElem?_append_right (by rw [sv_len]; exact Nat.le_refl _), sv_len, Nat.sub_self, List.getElem?_eq_none (Nat.le_refl _)]
              rfl
          refine' m_idx (by assumption) ?hm ?hz ?h0 (hx5 _) ?hs ?_
          case hm => walk_at "mem"
          case hz => exact small_fit (by rw [List.length_append, sv_len]; simp only [List.length_cons, List.length_nil]; omega)
          case h0 => omega
          case hs => with_unfolding_all rfl
          repeat (walk_at "m")
          exact ⟨h, _, _, _, tz, _, 0, rfl, rfl, (S.dropN 2).low (lo_cons rfl (lo_cons rfl (lo_cons rfl (lo_cons rfl lo_nil))))⟩
      case rest2 =>
        clear S
        rintro f s' ⟨h, tk, tp, t3, tz, t4, bh, rfl, rfl, S⟩
        generalize hnk : nextOf r.cs k fz (readOf (cut.map (·.1))).2 = nk at S
        generalize hkd : kindOf r.cs fz (readOf (cut.map (·.1))).2 = kd at S
        generalize htok : (readOf (cut.map (·.1))).1 = token at S
        repeat (walk_at "m")
        refine' m_ListComp (cl := []) ?hclos ?hkind ?hnames ?hfs ?_
        case hclos => rfl
        case hkind => rfl
        case hnames => decide +kernel
        case hfs => intro _; rfl
        repeat (walk_at "m")
        refine' m_cutTo (b := nk) (by assumption) ?hm ?hs ?hz ?hb ?he ?_
        case hm => walk_at "mem"
        case hs => walk_at "mem"
        case hz => walk_at "sz"
        case hb => rfl
        case he => with_unfolding_all rfl
        clear S
        intro s2 h S
        rw [sv_take] at S
        replace S := S.drop2
        generalize hseg : r.cs.take nk = seg at S
        have hsl : seg.length ≤ 24 := by rw [← hseg, List.length_take]; omega
        refine' m_iter (by assumption) (.head _) ?_
        clear S
        intro it h S
        have S0 := S
        refine' m_compGo (by assumption) ?hcell ?hkind2 ?_
        case hcell => decide +kernel
        case hkind2 => rfl
        clear S
        intro Dl C h' tk oL hoL S
        refine' (fun hloop => codeAny_compStart_list hloop (wpAny_pyIter_listiter (l := s2) (i := 0) ⟨_, S.at (.tail _ (.tail _ (.head _))), rfl, rfl⟩ hloop)) ?_
        refine' codeAny_compLoop_tests (fun n s' => ∃ (h : Heap) (tk j nn : Nat) (vsD : List Value), s' = ⟨h, G, D, tk, O⟩ ∧ j ≤ seg.length ∧ n = seg.length - j ∧ 1 + (vsD.length : Int) = addNl ((seg.map (·.1)).take j) 1 ∧ vsD.length ≤ j ∧
          St g C h [] ((Dl, listOf vsD.toArray nn) :: (L, oL) :: (it, iterOf s2 j) :: (s2, listOf (strValues seg).toArray 0) :: (r.own k tA (addNl ((r.cs.map (·.1)).take k) 1) tL ++ [(107, tabObj ps)]))) ?turn2 seg.length ?init2 ?ht2
        case ht2 => intro _; rfl
        case init2 => exact ⟨h', tk, 0, 0, [], rfl, Nat.zero_le _, rfl, rfl, Nat.le_refl _, S⟩
        clear S
        rintro n s' ⟨h2, tk2, j, nn, vsD, rfl, hj, hn, hvs, hvj, S⟩
        rcases Nat.lt_or_ge j seg.length with hlt | hge
        · obtain ⟨c, hc⟩ : ∃ c, seg[j]? = some c := ⟨_, List.getElem?_eq_getElem hlt⟩
          refine' m_next (by assumption) (.there (.there .here)) (.tail _ (.tail _ (.tail _ (.head _)))) (by rw [sv_get, hc]; rfl) ?_
          clear S
          intro h2 S
          dsimp only
          refine' m_assignName ?_
          refine' me_store S rfl ?hx ?hk ?_
          case hx => with_unfolding_all rfl
          case hk => rfl
          clear S
          intro h2 tk2 S
          refine' wpAny_tests_one ?_
          repeat (walk_at "m")
          have htk : (seg.map (·.1)).take (j + 1) = (seg.map (·.1)).take j ++ [c.1] := by
            rw [List.take_add_one, List.getElem?_map, hc]; rfl
          apply m_ifb <;> intro hn1
          · refine' me_local S rfl rfl ?hx ?hk ?hd ?_
            case hx => with_unfolding_all rfl
            case hk => rfl
            case hd => decide +kernel
            refine' m_append S .here (small_fit (by omega)) ?_
            clear S
            intro h2 S
            exact ⟨seg.length - (j + 1), by omega, _, _, j + 1, _, vsD ++ [.str c.1 c.2], rfl, by omega, rfl, by rw [htk, addNl_snoc, if_pos hn1, ← hvs, List.length_append]; simp only [List.length_cons, List.length_nil]; omega, by rw [List.length_append]; simp only [List.length_cons, List.length_nil]; omega, S.low lo_nil⟩
          · exact ⟨seg.length - (j + 1), by omega, _, _, j + 1, _, vsD, rfl, by omega, rfl, by rw [htk, addNl_snoc, if_neg (by rw [hn1]; decide), ← hvs], by omega, S.low lo_nil⟩
        · have hje2 : j = seg.length := by omega
          refine' m_nextEnd (own' := (Dl, listOf vsD.toArray nn) :: (L, oL) :: (s2, listOf (strValues seg).toArray 0) :: (r.own k tA (addNl ((r.cs.map (·.1)).take k) 1) tL ++ [(107, tabObj ps)])) S rfl (.tail _ (.tail _ (.head _))) (.tail _ (.tail _ (.tail _ (.head _)))) (List.getElem?_eq_none (by rw [sv_len]; omega)) ?hs ?hn ?_
          case hs => exact (third_sub S.nd).1
          case hn => exact (third_sub S.nd).2
          clear S
          intro h2 S
          dsimp only
          refine' m_compEnd S0 hoL S ?_
          clear S S0 hoL
          intro h S
          rw [hje2, List.take_of_length_le (by rw [List.length_map]; exact Nat.le_refl _)] at hvs
          repeat (walk_at "m")
          replace S := S.dropN 2
          have hl0 : 0 ≤ 1 + (vsD.length : Int) := by omega
          have hl1 : 1 + (vsD.length : Int) < 100 := by omega
          have hnk1 : nk < 100 := by
            have h1 := readOf_le (cut.map (·.1))
            rw [List.length_map] at h1
            have h2 : cut.length ≤ 24 := by rw [← hcut, List.length_take, List.length_drop]; omega
            rw [← hnk]
            unfold nextOf
            split
            · omega
            · split <;> omega
          generalize hlines : 1 + (vsD.length : Int) = lines at S hvs hl0 hl1
          have e1 : (Str.ofString "fault (").length = 7 := by decide +kernel
          have e3 : (Str.ofString ", line ").length = 7 := by decide +kernel
          have e4 : (Str.ofString ")").length = 1 := by decide +kernel
          have e5 : Str.empty.length = 0 := rfl
          have e6 := figs_len (a := (nk : Int)) (by omega) (by omega)
          have e7 := figs_len hl0 hl1
          with_unfolding_all refine' m_Dict (by assumption) rfl rfl (fun e => nomatch e) (by decide) ?_
          clear S
          intro d h S
          refine' pairTrees_cons_walk ?_
          repeat (walk_at "m")
          refine' pairTrees_cons_walk ?_
          repeat (walk_at "m")
          refine' pairTrees_cons_walk ?_
          repeat (walk_at "m")
          refine' pairTrees_nil_walk ?_
          have eT : Str.empty ++ Str.ofString "fault (" = Str.ofString "fault (" := by decide +kernel
          rw [eT]
          obtain ⟨c1, c2, c3⟩ := turn_law hcs hfk hfl hfN hfF hcut hnk hkd htok
          have hlines2 : lines = addNl ((r.cs.map (·.1)).take nk) 1 := by rw [hvs, ← hseg, List.map_take]
          have htok2 : PyData.strOk token = true := by
            rw [← htok]
            refine readOf_ok _ fun x hx => ?_
            obtain ⟨c, hc, rfl⟩ := List.mem_map.mp hx
            exact hck c hc
          refine ⟨[("token", .str token _), ("net", .str (netText nk lines) _), ("key", .ref l)], h, tk, _, _, rfl, ⟨?_, rfl, ?_, rfl, ?_, rfl, trivial⟩, S.swap, fun h₂ tk₂ od hod S' => ?_⟩
          · simp [PySem.strKind, Value.isStrOf]
          · simp [PySem.strKind, Value.isStrOf]
          · simp [PySem.strKind, Value.isStrOf]
          refine' m_store S' ?hx ?hk ?_
          case hx => with_unfolding_all rfl
          case hk => with_unfolding_all rfl
          clear S S'
          intro h tk S
          exact law_end X T0 KB ok hlen hcs erA erC erX hk hnk1 hl0 hl1 hlines2 c3 htok2 hod (S.low (lo_cons rfl (lo_cons rfl (lo_cons rfl (lo_cons rfl (lo_cons rfl lo_nil)))))) fun h' tk' tA' tL' S' => q h' tk' nk tA' tL' _ _ _ c1 c2 S'
end Mine

namespace Mine

theorem law_rest {w : World} {g : Heap} {p : Program} {loose : List Str} {mg mb : Str → Option Value} {mean : ExcName → Option Value} (X : (hd1.heap_39 w.params).In g) (T0 : Top p loose mean mg mb g)
    (KB : Below callerA g [] g) {h : Heap} {G : Array GenState} {D : Drawn} {tk : Nat} {O : OsState} {L fa : Addr} {r : Rig} (ok : RigOk r) (hlen : r.cs.length ≤ 24) (hcs : ∀ c ∈ r.cs, c.1 ∈ kindsL) (erA : r.cA = L + 1) (erC : r.cC = L + 1 + 1) (erX : r.cL = L + 1 + 1 + 1)
    {t0 tl : Tok} {lS xS fG sA : Addr} {ps : Array Value} (S : St g L h [("_law_give", .ref fG), ("stream", .ref xS), ("script", .ref sA)] (r.own 0 t0 1 tl ++ [(107, tabObj ps), (lS, listOf ([] : List Value).toArray 0)]))
    {Q : Flow → Shared → Prop} {E : Value → Shared → Prop} (q : ∀ h' tk' lo own ps, St g L h' lo own → (107, tabObj ps) ∈ own → Q (.ret (.bool true)) ⟨h', G, D, tk', O⟩) :
    wpAny (model PySem.Challenge.rw_km0063_01.row.prog w) (callerA.deeper (envX "law" lawS L fa (.ref 109) (lawCl L))) (execs (lawB.drop 6) (envX "law" lawS L fa (.ref 109) (lawCl L))) Q E ⟨h, G, D, tk, O⟩ := by
  have T := topRead_of T0
  with_unfolding_all refine' m_execs_cons ?_
  repeat (walk_at "m")
  refine' wpAny_While (codeAny_whileLoop (fun n s' => ∃ (h : Heap) (tk k ov : Nat) (tA tL tp to : Tok) (ps : Array Value), s' = ⟨h, G, D, tk, O⟩ ∧ n = (r.cs.length - k) + (2 - ov) ∧ k ≤ r.cs.length ∧ ov ≤ 2 ∧
    St g L h [("place", .int (k : Nat) tp), ("over", .int (ov : Nat) to)] (r.own k tA (addNl ((r.cs.map (·.1)).take k) 1) tL ++ [(107, tabObj ps)])) ?turn (r.cs.length + 2) ?init)
  case init =>
    have S2 := S.pick (List.Sublist.append (List.Sublist.refl (r.own 0 t0 1 tl)) (List.Sublist.cons₂ (107, tabObj ps) (List.Sublist.cons _ List.Sublist.slnil)))
    exact ⟨h, _, 0, 0, t0, tl, _, _, ps, rfl, rfl, Nat.zero_le _, Nat.zero_le _, S2.low (lo_cons rfl (lo_cons rfl lo_nil))⟩
  clear S
  rintro n s' ⟨h, tk, k, ov, tA, tL, tp, to, ps, rfl, hn, hk, hov, S⟩
  repeat (walk_at "m")
  apply m_if <;> intro hlt
  · dsimp only
    refine wpAny_mono (Q := fun f s' => f = .next ∧ ∃ m, m < n ∧ ∃ (h : Heap) (tk k ov : Nat) (tA tL tp to : Tok) (ps : Array Value), s' = ⟨h, G, D, tk, O⟩ ∧ m = (r.cs.length - k) + (2 - ov) ∧ k ≤ r.cs.length ∧ ov ≤ 2 ∧
      St g L h [("place", .int (k : Nat) tp), ("over", .int (ov : Nat) to)] (r.own k tA (addNl ((r.cs.map (·.1)).take k) 1) tL ++ [(107, tabObj ps)])) ?tr ?tr2 (fun _ _ x => x)
    case tr =>
      refine law_turn X T0 KB ok hlen hcs erA erC erX hk S fun h' tk' k' tA' tL' tp' to' ps' c1 c2 S' => ⟨rfl, ?_⟩
      by_cases hke : k = r.cs.length
      · rw [if_pos hke] at S'
        exact ⟨_, by omega, h', tk', k', ov + 1, tA', tL', tp', to', ps', rfl, rfl, c1, by omega, S'⟩
      · rw [if_neg hke] at S'
        exact ⟨_, by omega, h', tk', k', ov, tA', tL', tp', to', ps', rfl, rfl, c1, hov, S'⟩
    case tr2 =>
      rintro f s2 ⟨rfl, hm⟩
      exact hm
  · repeat (walk_at "m")
    exact q _ _ _ _ ps S (List.mem_append_right _ (.head _))
end Mine

namespace Mine

theorem law_body {w : World} {g : Heap} {p : Program} {loose : List Str} {mg mb : Str → Option Value} {mean : ExcName → Option Value} (X : (hd1.heap_39 w.params).In g) (T0 : Top p loose mean mg mb g)
    (KB : Below callerA g [] g) {h : Heap} {G : Array GenState} {D : Drawn} {tk : Nat} {O : OsState} {L fa sA : Addr} {vs : List Value} {ns : List Int} {oX oC oA : Obj} (hl : g.IsList sA vs.toArray) (hi : IntsAre vs ns) (hcd : CodeHd g 109 107)
    (hoX : oX.data = .cell none) (hoC : oC.data = .cell none) (hoA : oA.data = .cell none)
    (S : St g L h [("script", .ref sA)] [(L + 1 + 1 + 1, oX), (L + 1 + 1, oC), (L + 1, oA), (107, tabObj #[])])
    {Q : Flow → Shared → Prop} {E : Value → Shared → Prop} (q : ∀ h' tk' lo own ps, St g L h' lo own → (107, tabObj ps) ∈ own → Q (.ret (.bool true)) ⟨h', G, D, tk', O⟩) :
    wpAny (model PySem.Challenge.rw_km0063_01.row.prog w) (callerA.deeper (envX "law" lawS L fa (.ref 109) (lawCl L))) (execs lawB (envX "law" lawS L fa (.ref 109) (lawCl L))) Q E ⟨h, G, D, tk, O⟩ := by
  have T := topRead_of T0
  have _kf : (hd1.heap_39 w.params).In g ∧ PySem.Challenge.rw_km0063_01 = PySem.Challenge.rw_km0063_01 := by (k_fill; exact ⟨X, rfl⟩)
  clear _kf
  have hclA : (lawCl L).lookup ("at" : Str) = some (L + 1) := by rfl
  have hclC : (lawCl L).lookup ("cells" : Str) = some (L + 1 + 1) := by rfl
  have hclX : (lawCl L).lookup ("lex" : Str) = some (L + 1 + 1 + 1) := by rfl
  with_unfolding_all refine' m_execs_cons ?_
  repeat (walk_at "m")
  have hdep : (callerA.deeper (envX "law" lawS L fa (.ref 109) (lawCl L))).depth < 400 := by show callerA.depth + 1 < 400; decide
  refine' m_cwK (fnAt_K X S ?hlk) ?hs ?hp ?_
  case hlk => rfl
  case hs => with_unfolding_all rfl
  case hp => with_unfolding_all rfl
  repeat (walk_at "m")
  refine' and_K (fnAt_K X S ?hlk2) ?_
  case hlk2 => rfl
  refine' m_callF ?_
  refine' law_cells X T0 ?hr ?hu ?hh ?hl hi S.gkeep ?_
  case hr => exact Nat.lt_trans hdep (by decide)
  case hu => show callerA.units + 3 < 500; decide
  case hh => rfl
  case hl =>
    obtain ⟨o, ho, r⟩ := hl
    exact ⟨o, S.gkeep _ _ ho, r⟩
  intro lC h' tk' nC cs hk hr hrn hlen hcs
  replace S := S.new hk hrn hr
  dsimp only
  refine' m_storeC' (c := L + 1 + 1) (fun o => [(lC, listOf (strValues cs).toArray nC), (L + 1 + 1 + 1, oX), (L + 1 + 1, o), (L + 1, oA), (107, tabObj #[])]) (by assumption) ?hx ?hk hclC ?hU hoC ?_
  case hU => intro o'; walk_at "at"
  case hx => with_unfolding_all rfl
  case hk => with_unfolding_all rfl
  clear S hoC
  intro h oC hoC S
  repeat (walk_at "m")
  obtain ⟨lA, rfl⟩ : ∃ x, x = l := ⟨l, rfl⟩
  obtain ⟨t0, rfl⟩ : ∃ x, x = t := ⟨t, rfl⟩
  refine' m_storeC' (c := L + 1) (fun o => [(lA, listOf [.int 0 t0].toArray 0), (lC, listOf (strValues cs).toArray nC), (L + 1 + 1 + 1, oX), (L + 1 + 1, oC), (L + 1, o), (107, tabObj #[])]) (by assumption) ?hx ?hk hclA ?hU hoA ?_
  case hU => intro o'; walk_at "at"
  case hx => with_unfolding_all rfl
  case hk => with_unfolding_all rfl
  clear S hoA
  intro h oA hoA S
  repeat (walk_at "m")
  refine' m_cwCls (by assumption) X ?hk3 ?hs ?hp ?_
  case hk3 => k_is
  case hs => with_unfolding_all rfl
  case hp => with_unfolding_all rfl
  repeat (walk_at "m")
  refine' and_K (S.hasK X) ?_
  refine' m_newInst (by assumption) X ?hm ?hi ?hf ?_
  case hm => k_is
  case hi => k_is
  case hf => k_is
  clear S
  intro xS dS h S
  have hsub2 : ∀ p ∈ [(xS, instObj 87 dS), (dS, dictOf [] 0)], p ∈ (xS, instObj 87 dS) :: (dS, dictOf [] 0) :: ([(lA, listOf [.int 0 t0].toArray 0), (lC, listOf (strValues cs).toArray nC), (L + 1 + 1 + 1, oX), (L + 1 + 1, oC), (L + 1, oA), (107, tabObj #[])]) := fun p hp => by rcases List.mem_cons.mp hp with rfl | hp; exact .head _; rcases List.mem_singleton.mp hp with rfl; exact .tail _ (.head _)
  refine' lex_init X T0 (depth_type2 hdep) (fun p hp => S.at (a := p.1) (o := p.2) (hsub2 p hp)) (S.apart (.head _)) (S.stays KB.stays hsub2) ?_
  intro h' tk' a1 a2 a3 a4 al aw lS hk2 hd2 hl2 hl3
  have S' := S.afterNew (own1 := (xS, instObj 87 dS) :: (dS, dictOf (lexEs w a1 a2 a3 a4 1 al .none aw lS) 4) :: ([(lA, listOf [.int 0 t0].toArray 0), (lC, listOf (strValues cs).toArray nC), (L + 1 + 1 + 1, oX), (L + 1 + 1, oC), (L + 1, oA), (107, tabObj #[])])) (new := [(lS, listOf ([] : List Value).toArray 0)]) hk2 (fun b hb => by rcases List.mem_singleton.mp hb with rfl; exact .tail _ (.head _)) (by
    intro p hp
    rcases List.mem_cons.mp hp with rfl | hp
    · exact hk2 _ _ (S.at (.head _)) (fun z => S.apart (.head _) (List.mem_singleton.mp z))
    · rcases List.mem_cons.mp hp with rfl | hp
      · exact hd2
      · exact hk2 _ _ (S.at (.tail _ (.tail _ hp))) (fun z => (S.pick (.cons _ (List.Sublist.refl _))).apart (b := p.1) (o' := p.2) hp (List.mem_singleton.mp z).symm)) rfl (fun p hp => by rcases List.mem_singleton.mp hp with rfl; exact ⟨hl2, hl3⟩) (by simp)
  clear S hsub2
  have S : St g L h' [("script", .ref sA)] ((lS, listOf ([] : List Value).toArray 0) :: (xS, instObj 87 dS) :: (dS, dictOf (lexEs w a1 a2 a3 a4 1 al .none aw lS) 4) :: ([(lA, listOf [.int 0 t0].toArray 0), (lC, listOf (strValues cs).toArray nC), (L + 1 + 1 + 1, oX), (L + 1 + 1, oC), (L + 1, oA), (107, tabObj #[])])) := S'
  clear S' hk2 hd2 hl2 hl3
  refine ⟨rfl, ?_⟩
  dsimp only
  repeat (walk_at "m")
  refine' m_cwCls (by assumption) X ?hk3 ?hs ?hp ?_
  case hk3 => k_is
  case hs => with_unfolding_all rfl
  case hp => with_unfolding_all rfl
  repeat (walk_at "m")
  refine' and_K (S.hasK X) ?_
  refine' m_newInst (by assumption) X ?hm ?hi ?hf ?_
  case hm => k_is
  case hi => k_is
  case hf => k_is
  clear S
  intro xL dL h S
  have hsub2 : ∀ p ∈ [(xL, instObj 87 dL), (dL, dictOf [] 0)], p ∈ (xL, instObj 87 dL) :: (dL, dictOf [] 0) :: ((lS, listOf ([] : List Value).toArray 0) :: (xS, instObj 87 dS) :: (dS, dictOf (lexEs w a1 a2 a3 a4 1 al .none aw lS) 4) :: [(lA, listOf [.int 0 t0].toArray 0), (lC, listOf (strValues cs).toArray nC), (L + 1 + 1 + 1, oX), (L + 1 + 1, oC), (L + 1, oA), (107, tabObj #[])]) := fun p hp => by rcases List.mem_cons.mp hp with rfl | hp; exact .head _; rcases List.mem_singleton.mp hp with rfl; exact .tail _ (.head _)
  refine' lex_init X T0 (depth_type2 hdep) (fun p hp => S.at (a := p.1) (o := p.2) (hsub2 p hp)) (S.apart (.head _)) (S.stays KB.stays hsub2) ?_
  intro h' tk' c1 c2 c3 c4 cl cw lP hk2 hd2 hl2 hl3
  have S' := S.afterNew (own1 := (xL, instObj 87 dL) :: (dL, dictOf (lexEs w c1 c2 c3 c4 1 cl (.ref xS) cw lP) 4) :: ((lS, listOf ([] : List Value).toArray 0) :: (xS, instObj 87 dS) :: (dS, dictOf (lexEs w a1 a2 a3 a4 1 al .none aw lS) 4) :: [(lA, listOf [.int 0 t0].toArray 0), (lC, listOf (strValues cs).toArray nC), (L + 1 + 1 + 1, oX), (L + 1 + 1, oC), (L + 1, oA), (107, tabObj #[])])) (new := [(lP, listOf ([] : List Value).toArray 0)]) hk2 (fun b hb => by rcases List.mem_singleton.mp hb with rfl; exact .tail _ (.head _)) (by
    intro p hp
    rcases List.mem_cons.mp hp with rfl | hp
    · exact hk2 _ _ (S.at (.head _)) (fun z => S.apart (.head _) (List.mem_singleton.mp z))
    · rcases List.mem_cons.mp hp with rfl | hp
      · exact hd2
      · exact hk2 _ _ (S.at (.tail _ (.tail _ hp))) (fun z => (S.pick (.cons _ (List.Sublist.refl _))).apart (b := p.1) (o' := p.2) hp (List.mem_singleton.mp z).symm)) rfl (fun p hp => by rcases List.mem_singleton.mp hp with rfl; exact ⟨hl2, hl3⟩) (by simp)
  clear S hsub2
  have S : St g L h' [("stream", .ref xS), ("script", .ref sA)] ((lP, listOf ([] : List Value).toArray 0) :: (xL, instObj 87 dL) :: (dL, dictOf (lexEs w c1 c2 c3 c4 1 cl (.ref xS) cw lP) 4) :: ((lS, listOf ([] : List Value).toArray 0) :: (xS, instObj 87 dS) :: (dS, dictOf (lexEs w a1 a2 a3 a4 1 al .none aw lS) 4) :: [(lA, listOf [.int 0 t0].toArray 0), (lC, listOf (strValues cs).toArray nC), (L + 1 + 1 + 1, oX), (L + 1 + 1, oC), (L + 1, oA), (107, tabObj #[])])) := S'
  clear S' hk2 hd2 hl2 hl3
  refine ⟨rfl, ?_⟩
  dsimp only
  refine' m_storeC' (c := L + 1 + 1 + 1) (fun o => (lP, listOf ([] : List Value).toArray 0) :: (xL, instObj 87 dL) :: (dL, dictOf (lexEs w c1 c2 c3 c4 1 cl (.ref xS) cw lP) 4) :: (lS, listOf ([] : List Value).toArray 0) :: (xS, instObj 87 dS) :: (dS, dictOf (lexEs w a1 a2 a3 a4 1 al .none aw lS) 4) :: [(lA, listOf [.int 0 t0].toArray 0), (lC, listOf (strValues cs).toArray nC), (L + 1 + 1 + 1, o), (L + 1 + 1, oC), (L + 1, oA), (107, tabObj #[])]) (by assumption) ?hx ?hk hclX ?hU hoX ?_
  case hU => intro o'; walk_at "at"
  case hx => with_unfolding_all rfl
  case hk => with_unfolding_all rfl
  clear S hoX
  intro h oX hoX S
  repeat (walk_at "m")
  replace S := S.perm (own' := (107, tabObj #[]) :: (lP, listOf ([] : List Value).toArray 0) :: (xL, instObj 87 dL) :: (dL, dictOf (lexEs w c1 c2 c3 c4 1 cl (.ref xS) cw lP) 4) :: (lS, listOf ([] : List Value).toArray 0) :: (xS, instObj 87 dS) :: (dS, dictOf (lexEs w a1 a2 a3 a4 1 al .none aw lS) 4) :: [(lA, listOf [.int 0 t0].toArray 0), (lC, listOf (strValues cs).toArray nC), (L + 1 + 1 + 1, oX), (L + 1 + 1, oC), (L + 1, oA)]) (List.perm_append_comm (l₁ := (lP, listOf ([] : List Value).toArray 0) :: (xL, instObj 87 dL) :: (dL, dictOf (lexEs w c1 c2 c3 c4 1 cl (.ref xS) cw lP) 4) :: (lS, listOf ([] : List Value).toArray 0) :: (xS, instObj 87 dS) :: (dS, dictOf (lexEs w a1 a2 a3 a4 1 al .none aw lS) 4) :: [(lA, listOf [.int 0 t0].toArray 0), (lC, listOf (strValues cs).toArray nC), (L + 1 + 1 + 1, oX), (L + 1 + 1, oC), (L + 1, oA)]) (l₂ := [(107, tabObj #[])]))
  refine' nestDef_K rfl rfl rfl ?_
  refine' m_nest (by assumption) T0 hcd rfl ?ht ?hnf ?hcl ?_
  case ht => trivial
  case hnf => rfl
  case hcl => rfl
  clear S
  intro fG cG oc vsc tc ctv doc ps pm h tk S hocd hocv
  repeat (walk_at "m")
  refine' m_setOwn (by assumption) X ?hx ?U ?hs ?hp ?ht ?hh ?hl ?hz ?_
  case hx => walk_at "mem"
  case U => walk_at "at"
  case hs => k_is
  case hp => k_is
  case ht => k_is
  case hh => k_is
  case hl => rfl
  case hz => exact Nat.le_of_ble_eq_true rfl
  clear S
  intro h tk5 S
  replace S := S.first (pre := [_]) rfl
  replace S := S.first (pre := [_]) rfl
  replace S := S.first (pre := [_, _, _]) rfl
  replace S := S.first (pre := [_, _, _, _]) rfl
  replace S := S.first (pre := [_, _, _, _, _, _, _, _]) rfl
  replace S := S.first (pre := [_, _, _, _, _, _, _, _]) rfl
  replace S := S.first (pre := [_, _, _, _, _, _, _, _, _, _]) rfl
  replace S := S.first (pre := [_, _, _, _, _, _, _, _, _, _, _]) rfl
  replace S := S.first (pre := [_, _, _, _, _, _, _, _, _, _, _, _]) rfl
  replace S := S.first (pre := [_, _, _, _, _, _, _, _, _, _, _, _, _]) rfl
  replace S := S.first (pre := [_, _, _, _, _, _, _, _, _, _, _]) rfl
  replace S := S.first (pre := [_, _, _, _, _, _, _, _, _, _, _, _, _]) rfl
  have S9 : St g L h [("_law_give", .ref fG), ("stream", .ref xS), ("script", .ref sA)] (Rig.own { lA := lA, cA := L + 1, cC := L + 1 + 1, cL := L + 1 + 1 + 1, lC := lC, xS := xS, dS := dS, xL := xL, dL := dL, lP := lP, fG := fG, cd := cG, cs := cs, nA := 0, nC := nC, nP := 0, nS := 5, nL := 4, oA := oA, oC := oC, oL := oX, oc := oc, esS := _, esL := fun ln tl => lexEs w c1 c2 c3 c4 ln tl (.ref xS) cw lP, doc := doc, pm := pm, ctv := ctv, cl := _ } 0 t0 1 cl ++ [(107, tabObj ps), (lS, listOf ([] : List Value).toArray 0)]) := S
  clear S
  have S10 : ∃ r : Rig, RigOk r ∧ r.cs = cs ∧ r.cA = L + 1 ∧ r.cC = L + 1 + 1 ∧ r.cL = L + 1 + 1 + 1 ∧ St g L h [("_law_give", .ref fG), ("stream", .ref xS), ("script", .ref sA)] (r.own 0 t0 1 cl ++ [(107, tabObj ps), (lS, listOf ([] : List Value).toArray 0)]) := by
    refine ⟨_, ?_, rfl, rfl, rfl, rfl, S9⟩
    exact { a := hoA, c := hoC, l := hoX, cdf := ⟨vsc, tc, hocd, hocv⟩, cla := rfl, clc := rfl, cll := rfl, ln := fun _ _ => rfl, ins := fun _ _ => rfl, psh := fun _ _ => rfl, wsp := ⟨cw, fun _ _ => rfl⟩, rc := fun _ _ => rfl, gt := fun _ _ => rfl, rd := rfl, put := fun _ _ _ _ _ _ => rfl, putn := fun _ _ => rfl, esz := fun _ _ => Nat.le_of_ble_eq_true rfl, ne := fun c hc => kinds_ne _ (hcs c hc), len := Nat.le_trans hlen (by decide), str := fun c hc => kinds_ok _ (hcs c hc) }
  clear S9
  obtain ⟨r, ok, ercs, erA, erC, erX, S⟩ := S10
  subst ercs
  dsimp only
  exact law_rest X T0 KB ok hlen hcs erA erC erX S q
end Mine

theorem Mine.lo_fn {m : Str → Option Value} {y : Str} {u : Value} (e : m y = some u) : ∀ x v, [(y, u)].lookup x = some v → m x = some v := fun x v q => by
  rw [List.lookup_cons] at q
  by_cases z : x = y
  · subst z
    have : v = u := by simpa using q.symm
    rw [this]; exact e
  · have : (x == y) = false := by simpa using z
    rw [this] at q
    cases q
theorem PySem.Challenge.cw_km0063_01_holds : PySem.Challenge.rw_km0063_01.Holds := by
  exact Mine.hd1 (by
  w_on
  w_strict (
  k_go0;
  rename_i hI hrA hc1 hc2 hD h1 tk1 oX oC oA hoX hoC hoA X0 X1 T1 K1 F1 N1 l0;
  refine Mine.law_body X1 T1 K1 lifted hI codeHd (hoX.trans (by with_unfolding_all rfl)) (hoC.trans (by with_unfolding_all rfl)) (hoA.trans (by with_unfolding_all rfl)) ⟨⟨_, F1, ?hlo⟩, N1, ?hnd⟩ ?hq
  case hlo => 
    exact Mine.lo_fn (by with_unfolding_all rfl)
  case hnd =>
    simp only [List.map_cons, List.map_nil, List.nodup_cons, List.mem_cons, List.not_mem_nil, List.nodup_nil, not_or]
    refine ⟨⟨?_, ?_, ?_, not_false⟩, ⟨?_, ?_, not_false⟩, ⟨?_, not_false⟩, not_false, trivial⟩ <;> (show (_ : Nat) ≠ _; omega)
  case hq =>
    intro h' tk' lo own ps S hm
    refine ⟨?_, ⟨ps, (S.nw _ hm).1⟩, trivial⟩
    obtain ⟨m, F, _⟩ := S.fr
    kc_bool
    refine goodW_bool F (by assumption) (raisesW_false ?_) ?_
    · wrow_none_raised
    · kc_post))
