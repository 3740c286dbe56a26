import PyProof.Rows.All
import Wide.All
import OpenK.AllK
import Wide.FinOn
import PyProof.InstStoreFacts
import PyProof.ExcAttrAll.Exception
import PyProof.FactsTree
import PyProof.RulesRaise
import PyProof.NoPylong
import PyProof.FString5
import PyProof.DictTable
import PyProof.Rows.CatchOwn
import PyProof.Rows.CatchBare
import PyProof.DictRoads
import KE.KCallOwn
import PyProof.SliceStr2
import PyProof.StrBlockH
import PyProof.Rows.StrClose5
import PyProof.Rows.StrOver
import PyProof.Rows.StrCountLaw
import PyProof.Rows.StrInSeq
import PyProof.StrCalls6
import PyProof.StrCalls5
import PyProof.StrWalks
import KE.KPop
import PyProof.Cells
import KE.KEqDict
import PyProof.NeKinds
import KE.KItemsList
import KE.KxPercent
import KE.KMulAny
import PyProof.ExcArgsOwn
import PyProof.CompUse
import Lean
import PySem.Challenge.RW_km0063_02
open PySem PySem.W PySem.Spec PySem.Calls PyProof.Rows
set_option Elab.async false
set_option maxRecDepth 100000
set_option maxHeartbeats 8000000
set_option hygiene false in
local macro_rules | `(tactic| walk_at "lk") => `(tactic| first | exact lk_hit | (refine' lk_miss (by decide +kernel) ?_; walk_at "lk"))
set_option hygiene false in
local macro_rules | `(tactic| walk_at "mem") => `(tactic| first | exact List.Mem.head _ | (refine' List.Mem.tail _ ?_; walk_at "mem"))
set_option hygiene false in
local macro_rules | `(tactic| walk_at "at") => `(tactic| first | exact At.here | (apply At.there; walk_at "at"))
set_option hygiene false in
local macro_rules | `(tactic| walk_at "sz") => `(tactic| ((try simp only [sv_len, List.length_cons, List.length_nil, List.length_append, List.length_drop, List.length_take, List.length_map]); (have szE := sizeLine_eq); first | omega | (exact Nat.le_of_ble_eq_true rfl)))
set_option hygiene false in
local macro_rules | `(tactic| walk_at "m1") => `(tactic| with_reducible first
  | refine' m_execs_cons ?_
  | refine' wpAny_execs_nil ?_
  | refine' m_ift ?_
  | refine' m_iff ?_
  | (refine' m_Assign_Name ?hs ?_; (case hs => with_unfolding_all rfl))
  | (refine' m_store (by assumption) ?hx ?hk ?_; (case hx => with_unfolding_all rfl); (case hk => with_unfolding_all rfl); clear S; intro h tk S)
  | (refine' m_local (by assumption) ?hv ?hx ?hk ?hd ?_; (case hv => walk_at "lk"); (case hx => with_unfolding_all rfl); (case hk => with_unfolding_all rfl); (case hd => decide +kernel))
  | (refine' m_free (by assumption) ?hx ?hk ?hd ?hn ?hc ?hm ?ho ?_; (case hx => with_unfolding_all rfl); (case hk => with_unfolding_all rfl); (case hd => decide +kernel); (case hn => decide +kernel); (case hc => assumption); (case hm => k_dflt (walk_at "mem")); (case ho => assumption))
  | (refine' m_cell (by assumption) ?hx ?hk ?hd ?hc ?hm ?ho ?_; (case hx => with_unfolding_all rfl); (case hk => with_unfolding_all rfl); (case hd => decide +kernel); (case hc => assumption); (case hm => k_dflt (walk_at "mem")); (case ho => assumption))
  | (refine' m_int ?_; intro t tk)
  | (refine' m_str ?_; intro t tk)
  | refine' m_none ?_
  | (refine' m_blt (by assumption) ?hx ?hk ?hd ?hn ?X ?T ?e ?hv ?_; (case hx => with_unfolding_all rfl); (case hk => with_unfolding_all rfl); (case hd => decide +kernel); (case hn => decide +kernel); (case X => assumption); (case T => assumption); (case e => k_is); (case hv => boot_fast))
  | (refine' m_glob (by assumption) ?hx ?hk ?hd ?X ?T ?e ?_; (case hx => with_unfolding_all rfl); (case hk => with_unfolding_all rfl); (case hd => decide +kernel); (case X => assumption); (case T => assumption); (case e => k_is))
  | refine' wpAny_If ?_
  | (refine' m_isTrue_Compare ?hb ?_; (case hb => with_unfolding_all rfl))
  | (refine' m_Compare ?hb ?_; (case hb => with_unfolding_all rfl))
  | refine' wpAny_BinOp ?_
  | refine' wpAny_AugAssign_Name ?_
  | (refine' m_load (by assumption) ?hv ?hx ?hk ?_; (case hv => walk_at "lk"); (case hx => with_unfolding_all rfl); (case hk => with_unfolding_all rfl))
  | (refine' m_Expr ?hi ?hs ?_; (case hi => with_unfolding_all rfl); (case hs => with_unfolding_all rfl))
  | refine' wpAny_Return_some ?_
  | (refine' m_Method ?hc ?_; (case hc => with_unfolding_all rfl))
  | (refine' m_Call ?hc ?_; (case hc => with_unfolding_all rfl))
  | (refine' m_cw_builtin ?hs ?hp ?_; (case hs => with_unfolding_all rfl); (case hp => with_unfolding_all rfl))
  | (refine' m_cw_type ?hs ?hp ?_; (case hs => with_unfolding_all rfl); (case hp => with_unfolding_all rfl))
  | (refine' m_Assign_Attr ?hs ?_; (case hs => with_unfolding_all rfl))
  | refine' m_AugAttr ?_
  | refine' m_JoinedStr ?_
  | (refine' m_joinCons ?he ?_; (case he => with_unfolding_all rfl))
  | (refine' m_joinNil ?he ?hz ?_; (case he => with_unfolding_all rfl); (case hz => k_dflt (walk_at "fits")); intro t tk)
  | refine' m_FVs ?_
  | (refine' m_convStr ?hz ?_; (case hz => k_dflt (walk_at "fits")); intro t tk)
  | (refine' m_convInt ?ha ?_; (case ha => k_dflt (exact log_small (by omega) (by omega))); intro t tk)
  | (refine' m_fmtStr ?hz ?_; (case hz => k_dflt (walk_at "fits")); intro t tk)
  | (refine' m_Attr ?he ?_; (case he => with_unfolding_all rfl))
  | (refine' m_cw_method1 ?hs ?hp ?_; (case hs => with_unfolding_all rfl); (case hp => with_unfolding_all rfl))
  | (refine' m_spliced_cons ?hs ?_; (case hs => with_unfolding_all rfl))
  | refine' spliced_none ?_
  | refine' List_ ?_
  | refine' Tuple_ ?_
  | (refine' m_newList (by assumption) ?hz ?_; (case hz => exact Nat.le_of_ble_eq_true rfl); clear S; intro l h S)
  | (refine' m_newTuple (by assumption) ?hz ?_; (case hz => exact Nat.le_of_ble_eq_true rfl); clear S; intro l h S)
  | refine' Subscript_ ?_
  | refine' m_evalPart_some ?_
  | refine' m_evalPart_none ?_
  | refine' IfExp_ ?_
  | (refine' m_add ?_; intro t tk)
  | (refine' m_iadd ?_; intro t tk)
  | (refine' m_abs ?_; intro t tk)
  | refine' m_lt ?_
  | refine' m_eq ?_
  | refine' m_eqs ?_
  | refine' m_ins ?_
  | refine' m_truthb ?_
  | (refine' m_len (by assumption) ?hm ?hz ?_; (case hm => k_dflt (walk_at "mem")); (case hz => k_dflt (walk_at "sz")); intro t tk)
  | (refine' m_addLists (by assumption) ?hl ?hb ?hz ?_; (case hl => k_dflt (walk_at "mem")); (case hb => k_dflt (walk_at "mem")); (case hz => k_dflt (walk_at "sz")); clear S; intro ls h S)
  | (refine' m_lenStr ?hz ?_; (case hz => k_dflt (walk_at "sz")); intro t tk)
  | (refine' m_append (by assumption) ?U ?hz ?_; (case U => k_dflt (walk_at "at")); (case hz => k_dflt (walk_at "sz")); clear S; intro h S)
  | (refine' m_iadds ?hz ?_; (case hz => k_dflt (walk_at "sz")); intro t tk)
  | (refine' m_iter (by assumption) ?hm ?_; (case hm => k_dflt (walk_at "mem")); clear S; intro it h S)
  | refine' m_sliceP ?_
  | (refine' m_newSlice (by assumption) ?_; clear S; intro sl h S)
  | (refine' m_getAppend (by assumption) ?hm ?_; (case hm => k_dflt (walk_at "mem")))
  | refine' m_assignName ?_
  | refine' m_inOrder ?_
  | refine' m_inOrder0 ?_
  | (refine' me_local (by assumption) ?hC ?hv ?hx ?hk ?hd ?_; (case hC => with_unfolding_all rfl); (case hv => walk_at "lk"); (case hx => with_unfolding_all rfl); (case hk => with_unfolding_all rfl); (case hd => decide +kernel))
  | (refine' me_cell (by assumption) ?hx ?hk ?hd ?hc ?hm ?ho ?_; (case hx => with_unfolding_all rfl); (case hk => with_unfolding_all rfl); (case hd => decide +kernel); (case hc => with_unfolding_all rfl); (case hm => k_dflt (walk_at "mem")); (case ho => assumption))
  | refine' bindName_ ?_
  | refine' wpAny_Continue ?_
  | refine' wpAny_Break ?_
  | refine' isTrue_and ?_
  | refine' isTrue_and_nil ?_
  | (refine' m_Assign_Tuple ?hs ?hw ?_; (case hs => with_unfolding_all rfl); (case hw => with_unfolding_all rfl))
  | refine' m_nes ?_
  | (refine' m_litT (b := (Str.ofString _ == Str.ofString _)) ?hb ?_; (case hb => decide +kernel))
  | (refine' m_litF (b := (Str.ofString _ == Str.ofString _)) ?hb ?_; (case hb => decide +kernel))
  | (refine' m_litT (b := (Str.ofString _ != Str.ofString _)) ?hb ?_; (case hb => decide +kernel))
  | (refine' m_litF (b := (Str.ofString _ != Str.ofString _)) ?hb ?_; (case hb => decide +kernel))
  | refine' isTrue_or ?_
  | refine' isTrue_or_nil ?_
  | (refine' m_adds ?hz ?_; (case hz => k_dflt (first | walk_at "sz" | walk_at "fits")); intro t tk)
  | (refine' m_Assign_Sub ?hs ?_; (case hs => with_unfolding_all rfl))
  | (refine' m_DictL (by assumption) ?_; clear S; intro d h hdL S)
  | (refine' m_isTrue_plain ?hp ?_; (case hp => with_unfolding_all rfl)))
set_option hygiene false in
local macro_rules | `(tactic| walk_at "m") => `(tactic| first | walk_at "m1" | (dsimp only; walk_at "m1") | (dsimp only; refine' and_K ?hz ?_; (case hz => walk_at "fits")))
set_option hygiene false in
local macro_rules | `(tactic| walk_at "fits") => `(tactic| exact tot_ok (by (try simp only [Str.length_append]); omega))
set_option hygiene false in
local macro_rules | `(tactic| walk_at "sub") => `(tactic| first | exact List.Sublist.refl _ | (refine' List.Sublist.cons₂ _ ?_; walk_at "sub") | (refine' List.Sublist.cons _ ?_; walk_at "sub"))
set_option hygiene false in
local macro_rules | `(tactic| walk_at "gt") => `(tactic| ((refine' m_methInst S X ?hx ?hd ?hg2 ?hf ?ht ?hl ?_); (case hx => walk_at "mem"); (case hd => walk_at "mem"); (case hg2 => k_is); (case hf => k_is); (case ht => k_is); (case hl => exact ok.gt _ _); (refine' m_cwK0 (fnAt_K X S ?hlk) ?_); (case hlk => rfl)))
namespace Mine
open PySem PySem.W PyProof.Rows
open_top hd2 for PySem.Challenge.rw_km0063_02
end Mine

namespace Mine
open PySem PySem.W PySem.Spec PySem.Calls PyProof.Rows

/-- what is known of the frame at hand and of the objects that the call may turn -/
structure St (g : Heap) (L : Addr) (h : Heap) (lo : List (Str × Value)) (own : List (Addr × Obj)) : Prop where
  fr : ∃ m, Fr g L h m ∧ ∀ x v, lo.lookup x = some v → m x = some v
  nw : News g L h own
  nd : (own.map (·.1)).Nodup

inductive At (a : Addr) (o o' : Obj) : List (Addr × Obj) → List (Addr × Obj) → Prop
  | here {r} : At a o o' ((a, o) :: r) ((a, o') :: r)
  | there {p r r'} : At a o o' r r' → At a o o' (p :: r) (p :: r')

theorem At.keys {a : Addr} {o o' : Obj} {l l' : List (Addr × Obj)} (U : At a o o' l l') : l'.map (·.1) = l.map (·.1) := by
  induction U with
  | here => rfl
  | there _ ih => simp only [List.map_cons, ih]
theorem At.mem {a : Addr} {o o' : Obj} {l l' : List (Addr × Obj)} (U : At a o o' l l') : (a, o) ∈ l := by
  induction U with
  | here => exact .head _
  | there _ ih => exact .tail _ ih
theorem At.split {a : Addr} {o o' : Obj} {l l' : List (Addr × Obj)} (U : At a o o' l l') (nd : (l.map (·.1)).Nodup) : ∀ p ∈ l', p = (a, o') ∨ (p ∈ l ∧ p.1 ≠ a) := by
  induction U with
  | @here r =>
    intro p hp
    rcases List.mem_cons.mp hp with rfl | hp
    · exact .inl rfl
    · refine .inr ⟨.tail _ hp, fun e => ?_⟩
      rw [List.map_cons, List.nodup_cons] at nd
      have z := List.mem_map_of_mem (f := (·.1)) hp
      exact nd.1 (e ▸ z)
  | @there q r r' U ih =>
    intro p hp
    rw [List.map_cons, List.nodup_cons] at nd
    rcases List.mem_cons.mp hp with rfl | hp
    · refine .inr ⟨.head _, fun e => nd.1 ?_⟩
      rw [e]; exact List.mem_map_of_mem U.mem
    · rcases ih nd.2 p hp with e | ⟨m, ne⟩
      · exact .inl e
      · exact .inr ⟨.tail _ m, ne⟩

section
variable {g h h' : Heap} {L a : Addr} {lo : List (Str × Value)} {own own' : List (Addr × Obj)} {o o' : Obj}

theorem St.at (S : St g L h lo own) (hm : (a, o) ∈ own) : h.get? a = some o := (S.nw _ hm).1
theorem St.ltL (S : St g L h lo own) : L < h.objs.size := by
  obtain ⟨m, F, _⟩ := S.fr
  exact F.ns.lt
theorem St.gkeep (S : St g L h lo own) : ∀ b ob, g.get? b = some ob → h.get? b = some ob := by
  obtain ⟨m, F, _⟩ := S.fr
  exact F.keep
theorem St.upd (S : St g L h lo own) (U : At a o o' own own') (hs : Heap.ExtBut a h h') (ho : h'.get? a = some o') : St g L h' lo own' := by
  obtain ⟨m, F, hl⟩ := S.fr
  obtain ⟨h1, h2, h3⟩ := S.nw _ U.mem
  refine ⟨⟨m, ⟨F.ns.extBut hs (Ne.symm h2), fun b ob e => hs b ob (fun q => ?_) (F.keep b ob e), F.above⟩, hl⟩, fun p hp => ?_, U.keys ▸ S.nd⟩
  · rw [q, h3] at e; cases e
  · rcases U.split S.nd p hp with rfl | ⟨m, ne⟩
    · exact ⟨ho, h2, h3⟩
    · have z := S.nw _ m
      exact ⟨hs _ _ ne z.1, z.2⟩
theorem St.keeps (S : St g L h lo own) (k : ∀ b ob, h.get? b = some ob → h'.get? b = some ob) : St g L h' lo own := by
  obtain ⟨m, F, hl⟩ := S.fr
  exact ⟨⟨m, F.keeps k, hl⟩, fun p hp => ⟨k _ _ (S.nw p hp).1, (S.nw p hp).2⟩, S.nd⟩
theorem St.gnone (S : St g L h lo own) (hn : h.get? a = none) : g.get? a = none := by
  cases q : g.get? a with
  | none => rfl
  | some ob => have := S.gkeep _ _ q; rw [hn] at this; cases this
theorem St.new (S : St g L h lo own) (k : ∀ b ob, h.get? b = some ob → h'.get? b = some ob) (hn : h.get? a = none) (ho : h'.get? a = some o) : St g L h' lo ((a, o) :: own) := by
  obtain ⟨m, F, hl⟩ := S.fr
  refine ⟨⟨m, F.keeps k, hl⟩, fun p hp => ?_, ?_⟩
  · rcases List.mem_cons.mp hp with rfl | hp
    · refine ⟨ho, fun e => ?_, S.gnone hn⟩
      obtain ⟨oL, _, _, hL, _⟩ := F.ns
      dsimp only at e
      rw [← e, hn] at hL; cases hL
    · exact ⟨k _ _ (S.nw p hp).1, (S.nw p hp).2⟩
  · rw [List.map_cons, List.nodup_cons]
    refine ⟨fun hm => ?_, S.nd⟩
    obtain ⟨p, hp, e⟩ := List.mem_map.mp hm
    have := (S.nw p hp).1
    dsimp only at e
    rw [e, hn] at this; cases this
theorem St.push (S : St g L h lo own) (hf : o.isFreed = false := by rfl) : St g L (h.push o) lo ((h.objs.size, o) :: own) :=
  S.new (fun _ _ e => Heap.get?_push_of_some _ e) (Heap.get?_none_of_le (Nat.le_refl _)) (Heap.get?_push_size _ hf)
theorem St.set (S : St g L h lo own) {x : Str} {v : Value} {h' : Heap} {m : Str → Option Value} (hm : ∀ y v, lo.lookup y = some v → m y = some v)
    (hn : h'.Ns L (fun y => if y = x then some v else m y)) (hs : Heap.SameBut L h h') : St g L h' ((x, v) :: lo) own := by
  obtain ⟨m', F, _⟩ := S.fr
  refine ⟨⟨_, F.set hn hs, fun y u e => ?_⟩, S.nw.set hs, S.nd⟩
  rw [List.lookup_cons] at e
  by_cases q : y = x
  · subst q
    rw [if_pos rfl]
    simpa using e
  · rw [if_neg q]
    have : (y == x) = false := by simpa using q
    rw [this] at e
    exact hm y u e
theorem St.low (S : St g L h lo own) {lo' : List (Str × Value)} (hl : ∀ x v, lo'.lookup x = some v → lo.lookup x = some v) : St g L h lo' own := by
  obtain ⟨m, F, q⟩ := S.fr
  exact ⟨⟨m, F, fun x v e => q x v (hl x v e)⟩, S.nw, S.nd⟩
theorem St.sub (S : St g L h lo own) (hm : ∀ p ∈ own', p ∈ own) (hn : (own'.map (·.1)).Nodup) : St g L h lo own' := ⟨S.fr, fun p hp => S.nw p (hm p hp), hn⟩
theorem lo_nil {lo : List (Str × Value)} : ∀ x v, ([] : List (Str × Value)).lookup x = some v → lo.lookup x = some v := fun _ _ e => by cases e
theorem lo_cons {lo r : List (Str × Value)} {y : Str} {u : Value} (e : lo.lookup y = some u) (hr : ∀ x v, r.lookup x = some v → lo.lookup x = some v) :
    ∀ x v, ((y, u) :: r).lookup x = some v → lo.lookup x = some v := fun x v q => by
  rw [List.lookup_cons] at q
  by_cases z : x = y
  · subst z
    have : v = u := by simpa using q.symm
    rw [this]; exact e
  · have : (x == y) = false := by simpa using z
    rw [this] at q
    exact hr x v q
end
end Mine

namespace Mine
open PySem PySem.W PySem.Spec PySem.Calls PyProof.Rows

abbrev tupOf (vs : List Value) : Obj := { cls := .type "tuple", data := .seq vs.toArray }
abbrev sliceOf (l u s : Value) : Obj := { cls := .type "slice", data := .fields #[l, u, s] }

section names
variable {M : Model} {A : Around} {E : Value → Shared → Prop} {g h : Heap} {L a : Addr} {lo : List (Str × Value)} {own : List (Addr × Obj)} {G : Array GenState} {D : Drawn} {tk : Nat} {O : OsState}
  {K : Frag} {mg mb : Str → Option Value} {p : Program} {loose : List Str} {cn : Str} {cs : Scope} {ccd : Value} {cl : List (Str × Addr)} {x : Str} {pos : Pos} {v : Value} {c : Addr} {o : Obj}

theorem m_local {Q : Value → Shared → Prop} (S : St g L h lo own) (hv : lo.lookup x = some v) (hx : (envX cn cs L a ccd cl).kindOf x = some .local) (hk : cs.kind = .function) (hd : (x == ("__debug__" : Str)) = false)
    (q : Q v ⟨h, G, D, tk, O⟩) : wpAny M A (eval (.Name x pos) (envX cn cs L a ccd cl)) Q E ⟨h, G, D, tk, O⟩ := by
  obtain ⟨m, F, hl⟩ := S.fr
  exact wpAny_Name (wpAny_loadName_local hk hx F.ns (hl _ _ hv) q) hd
theorem m_load {Q : Value → Shared → Prop} (S : St g L h lo own) (hv : lo.lookup x = some v) (hx : (envX cn cs L a ccd cl).kindOf x = some .local) (hk : cs.kind = .function)
    (q : Q v ⟨h, G, D, tk, O⟩) : wpAny M A (loadName (envX cn cs L a ccd cl) x) Q E ⟨h, G, D, tk, O⟩ := by
  obtain ⟨m, F, hl⟩ := S.fr
  exact wpAny_loadName_local hk hx F.ns (hl _ _ hv) q
theorem m_cell {Q : Value → Shared → Prop} (S : St g L h lo own) (hx : (envX cn cs L a ccd cl).kindOf x = some .cell) (hk : cs.kind = .function) (hd : (x == ("__debug__" : Str)) = false)
    (hc : cl.lookup x = some c) (hm : (c, o) ∈ own) (ho : o.data = .cell (some v))
    (q : Q v ⟨h, G, D, tk, O⟩) : wpAny M A (eval (.Name x pos) (envX cn cs L a ccd cl)) Q E ⟨h, G, D, tk, O⟩ :=
  wpAny_Name (wpAny_loadName_cell hk hx hc ⟨o, S.at hm, ho⟩ q) hd
theorem m_free {Q : Value → Shared → Prop} (S : St g L h lo own) (hx : (envX cn cs L a ccd cl).kindOf x = some .free) (hk : cs.kind = .function) (hd : (x == ("__debug__" : Str)) = false) (hn : (x == ("__classdict__" : Str)) = false)
    (hc : cl.lookup x = some c) (hm : (c, o) ∈ own) (ho : o.data = .cell (some v))
    (q : Q v ⟨h, G, D, tk, O⟩) : wpAny M A (eval (.Name x pos) (envX cn cs L a ccd cl)) Q E ⟨h, G, D, tk, O⟩ :=
  wpAny_Name (wpAny_loadName_free hk hx hc ⟨o, S.at hm, ho⟩ q hn) hd
theorem m_glob {Q : Value → Shared → Prop} (S : St g L h lo own) (hx : (envX cn cs L a ccd cl).kindOf x = some .globalImplicit) (hk : cs.kind = .function) (hd : (x == ("__debug__" : Str)) = false)
    (X : K.In g) (T : TopRead p loose mg mb g) (e : nsIn K mainGlobals x = some (some v))
    (q : Q v ⟨h, G, D, tk, O⟩) : wpAny M A (eval (.Name x pos) (envX cn cs L a ccd cl)) Q E ⟨h, G, D, tk, O⟩ := by
  obtain ⟨m, F, hl⟩ := S.fr
  exact nameX_K F X T e q hk hx hd
theorem m_blt {Q : Value → Shared → Prop} (S : St g L h lo own) (hx : (envX cn cs L a ccd cl).kindOf x = some .globalImplicit) (hk : cs.kind = .function) (hd : (x == ("__debug__" : Str)) = false) (hn : x ≠ "__name__")
    (X : K.In g) (T : TopRead p loose mg mb g) (e : nsIn K mainGlobals x = some none) (hv : bootBuiltins x = some v)
    (q : Q v ⟨h, G, D, tk, O⟩) : wpAny M A (eval (.Name x pos) (envX cn cs L a ccd cl)) Q E ⟨h, G, D, tk, O⟩ := by
  obtain ⟨m, F, hl⟩ := S.fr
  exact nameX_B F X T e hv hn q hk hx hd
theorem m_store {Q : Unit → Shared → Prop} (S : St g L h lo own) (hx : (envX cn cs L a ccd cl).kindOf x = some .local) (hk : cs.kind = .function)
    (q : ∀ h' tk', St g L h' ((x, v) :: lo) own → Q () ⟨h', G, D, tk', O⟩) : wpAny M A (storeName (envX cn cs L a ccd cl) x v) Q E ⟨h, G, D, tk, O⟩ := by
  obtain ⟨m, F, hl⟩ := S.fr
  exact wpAny_storeName_local hx F.ns (fun h' hn hs => q h' _ (S.set hl hn hs)) (by show (cs.kind == .class || (cs.kind == .module && L != mainGlobals)) = false; rw [hk]; rfl)
end names

section syntax_
variable {M : Model} {A : Around} {E : Value → Shared → Prop} {s : Shared} {env : Env}

theorem m_execs_cons {st : Stmt} {rest : List Stmt} {Q : Flow → Shared → Prop}
    (h : wpAny M A (exec st env) (fun f s' => match f with | .next => wpAny M A (execs rest env) Q E s' | f => Q f s') E s) : wpAny M A (execs (st :: rest) env) Q E s := wpAny_execs_cons h
theorem m_Assign_Name {x : Str} {pos' pos : Pos} {value : Expr} {Q : Flow → Shared → Prop} (hs : swapsWith value (some (Expr.Name x pos')) pos.line env = pure false)
    (h : wpAny M A (eval value env) (fun v s₁ => wpAny M A (storeName env x v) (fun _ => Q .next) E s₁) E s) : wpAny M A (exec (.Assign [.Name x pos'] value pos) env) Q E s := wpAny_Assign_Name h hs
theorem m_Assign_Attr {o : Expr} {attr : Str} {pos' pos : Pos} {value : Expr} {Q : Flow → Shared → Prop} (hs : swapsWith value (some (Expr.Attribute o attr pos')) pos.line env = pure false)
    (h : wpAny M A (eval value env) (fun v s₁ => wpAny M A (eval o env) (fun ov s₂ => wpAny M A (setAttr ov attr v) (fun _ => Q .next) E s₂) E s₁) E s) : wpAny M A (exec (.Assign [.Attribute o attr pos'] value pos) env) Q E s :=
  plainObj_wpAny_Assign_Attribute h hs
theorem m_Assign_Sub {o i : Expr} {pos' pos : Pos} {value : Expr} {Q : Flow → Shared → Prop} (hs : swapsWith value (some (Expr.Subscript o i pos')) pos.line env = pure false)
    (h : wpAny M A (eval value env) (fun v s₁ => wpAny M A (eval o env) (fun ov s₂ => wpAny M A (eval i env) (fun iv s₃ => wpAny M A (setItem ov iv v) (fun _ => Q .next) E s₃) E s₂) E s₁) E s) :
    wpAny M A (exec (.Assign [.Subscript o i pos'] value pos) env) Q E s := wpAny_Assign_Subscript h hs
theorem m_Assign_Tuple {elts : List Expr} {k : Nat} {tpos pos : Pos} {value : Expr} {Q : Flow → Shared → Prop} (hs : swapsWithSole [Expr.Tuple elts k tpos] value pos.line env = pure false) (hw : swappedStores [Expr.Tuple elts k tpos] value env = pure none)
    (h : wpAny M A (eval value env) (fun v s₁ => wpAny M A (assign (.Tuple elts k tpos) env v) (fun _ => Q .next) E s₁) E s) : wpAny M A (exec (.Assign [.Tuple elts k tpos] value pos) env) Q E s := Assign_Tuple h hs hw
theorem m_Expr {e : Expr} {pos : Pos} {Q : Flow → Shared → Prop} (hi : interactive env = false) (hs : swapsWith e none pos.line env = pure false)
    (h : wpAny M A (eval e env) (fun v s' => match v with | .ref _ => False | _ => Q .next s') E s) : wpAny M A (exec (.Expr e pos) env) Q E s := wpAny_Expr h hi hs
theorem m_AugSub {o i value : Expr} {pos' pos : Pos} {op : Operator} {Q : Flow → Shared → Prop}
    (hs : ∀ ov iv new : Value, augStore i ov iv new = (do holding [new, ov, iv] (setItem ov iv new); release [new, ov, iv] []; pure Flow.next))
    (h : wpAny M A (eval o env) (fun ov s₁ => wpAny M A (eval i env) (fun iv s₂ => wpAny M A (getItem ov iv) (fun old s₃ => wpAny M A (eval value env) (fun v s₄ =>
      wpAny M A (inplaceOp op old v) (fun new s₅ => wpAny M A (setItem ov iv new) (fun _ => Q .next) E s₅) E s₄) E s₃) E s₂) E s₁) E s) :
    wpAny M A (exec (.AugAssign (.Subscript o i pos') op value pos) env) Q E s := wpAny_AugAssign_Subscript_any h hs
theorem m_isTrue_Compare {l r : Expr} {op : CmpOp} {pos : Pos} {whole : Sem Value} {Q : Bool → Shared → Prop} (hb : behindInMarks op r = false)
    (h : wpAny M A (eval l env) (fun a s₁ => wpAny M A (eval r env) (fun b s₂ => wpAny M A (compareOp op a b) (fun c s₃ => wpAny M A (truthy c) Q E s₃) E s₂) E s₁) E s) :
    wpAny M A (isTrue (.Compare l [op] [r] pos) env whole) Q E s := wpAny_isTrue_Compare1 h hb
theorem m_Compare {l r : Expr} {op : CmpOp} {pos : Pos} {Q : Value → Shared → Prop} (hb : behindInMarks op r = false)
    (h : wpAny M A (eval l env) (fun a s₁ => wpAny M A (eval r env) (fun b s₂ => wpAny M A (compareOp op a b) Q E s₂) E s₁) E s) :
    wpAny M A (eval (.Compare l [op] [r] pos) env) Q E s := wpAny_Compare1 h hb
theorem m_isTrue_plain {e : Expr} {whole : Sem Value} {Q : Bool → Shared → Prop} (hp : isTrue e env whole = (do let v ← whole; standAt e.pos; holding [v] (truthy v)))
    (h : wpAny M A whole (fun v s₁ => wpAny M A (truthy v) Q E s₁) E s) : wpAny M A (isTrue e env whole) Q E s := isTrue_plain h hp
theorem m_Call {func : Expr} {args : List Expr} {pos : Pos} {Q : Value → Shared → Prop}
    (hc : eval (.Call func args [] pos) env = (do callWith pos (← eval func env) [] (backTo pos (starEach args env)) (backToKw pos (keywordEach [] env))))
    (h : wpAny M A (eval func env) (fun f s₁ => wpAny M A (callWith pos f [] (backTo pos (starEach args env)) []) Q E s₁) E s) : wpAny M A (eval (.Call func args [] pos) env) Q E s := Call_ h hc
theorem m_cw_builtin {id : String} {e : Expr} {rest : List Expr} {pos : Pos} {Q : Value → Shared → Prop}
    (hs : starEach (e :: rest) env = (false, eval e env) :: starEach rest env) (hp : ((backTo pos (starEach rest env)).any fun x => x.1) = false)
    (h : wpAny M A (spliced (backTo pos (starEach (e :: rest) env))) (fun vs s₁ => wpAny M A (call (.builtin id) vs) Q E s₁) E s) :
    wpAny M A (callWith pos (.builtin id) [] (backTo pos (starEach (e :: rest) env)) []) Q E s := PyProof.Rows.callWith_builtin1 h hs hp
theorem m_cw_type {T : String} {e : Expr} {rest : List Expr} {pos : Pos} {Q : Value → Shared → Prop}
    (hs : starEach (e :: rest) env = (false, eval e env) :: starEach rest env) (hp : ((backTo pos (starEach rest env)).any fun x => x.1) = false)
    (h : wpAny M A (spliced (backTo pos (starEach (e :: rest) env))) (fun vs s₁ => wpAny M A (call (.type T) vs) Q E s₁) E s) :
    wpAny M A (callWith pos (.type T) [] (backTo pos (starEach (e :: rest) env)) []) Q E s := PyProof.Rows.callWith_type1 h hs hp
theorem m_cw_method {id : String} {first : List Value} {e : Expr} {rest : List Expr} {pos : Pos} {Q : Value → Shared → Prop}
    (hs : starEach (e :: rest) env = (false, eval e env) :: starEach rest env) (hp : ((backTo pos (starEach rest env)).any fun x => x.1) = false)
    (h : wpAny M A (spliced (backTo pos (starEach (e :: rest) env))) (fun vs s₁ => wpAny M A (call (.builtin id) (first ++ vs)) Q E s₁) E s) :
    wpAny M A (callWith pos (.builtin id) first (backTo pos (starEach (e :: rest) env)) []) Q E s := callWith_method1 h hs hp
theorem m_Method {o : Expr} {name : Str} {apos pos : Pos} {args : List Expr} {pl : Sem Bool} {Q : Value → Shared → Prop}
    (hc : eval (.Call (.Attribute o name apos) args [] pos) env = (do let ov ← eval o env; standAt (Pos.atName apos); let __x ← holding [ov] (getMethod ov name pl); match __x with | (f, first) => callWith pos f first (backTo pos (starEach args env)) []))
    (h : wpAny M A (eval o env) (fun ov s₁ => wpAny M A (getMethod ov name pl) (fun fx s₂ => wpAny M A (callWith pos fx.1 fx.2 (backTo pos (starEach args env)) []) Q E s₂) E s₁) E s) :
    wpAny M A (eval (.Call (.Attribute o name apos) args [] pos) env) Q E s := MethodCall_ h hc
theorem m_spliced_cons {e : Expr} {rest : List Expr} {pos : Pos} {Q : List Value → Shared → Prop} (hs : starEach (e :: rest) env = (false, eval e env) :: starEach rest env)
    (h : wpAny M A (eval e env) (fun v s₁ => wpAny M A (spliced (backTo pos (starEach rest env))) (fun vs s₂ => Q (v :: vs) s₂) E s₁) E s) : wpAny M A (spliced (backTo pos (starEach (e :: rest) env))) Q E s := spliced_more h hs
theorem m_evalPart_some {e : Expr} {Q : Value → Shared → Prop} (h : wpAny M A (eval e env) Q E s) : wpAny M A (evalPart (some e) env) Q E s := h
theorem m_evalPart_none {Q : Value → Shared → Prop} (h : Q .none s) : wpAny M A (evalPart none env) Q E s := wpAny_pure h
end syntax_
end Mine

namespace Mine
open PySem PySem.W PySem.Spec PySem.Calls PyProof.Rows

section
variable {prog : Program} {w : World} {A : Around} {E : Value → Shared → Prop} {g h : Heap} {L a b l sl : Addr} {lo : List (Str × Value)} {own own' : List (Addr × Obj)} {G : Array GenState} {D : Drawn} {tk : Nat} {O : OsState}
  {vs ws : List Value} {n m : Nat}

theorem isList_of (e : h.get? l = some (listOf vs.toArray n)) : h.IsList l vs.toArray := ⟨_, e, rfl, n, rfl⟩
theorem St.isList (S : St g L h lo own) (hm : (l, listOf vs.toArray n) ∈ own) : h.IsList l vs.toArray := isList_of (S.at hm)
theorem St.isTup (S : St g L h lo own) (hm : (l, tupOf vs) ∈ own) : IsTup h l vs.toArray := ⟨_, S.at hm, rfl, _, rfl⟩
theorem lt_fit {k : Nat} (h : k ≤ sizeLine) : ((k : Nat) : Int) < 2 ^ 63 := by have := sizeLine_eq; omega

theorem m_newList {Q : Value → Shared → Prop} (S : St g L h lo own) (hsz : vs.length ≤ sizeLine)
    (q : ∀ l h', St g L h' lo ((l, listOf vs.toArray 0) :: own) → Q (.ref l) ⟨h', G, D, tk, O⟩) : wpAny (model prog w) A (newList vs) Q E ⟨h, G, D, tk, O⟩ :=
  wpAny_newObj_type (q _ _ S.push) (by show vs.toArray.size ≤ sizeLine; rw [List.size_toArray]; exact hsz)
theorem m_newTuple {Q : Value → Shared → Prop} (S : St g L h lo own) (hsz : vs.length ≤ sizeLine)
    (q : ∀ l h', St g L h' lo ((l, tupOf vs) :: own) → Q (.ref l) ⟨h', G, D, tk, O⟩) : wpAny (model prog w) A (newTuple vs) Q E ⟨h, G, D, tk, O⟩ :=
  wpAny_newObj_type (q _ _ S.push) (by show vs.toArray.size ≤ sizeLine; rw [List.size_toArray]; exact hsz)
theorem m_append {Q : Value → Shared → Prop} {x : Value} (S : St g L h lo own) (U : At l (listOf vs.toArray n) (listOf (vs ++ [x]).toArray (n + 1)) own own') (hsz : vs.length ≤ sizeLine)
    (q : ∀ h', St g L h' lo own' → Q .none ⟨h', G, D, tk, O⟩) : wpAny (model prog w) A (call (.builtin "list.append") [.ref l, x]) Q E ⟨h, G, D, tk, O⟩ :=
  append_at (S.at U.mem) (fun h' hs ho => q h' (S.upd U hs.extBut (by rw [ho]; simp))) (by rw [List.size_toArray]; exact hsz)
theorem m_len {Q : Value → Shared → Prop} (S : St g L h lo own) (hm : (l, listOf vs.toArray n) ∈ own) (hsz : vs.length ≤ sizeLine)
    (q : ∀ t tk', Q (.int vs.length t) ⟨h, G, D, tk', O⟩) : wpAny (model prog w) A (call (.builtin "len") [.ref l]) Q E ⟨h, G, D, tk, O⟩ := by
  refine call_len_list (S.isList hm) (by rw [List.size_toArray]; exact lt_fit hsz) ?_
  rw [List.size_toArray]; exact q _ _
theorem m_truthy_list {Q : Bool → Shared → Prop} (S : St g L h lo own) (hm : (l, listOf vs.toArray n) ∈ own) (hsz : vs.length ≤ sizeLine)
    (q : ∀ tk', Q (!vs.isEmpty) ⟨h, G, D, tk', O⟩) : wpAny (model prog w) A (truthy (.ref l)) Q E ⟨h, G, D, tk, O⟩ :=
  wpAny_truthy_list (S.isList hm) (by rw [List.size_toArray]; exact lt_fit hsz) (by
    have e : (!vs.toArray.isEmpty) = !vs.isEmpty := by cases vs <;> simp
    rw [e]; exact q _)
theorem m_idx {value slice : Expr} {k : Int} {u : Tok} {x : Value} {Q : Value → Shared → Prop} (S : St g L h lo own) (hm : (l, listOf vs.toArray n) ∈ own) (hsz : vs.length ≤ sizeLine) (h0 : 0 ≤ k) (hx : vs[k.toNat]? = some x)
    (hs : subscripted slice false (.ref l) (.int k u) = operate [.ref l, .int k u] (getItem (.ref l) (.int k u)))
    (q : Q x ⟨h, G, D, tk, O⟩) : wpAny (model prog w) A (subscriptTail value slice (.ref l) (.int k u)) Q E ⟨h, G, D, tk, O⟩ := by
  have hk : k.toNat < vs.length := (List.getElem?_eq_some_iff.mp hx).1
  have := lt_fit hsz
  exact tail_any (S.isList hm).typeIs slot_list_getitem.lookup (wpAny_getItem_list (S.isList hm) h0 (by omega) (by simpa using hx) q) hs
theorem m_getItem_list {k : Int} {u : Tok} {x : Value} {Q : Value → Shared → Prop} (S : St g L h lo own) (hm : (l, listOf vs.toArray n) ∈ own) (hsz : vs.length ≤ sizeLine) (h0 : 0 ≤ k) (hx : vs[k.toNat]? = some x)
    (q : Q x ⟨h, G, D, tk, O⟩) : wpAny (model prog w) A (getItem (.ref l) (.int k u)) Q E ⟨h, G, D, tk, O⟩ := by
  have hk : k.toNat < vs.length := (List.getElem?_eq_some_iff.mp hx).1
  have := lt_fit hsz
  exact wpAny_getItem_list (S.isList hm) h0 (by omega) (by simpa using hx) q
/-- a list's slice, its bounds written or counted -/
theorem m_cut {value slice : Expr} {vl vu : Value} {lb ub : Option Int} {Q : Value → Shared → Prop} (S : St g L h lo own) (hm : (l, listOf vs.toArray n) ∈ own) (hs : (sl, sliceOf vl vu .none) ∈ own) (pl : IsPart vl lb) (pu : IsPart vu ub) (hsz : vs.length ≤ sizeLine)
    (he : subscripted slice false (.ref l) (.ref sl) = operate [.ref sl, .ref l] (getItem (.ref l) (.ref sl))) {xs : List Value} (hx : slicePick vs.toArray lb ub none = xs.toArray)
    (q : ∀ r h', St g L h' lo ((r, listOf xs.toArray 0) :: own) → Q (.ref r) ⟨h', G, D, tk, O⟩) : wpAny (model prog w) A (subscriptTail value slice (.ref l) (.ref sl)) Q E ⟨h, G, D, tk, O⟩ :=
  tail_any (S.isList hm).typeIs slot_list_getitem.lookup (wpAny_getItem_list_slice (S.isList hm) ⟨_, S.at hs, rfl, rfl⟩ pl pu .none (by simp) (by rw [hx]; exact q _ _ S.push) (by rw [List.size_toArray]; exact hsz)) he
end

section
variable {prog : Program} {w : World} {A : Around} {E : Value → Shared → Prop} {h : Heap} {G : Array GenState} {D : Drawn} {tk : Nat} {O : OsState} {i j : Int} {t u : Tok} {x y : Str}
theorem m_int {k : Nat} {pos : Pos} {env : Env} {Q : Value → Shared → Prop} (q : ∀ t tk', Q (.int i t) ⟨h, G, D, tk', O⟩) : wpAny (model prog w) A (eval (.Constant (.int i) k pos) env) Q E ⟨h, G, D, tk, O⟩ := wpAny_Constant_int (q _ _)
theorem m_str {k : Nat} {pos : Pos} {env : Env} {Q : Value → Shared → Prop} (q : ∀ t tk', Q (.str x t) ⟨h, G, D, tk', O⟩) : wpAny (model prog w) A (eval (.Constant (.str x) k pos) env) Q E ⟨h, G, D, tk, O⟩ := Calls.Constant_str (q _ _)
theorem m_none {k : Nat} {pos : Pos} {env : Env} {s : Shared} {Q : Value → Shared → Prop} (q : Q .none s) : wpAny (model prog w) A (eval (.Constant .none k pos) env) Q E s := wpAny_pure q
theorem m_add {Q : Value → Shared → Prop} (q : ∀ t' tk', Q (.int (i + j) t') ⟨h, G, D, tk', O⟩) : wpAny (model prog w) A (binaryOp .Add (.int i t) (.int j u)) Q E ⟨h, G, D, tk, O⟩ := add_int (q _ _)
theorem m_iadd {Q : Value → Shared → Prop} (q : ∀ t' tk', Q (.int (i + j) t') ⟨h, G, D, tk', O⟩) : wpAny (model prog w) A (inplaceOp .Add (.int i t) (.int j u)) Q E ⟨h, G, D, tk, O⟩ := iadd_int (q _ _)
theorem m_lt {s : Shared} {Q : Value → Shared → Prop} (q : Q (.bool (decide (i < j))) s) : wpAny (model prog w) A (compareOp .Lt (.int i t) (.int j u)) Q E s := lt_int q
theorem m_eq {s : Shared} {Q : Value → Shared → Prop} (q : Q (.bool (i == j)) s) : wpAny (model prog w) A (compareOp .Eq (.int i t) (.int j u)) Q E s := eq_int q
theorem m_eqs {s : Shared} {Q : Value → Shared → Prop} (q : Q (.bool (x == y)) s) : wpAny (model prog w) A (compareOp .Eq (.str x t) (.str y u)) Q E s := PyProof.Rows.eq_str q
theorem m_ins {s : Shared} {Q : Value → Shared → Prop} (q : Q (.bool !List.isEmpty (Builtin.Str.occurrences x y 0 x.length 1)) s) : wpAny (model prog w) A (compareOp .In (.str y u) (.str x t)) Q E s := in_str q
theorem m_iadds {Q : Value → Shared → Prop} (hsz : x.length + y.length ≤ sizeLine) (q : ∀ t' tk', Q (.str (x ++ y) t') ⟨h, G, D, tk', O⟩) : wpAny (model prog w) A (inplaceOp .Add (.str x t) (.str y u)) Q E ⟨h, G, D, tk, O⟩ := iadd_str (fun t' tk' => q t' tk') hsz
theorem m_truthb {s : Shared} {b : Bool} {Q : Bool → Shared → Prop} (q : Q b s) : wpAny (model prog w) A (truthy (.bool b)) Q E s := wpAny_truthy_bool q
end
end Mine

namespace Mine
open PySem PySem.W PySem.Spec PySem.Calls PyProof.Rows

abbrev gOf (h : Heap) (own : List (Addr × Obj)) : Heap := hideAll h (own.map (·.1))
theorem gOf_get {h : Heap} {own : List (Addr × Obj)} {b : Addr} {o : Obj} (e : (gOf h own).get? b = some o) : h.get? b = some o := of_hideAll _ e
theorem gOf_keep {h : Heap} {own : List (Addr × Obj)} {b : Addr} {o : Obj} (e : h.get? b = some o) (hn : b ∉ own.map (·.1)) : (gOf h own).get? b = some o := hideAll_get _ e hn

/-- the callee's first state -/
theorem st_start {h h₁ : Heap} {own : List (Addr × Obj)} {binds : List (Str × Value)} (hown : ∀ p ∈ own, h.get? p.1 = some p.2) (hnd : (own.map (·.1)).Nodup)
    (hns : h₁.Ns h.objs.size (fun y => binds.reverse.lookup y)) (hk : ∀ b o, h.get? b = some o → h₁.get? b = some o) : St (gOf h own) h.objs.size h₁ binds.reverse own :=
  ⟨⟨_, ⟨hns, fun b o e => hk b o (gOf_get e), Nat.le_of_eq (hideAll_size _ _)⟩, fun _ _ e => e⟩,
    fun p hp => ⟨hk _ _ (hown p hp), Nat.ne_of_lt (Heap.lt_size (hown p hp)), hideAll_none _ (List.mem_map_of_mem hp)⟩, hnd⟩

/-- what the callee leaves: all that was, but its own -/
theorem St.back {h h' : Heap} {L : Addr} {lo : List (Str × Value)} {own own' : List (Addr × Obj)} (S : St (gOf h own) L h' lo own') (hm : ∀ p ∈ own, p ∈ own') (hown : ∀ p ∈ own, h.get? p.1 = some p.2) :
    ∀ b o, h.get? b = some o → h'.get? b = some o := fun b o e => by
  by_cases q : b ∈ own.map (·.1)
  · obtain ⟨p, hp, rfl⟩ := List.mem_map.mp q
    have z := hown p hp
    rw [e] at z
    cases z
    exact (S.nw p (hm p hp)).1
  · exact S.gkeep b o (gOf_keep e q)
theorem St.keptBut {h h' : Heap} {L : Addr} {lo : List (Str × Value)} {own own' : List (Addr × Obj)} (S : St (gOf h own) L h' lo own') :
    ∀ b o, h.get? b = some o → b ∉ own.map (·.1) → h'.get? b = some o := fun b o e q => S.gkeep b o (gOf_keep e q)

section
variable {prog : Program} {w : World} {A : Around} {h : Heap} {G : Array GenState} {D : Drawn} {tk : Nat} {O : OsState} {K : Frag} {b0 : Heap}
  {R : Result → Shared → Prop} {name qual : Str} {params : Arguments} {body : List Stmt} {scope : Scope} {dV kV doc pm cdv ct oc : Value} {an od : Option Addr} {osl : Array (Option Value)} {f : Addr} {args : Args} {binds : List (Str × Value)} {own : List (Addr × Obj)}

theorem m_enter (X : K.In b0) (hlim : b0.NoLimit) (hb : b0.StaysIn h) (hown : ∀ p ∈ own, h.get? p.1 = some p.2) (hnd : (own.map (·.1)).Nodup)
    (ho : K.lookup f = some ⟨oc, od, .func (fnX name qual params body scope [] dV kV doc pm an cdv ct), osl⟩) (hcd : codeIn K cdv qual = true) (hroom : A.depth < recursionLimit)
    (hbind : BindsTo ⟨h, G, D, tk, O⟩ (fnX name qual params body scope [] dV kV doc pm an cdv ct) args binds) (hloc : ∀ y ∈ binds, scope.names.lookup y.1 = some .local)
    (hcell : ∀ x ∈ scope.names, x.2 ≠ .cell) (hco : scope.isCoroutine = false) (hgen : scope.isGenerator = false) (hk : scope.kind = .function)
    (q : ∀ L h₁ tk₁, L = h.objs.size → (∀ b o, h.get? b = some o → h₁.get? b = some o) → St (gOf h own) L h₁ binds.reverse own →
      wpAny (model prog w) (A.deeper (envX qual scope L f cdv [])) (execs body (envX qual scope L f cdv []))
        (fun fl s' => R (.ok (.ret (match fl with | .ret v => v | _ => .none))) s')
        (fun e s' => wpAny (model prog w) (A.deeper (envX qual scope L f cdv [])) (leaving (envX qual scope L f cdv []) e) (fun _ s'' => R (.error e) s'') (fun e' s'' => R (.error e') s'') s')
        ⟨h₁, G, D, tk₁, O⟩) : codeAny (model prog w) A (.call (.ref f) args) R ⟨h, G, D, tk, O⟩ :=
  codeAny_call_def (fd := fnX name qual params body scope [] dV kV doc pm an cdv ct) (body := body) (binds := binds) hroom (hb _ _ (X _ _ ho)) rfl (hlim.keeps hb) (codeRec_of (X.keeps hb) hcd) rfl hbind hcell hloc
    (fun h₁ hns hk₁ => q _ h₁ _ rfl hk₁ (st_start hown hnd hns hk₁)) hco hgen hk
end

theorem lk_hit {x : Str} {v : Value} {r : List (Str × Value)} : ((x, v) :: r).lookup x = some v := by simp [List.lookup_cons]
theorem lk_miss {x y : Str} {u : Value} {v : Option Value} {r : List (Str × Value)} (hn : (x == y) = false) (h : r.lookup x = v) : ((y, u) :: r).lookup x = v := by rw [List.lookup_cons, hn]; exact h
end Mine

namespace Mine
open PySem PySem.W PySem.Spec PySem.Calls PyProof.Rows

abbrev iterOf (l : Addr) (i : Nat) : Obj := { cls := .type "list_iterator", data := .fields #[.ref l, .int i 0] }
section
variable {prog : Program} {w : World} {A : Around} {E : Value → Shared → Prop} {g h : Heap} {L a b l it sl t : Addr} {lo : List (Str × Value)} {own own' : List (Addr × Obj)} {G : Array GenState} {D : Drawn} {tk : Nat} {O : OsState}
  {vs ws : List Value} {n m i : Nat}

theorem m_ned {x y : Value} {da db : PyData} {as bs : List Addr} {s : Shared} {Q : Value → Shared → Prop} (ra : Reads s.heap x da as) (rb : Reads s.heap y db bs) (ha : SeqAt.shaped da = true) (hb : SeqAt.shaped db = true) (hu : A.units + 64 < cLine)
    (q : Q (.bool (!PyData.eqv da db)) s) : wpAny (model prog w) A (compareOp .NotEq x y) Q E s := ne_dataH ra rb ha hb hu q

theorem m_iter {Q : Value → Shared → Prop} (S : St g L h lo own) (hm : (l, listOf vs.toArray n) ∈ own)
    (q : ∀ it h', St g L h' lo ((it, iterOf l 0) :: own) → Q (.ref it) ⟨h', G, D, tk, O⟩) : wpAny (model prog w) A (pyIter (.ref l)) Q E ⟨h, G, D, tk, O⟩ :=
  wpAny_pyIter_list (S.isList hm) (q _ _ S.push)
theorem m_next {Q : Option Value → Shared → Prop} {x : Value} (S : St g L h lo own) (U : At it (iterOf l i) (iterOf l (i + 1)) own own') (hm : (l, listOf vs.toArray n) ∈ own) (hx : vs[i]? = some x)
    (q : ∀ h', St g L h' lo own' → Q (some x) ⟨h', G, D, tk, O⟩) : wpAny (model prog w) A (pyNext (.ref it)) Q E ⟨h, G, D, tk, O⟩ := by
  have ho := S.at U.mem
  unfold pyNext
  refine wpAny_bind (wpAny_attempt (wpAny_callSpecial?_slot (name := Str.ofString "__next__") (s := ⟨h, G, D, tk, O⟩) (⟨_, ho, rfl⟩ : Shared.TypeIs ⟨h, G, D, tk, O⟩ (.ref it) "list_iterator") slot_listiter_next
    (wpAny_call_entry slot_listiter_next ⟨_, ho, rfl⟩ entry_listiter_next ?_ (args_listiter_next _))))
  show wpAny _ _ (field (.ref it) 0 >>= _) _ _ _
  refine wpAny_bind (wpAny_field ho rfl (x := .ref l) rfl ?_)
  show wpAny _ _ (if (Value.ref l == Value.none) = true then _ else _) _ _ _
  rw [if_neg (show ¬ ((Value.ref l == Value.none) = true) from Bool.false_ne_true)]
  show wpAny _ _ (field (.ref it) 1 >>= _) _ _ _
  refine wpAny_bind (wpAny_field ho rfl (x := .int i 0) rfl ?_)
  show wpAny _ _ (seqItems? (.ref l) >>= _) _ _ _
  refine wpAny_bind (wpAny_seqItems (S.at hm) rfl ?_)
  have hx' : vs.toArray[i]? = some x := by simpa using hx
  simp only [Int.toNat_natCast, hx']
  refine wpAny_bind (wpAny_setField ho rfl (by show 1 < 2; decide) (wpAny_pure ⟨x, rfl, wpAny_pure (q _ ?_)⟩))
  refine S.upd U (Heap.SameBut.update ..).extBut ?_
  rw [Heap.get?_update_self _ ho rfl]
  simp [Obj.mapFields, rawInt]
theorem m_nextEnd {Q : Option Value → Shared → Prop} (S : St g L h lo own) (hh : A.handled = none) (hi : (it, iterOf l i) ∈ own) (hm : (l, listOf vs.toArray n) ∈ own) (hx : vs[i]? = none) (hs : ∀ p ∈ own', p ∈ own ∧ p.1 ≠ it) (hn : (own'.map (·.1)).Nodup)
    (q : ∀ h', St g L h' lo own' → Q none ⟨h', G, D, tk, O⟩) : wpAny (model prog w) A (pyNext (.ref it)) Q E ⟨h, G, D, tk, O⟩ := by
  refine wpAny_pyNext_list_end (s := ⟨h, G, D, tk, O⟩) hh ⟨_, S.at hi, rfl, rfl⟩ (S.isList hm) (by simpa using hx) fun h' he => q h' ?_
  obtain ⟨m, F, hl⟩ := S.fr
  have z := S.nw _ hi
  refine ⟨⟨m, ⟨F.ns.extBut he (Ne.symm z.2.1), fun b ob e => he b ob (fun q => ?_) (F.keep b ob e), F.above⟩, hl⟩, fun p hp => ?_, hn⟩
  · rw [q] at e; rw [z.2.2] at e; cases e
  · obtain ⟨h1, h2⟩ := hs p hp
    exact ⟨he _ _ h2 (S.nw _ h1).1, (S.nw _ h1).2⟩

theorem m_unpack {elts : List Expr} {k : Nat} {pos : Pos} {env : Env} {Q : Unit → Shared → Prop} (S : St g L h lo own) (hm : (t, tupOf vs) ∈ own) (hh : A.handled = none)
    (hn : (assignEach elts env).length = vs.length) (hstar : (assignEach elts env).findIdx? (·.1) = none)
    (q : ∀ h', St g L h' lo own → wpAny (model prog w) A (assignInOrder ((assignEach elts env).map (·.2)) vs) Q E ⟨h', G, D, tk, O⟩) :
    wpAny (model prog w) A (assign (.Tuple elts k pos) env (.ref t)) Q E ⟨h, G, D, tk, O⟩ := by
  refine assign_Tuple_tuple hh (S.isTup hm) (by simpa using hn) hstar fun h' he => ?_
  refine q h' (S.keeps fun b o e => he b o (Nat.ne_of_lt (Heap.lt_size e)) e)
theorem m_inOrder {x : Value} {xs : List Value} {f : Value → Sem Unit} {fs : List (Value → Sem Unit)} {s : Shared} {Q : Unit → Shared → Prop}
    (q : wpAny (model prog w) A (f x) (fun _ s' => wpAny (model prog w) A (assignInOrder fs xs) Q E s') E s) : wpAny (model prog w) A (assignInOrder (f :: fs) (x :: xs)) Q E s := by
  unfold assignInOrder
  exact wpAny_bind (wpAny_holding q)
theorem m_inOrder0 {s : Shared} {Q : Unit → Shared → Prop} (q : Q () s) : wpAny (model prog w) A (assignInOrder [] []) Q E s := wpAny_pure q
theorem m_assignName {x : Str} {pos : Pos} {v : Value} {env : Env} {s : Shared} {Q : Unit → Shared → Prop} (q : wpAny (model prog w) A (storeName env x v) Q E s) : wpAny (model prog w) A (assign (.Name x pos) env v) Q E s := wpAny_assign_Name q

end
end Mine

namespace Mine
open PySem PySem.W PySem.Spec PySem.Calls PyProof.Rows

theorem sv_len (l : List (Str × Tok)) : (strValues l).length = l.length := by simp [strValues]
theorem sv_get (l : List (Str × Tok)) (i : Nat) : (strValues l)[i]? = (l[i]?).map fun p => Value.str p.1 p.2 := by simp [strValues]
theorem sv_drop (l : List (Str × Tok)) (i : Nat) : (strValues l).drop i = strValues (l.drop i) := by simp [strValues, List.map_drop]
theorem sv_append (l r : List (Str × Tok)) : strValues l ++ strValues r = strValues (l ++ r) := by simp [strValues]

theorem pick_from (vs : List Value) (a : Nat) : slicePick vs.toArray (some (a : Int)) none none = (vs.drop a).toArray := by rw [slicePick_from']

def bs : Str := "\\"
def inS (x y : Str) : Bool := !List.isEmpty (Builtin.Str.occurrences x y 0 x.length 1)
def qt : Str := "\""
end Mine
namespace Mine
theorem m_if {c : Prop} [Decidable c] {P Q : Prop} (h1 : c → P) (h2 : ¬ c → Q) : if decide c = true then P else Q := by
  by_cases h : c
  · simp only [h, decide_true, if_true]; exact h1 h
  · simp only [h, decide_false, Bool.false_eq_true, if_false]; exact h2 h
theorem m_ifb {b : Bool} {P Q : Prop} (h1 : b = true → P) (h2 : b = false → Q) : if b = true then P else Q := by
  cases b
  · simp only [Bool.false_eq_true, if_false]; exact h2 rfl
  · simp only [if_true]; exact h1 rfl
end Mine

namespace Mine
open PySem PySem.W PySem.Spec PySem.Calls PyProof.Rows

section
variable {prog : Program} {w : World} {A : Around} {E : Value → Shared → Prop} {g h : Heap} {L a b l it sl t : Addr} {lo : List (Str × Value)} {own own' : List (Addr × Obj)} {G : Array GenState} {D : Drawn} {tk : Nat} {O : OsState}
  {vs ws : List Value} {n m i : Nat}
theorem m_getAppend {pl : Sem Bool} {Q : Value × List Value → Shared → Prop} (S : St g L h lo own) (hm : (l, listOf vs.toArray n) ∈ own)
    (q : Q (.builtin "list.append", [.ref l]) ⟨h, G, D, tk, O⟩) : wpAny (model prog w) A (getMethod (.ref l) "append" pl) Q E ⟨h, G, D, tk, O⟩ := getMethod_list_append (S.at hm) rfl rfl q
def newSlice (l u s : Value) : Sem Value := newFields "slice" [l, u, s]
theorem m_sliceP {env : Env} {lower upper step : Option Expr} {pos : Pos} {Q : Value → Shared → Prop} {s : Shared}
    (q : wpAny (model prog w) A (evalPart lower env) (fun vl s₁ => wpAny (model prog w) A (evalPart upper env) (fun vu s₂ => wpAny (model prog w) A (evalPart step env) (fun vs s₃ =>
      wpAny (model prog w) A (newSlice vl vu vs) Q E s₃) E s₂) E s₁) E s) : wpAny (model prog w) A (eval (.Slice lower upper step pos) env) Q E s := by
  rw [arm_eval_Slice]
  exact wpAny_bind (wpAny_mono q (fun l s₁ h₁ => wpAny_bind (wpAny_holding (wpAny_mono h₁ (fun u s₂ h₂ => wpAny_bind (wpAny_holding (wpAny_mono h₂ (fun st s₃ h₃ => h₃) fun _ _ x => x))) fun _ _ x => x))) fun _ _ x => x)
theorem m_newSlice {vl vu vt : Value} {Q : Value → Shared → Prop} (S : St g L h lo own) (q : ∀ sl h', St g L h' lo ((sl, sliceOf vl vu vt) :: own) → Q (.ref sl) ⟨h', G, D, tk, O⟩) : wpAny (model prog w) A (newSlice vl vu vt) Q E ⟨h, G, D, tk, O⟩ := by
  show wpAny _ _ (newObj (.type "slice") (.fields [vl, vu, vt].toArray)) _ _ _
  exact wpAny_newObj_type (q _ _ S.push) (by show 3 ≤ sizeLine + 2; exact Nat.le_of_ble_eq_true rfl)
theorem m_cutFrom {value slice : Expr} {i : Int} {t : Tok} {a : Nat} {Q : Value → Shared → Prop} (S : St g L h lo own) (hm : (l, listOf vs.toArray n) ∈ own) (hs : (sl, sliceOf (.int i t) .none .none) ∈ own) (hsz : vs.length ≤ sizeLine) (ha : i = a)
    (he : subscripted slice false (.ref l) (.ref sl) = operate [.ref sl, .ref l] (getItem (.ref l) (.ref sl)))
    (q : ∀ r h', St g L h' lo ((r, listOf (vs.drop a).toArray 0) :: own) → Q (.ref r) ⟨h', G, D, tk, O⟩) : wpAny (model prog w) A (subscriptTail value slice (.ref l) (.ref sl)) Q E ⟨h, G, D, tk, O⟩ := by
  subst ha
  exact m_cut S hm hs (.int _ _) .none hsz he (pick_from vs a) q
end
/-- a ledger put in another order, or cut -/
theorem St.pick {g h : Heap} {L : Addr} {lo : List (Str × Value)} {own own' : List (Addr × Obj)} (S : St g L h lo own) (hs : List.Sublist own' own) : St g L h lo own' :=
  ⟨S.fr, fun p hp => S.nw p (hs.subset hp), List.Nodup.sublist (hs.map _) S.nd⟩
theorem St.perm {g h : Heap} {L : Addr} {lo : List (Str × Value)} {own own' : List (Addr × Obj)} (S : St g L h lo own) (hp : List.Perm own own') : St g L h lo own' :=
  ⟨S.fr, fun p h => S.nw p (hp.mem_iff.mpr h), (hp.map _).nodup_iff.mp S.nd⟩
/-- the entry of an address first -/
theorem St.first {g h : Heap} {L : Addr} {lo : List (Str × Value)} {own : List (Addr × Obj)} {p : Addr × Obj} {pre post : List (Addr × Obj)} (S : St g L h lo own) (e : own = pre ++ p :: post) : St g L h lo (p :: (pre ++ post)) :=
  S.perm (e ▸ List.perm_middle)
end Mine

namespace Mine
open PySem PySem.W PySem.Spec PySem.Calls PyProof.Rows

theorem units_ok {A : Around} (h : A.units < 600) : A.units + 64 < cLine := by
  have : 5000 < cLine := by decide
  omega
theorem m_ift {P Q : Prop} (h : P) : if true = true then P else Q := by rw [if_pos rfl]; exact h
theorem m_iff {P Q : Prop} (h : Q) : if false = true then P else Q := by rw [if_neg (by decide)]; exact h
theorem m_cw_method1 {M : Model} {A : Around} {E : Value → Shared → Prop} {s : Shared} {env : Env} {id : String} {x : Value} {e : Expr} {rest : List Expr} {pos : Pos} {Q : Value → Shared → Prop}
    (hs : starEach (e :: rest) env = (false, eval e env) :: starEach rest env) (hp : ((backTo pos (starEach rest env)).any fun x => x.1) = false)
    (h : wpAny M A (spliced (backTo pos (starEach (e :: rest) env))) (fun vs s₁ => wpAny M A (call (.builtin id) (x :: vs)) Q E s₁) E s) :
    wpAny M A (callWith pos (.builtin id) [x] (backTo pos (starEach (e :: rest) env)) []) Q E s := m_cw_method hs hp h
end Mine

namespace Mine
open PySem PySem.W PySem.Spec PySem.Calls PyProof.Rows
theorem St.fresh {h0 h : Heap} {L a : Addr} {o : Obj} {lo : List (Str × Value)} {own0 own : List (Addr × Obj)} (S : St (gOf h0 own0) L h lo own) (hm : (a, o) ∈ own) (hn : a ∉ own0.map (·.1)) : h0.get? a = none := by
  cases q : h0.get? a with
  | none => rfl
  | some ob =>
    have := gOf_keep q hn
    rw [(S.nw _ hm).2.2] at this
    cases this
/-- the first entry is no other -/
theorem St.apart {g h : Heap} {L a b : Addr} {o o' : Obj} {lo : List (Str × Value)} {own : List (Addr × Obj)} (S : St g L h lo ((a, o) :: own)) (hm : (b, o') ∈ own) : a ≠ b := by
  have := S.nd
  rw [List.map_cons, List.nodup_cons] at this
  rintro rfl
  exact this.1 (List.mem_map_of_mem (f := (·.1)) hm)
end Mine

namespace Mine
open PySem PySem.W PySem.Spec PySem.Calls PyProof.Rows

/-- an exception on its way, its own dict and its first field known -/
structure Fly (base : Heap) (l : List Env) (e : Addr) (cls : Value) (dd : Option Addr) (a0 fl : Value) (h : Heap) : Prop where
  stays : base.StaysIn h
  new : base.get? e = none
  frames : h.FunFrames base l
  exc : ∃ oe vs T oT ts, (h.get? e = some oe ∧ oe.cls = cls ∧ oe.dict = dd ∧ oe.data = .fields vs ∧ vs[0]? = some a0 ∧ vs[1]? = some (.ref T)) ∧ base.get? T = none ∧ T ≠ e ∧ h.get? T = some oT ∧ oT.data = .fields ts ∧ ts[3]? = some fl

theorem Obj.dict_mapF {o : Obj} {f : Array Value → Array Value} : (o.mapFields f).dict = o.dict := by
  unfold Obj.mapFields
  split <;> rfl

theorem frames_pop {h base : Heap} {env : Env} {l : List Env} (x : h.FunFrames base (env :: l)) : h.FunFrames base l := x.2.2

section
variable {M : Model} {A : Around} {E : Value → Shared → Prop} {s : Shared} {base : Heap} {env : Env} {outer l : List Env} {L e : Addr} {cls a0 fl : Value} {dd : Option Addr}

/-- a record changed in place leaves all but records and keeps the base -/
theorem upd_keeps {h : Heap} {a : Addr} {o : Obj} {vs : Array Value} {f : Obj → Obj} (ho : h.get? a = some o) (hd : o.data = .fields vs) {b : Addr} {ob : Obj} (hb : h.get? b = some ob) (hn : ∀ ws, ob.data ≠ .fields ws) : (h.update a f).get? b = some ob := by
  refine (Heap.get?_update_other _ _ ?_).trans hb
  rintro rfl
  rw [ho] at hb; cases hb
  exact hn _ hd
theorem upd_base {h : Heap} {a : Addr} {f : Obj → Obj} (hk : base.StaysIn h) (hn : base.get? a = none) : base.StaysIn (h.update a f) := fun b o q => by
  refine (Heap.get?_update_other _ _ ?_).trans (hk b o q)
  rintro rfl
  rw [hn] at q; cases q

theorem fly_entry {oe : Obj} {vs : Array Value} {head : Value} {hadNext : Bool} {Q : Unit → Shared → Prop}
    (hfr : A.frames = some (env :: outer)) (hl : s.heap.FunFrames base (env :: outer)) (hf : env.frame = some L) (he : s.heap.get? e = some oe) (hkb : base.StaysIn s.heap) (hen : base.get? e = none)
    (hd : oe.data = .fields vs) (hsz : 1 < vs.size) (h0 : vs[0]? = some a0)
    (q : ∀ h', Fly base (env :: outer) e oe.cls oe.dict a0 (rawInt L) h' → s.heap.UpToSlots h' → Q () { s with heap := h' }) :
    wpAny M A (do let a ← frameOf env; let pl ← entryPlaceOf L hadNext; let b ← EntryCells.newEntry head a .none (rawInt L) .none pl; setField (.ref e) 1 b) Q E s := by
  have hne : e ∉ (env :: outer).filterMap (·.frame) := fun hm => by
    obtain ⟨_, o, ho, hnf⟩ := hl.mem hm
    rw [he] at ho
    cases ho
    exact hnf vs hd
  refine wpAny_bind (wpAny_frameOf_fun hfr hl hf fun h₁ hs => wpAny_bind (wpAny_entryPlaceOf fun pl hpl => ?_))
  have he1 : h₁.get? e = some oe := (hs.2.1 e hne).trans he
  have hk1 : base.StaysIn h₁ := fun b o hb => by
    rw [hs.2.1 b fun hm => by rw [(hl.mem hm).1] at hb; cases hb]
    exact hkb b o hb
  unfold EntryCells.newEntry newFields
  refine wpAny_bind (wpAny_newObj_type ?_ (hpl.sizeOk5 _ _ _ _ _))
  generalize hT : ({ cls := .type "traceback", dict := none, data := .fields ([head, .ref L, .none, rawInt L, .none] ++ (if pl.isEmpty then List.replicate 6 Value.none else pl)).toArray } : Obj) = oT
  have hTd : ∃ ts, oT.data = .fields ts ∧ ts[3]? = some (rawInt L) := by
    subst hT
    exact ⟨_, rfl, by simp⟩
  have hTf : oT.isFreed = false := by obtain ⟨ts, q, _⟩ := hTd; exact Obj.isFreed_of_fields q
  have he2 : (h₁.push oT).get? e = some oe := Heap.get?_push_of_some _ he1
  have hne2 : h₁.objs.size ≠ e := Nat.ne_of_gt (Heap.lt_size he1)
  have hbT : base.get? h₁.objs.size = none := hk1.fresh
  have hTg : (h₁.push oT).get? h₁.objs.size = some oT := Heap.get?_push_size _ hTf
  have hd3 := Obj.data_mapFields hd (·.setIfInBounds 1 (Value.ref h₁.objs.size))
  refine wpAny_setField he2 hd hsz (q _ ⟨upd_base (fun b o x => Heap.get?_push_of_some _ (hk1 b o x)) hen, hen, ?_, ?_⟩ ?_)
  · refine hl.of_keeps fun b o hb hn => ?_
    obtain ⟨sl, h2⟩ := hs.2.2 b o hb
    exact ⟨_, upd_keeps he2 hd (Heap.get?_push_of_some _ h2) hn, rfl⟩
  · obtain ⟨ts, ht, ht3⟩ := hTd
    exact ⟨_, _, h₁.objs.size, oT, ts, ⟨Heap.get?_update_self _ he2 (Obj.isFreed_of_fields hd3), Obj.cls_mapFields _ _, Obj.dict_mapF, hd3, by rw [Array.getElem?_setIfInBounds_ne (by decide)]; exact h0, by simp [hsz]⟩, hbT, hne2,
      (Heap.get?_update_other _ _ hne2.symm).trans hTg, ht, ht3⟩
  · intro b o hb hn
    obtain ⟨sl, h2⟩ := hs.2.2 b o hb
    exact ⟨sl, upd_keeps he2 hd (Heap.get?_push_of_some _ h2) hn⟩

/-- the frame at hand is noted, the first time -/
theorem fly_note {Q : Unit → Shared → Prop} (hfr : A.frames = some (env :: outer)) (hf : env.frame = some L) (hfl : Fly base (env :: outer) e cls dd a0 .none s.heap)
    (q : ∀ h', Fly base (env :: outer) e cls dd a0 (rawInt L) h' → s.heap.UpToSlots h' → Q () { s with heap := h' }) : wpAny M A (noteFrame (.ref e) env) Q E s := by
  obtain ⟨k1, k2, k3, oe, vs, T, oT, ts, ⟨he, rfl, rfl, hd, h0, h1⟩, hbT, hTe, hT, hTd, h3⟩ := hfl
  unfold noteFrame
  simp only [hf]
  refine wpAny_bind (wpAny_field he hd h1 ?_)
  rw [if_pos (by simp : (Value.ref T != Value.none) = true)]
  refine wpAny_bind (wpAny_field hT hTd h3 ?_)
  rw [if_neg (by simp [rawInt] : ¬ ((Value.none == rawInt L) = true))]
  refine wpAny_bind (wpAny_setField hT hTd (Array.getElem?_eq_some_iff.mp h3).1 ?_)
  refine fly_entry hfr (k3.of_keeps fun b o hb hn => ⟨o, upd_keeps hT hTd hb hn, rfl⟩) hf ((Heap.get?_update_other _ _ hTe).trans he) (upd_base k1 hbT) k2 hd (Array.getElem?_eq_some_iff.mp h1).1 h0
    fun h' x y => q h' x (Heap.UpToSlots.trans (fun b o hb hn => ⟨o.slots, upd_keeps hT hTd hb hn⟩) y)
/-- it is noted already -/
theorem fly_again {Q : Unit → Shared → Prop} (hf : env.frame = some L) (hfl : Fly base l e cls dd a0 (rawInt L) s.heap) (q : Q () s) : wpAny M A (noteFrame (.ref e) env) Q E s := by
  obtain ⟨k1, k2, k3, oe, vs, T, oT, ts, ⟨he, _, _, hd, h0, h1⟩, hbT, hTe, hT, hTd, h3⟩ := hfl
  unfold noteFrame
  simp only [hf]
  refine wpAny_bind (wpAny_field he hd h1 ?_)
  rw [if_pos (by simp : (Value.ref T != Value.none) = true)]
  refine wpAny_bind (wpAny_field hT hTd h3 ?_)
  rw [if_pos (by simp : (rawInt L == rawInt L) = true)]
  exact wpAny_pure q
theorem fly_set {fr : Option Addr} {Q : Unit → Shared → Prop} (hfl : Fly base l e cls dd a0 fl s.heap)
    (q : ∀ h', Fly base l e cls dd a0 (fr.elim .none fun f => rawInt f) h' → s.heap.UpToSlots h' → Q () { s with heap := h' }) : wpAny M A (setFlight (.ref e) fr) Q E s := by
  obtain ⟨k1, k2, k3, oe, vs, T, oT, ts, ⟨he, hc, hdd, hd, h0, h1⟩, hbT, hTe, hT, hTd, h3⟩ := hfl
  have hs3 : 3 < ts.size := (Array.getElem?_eq_some_iff.mp h3).1
  unfold setFlight
  refine wpAny_bind (wpAny_field he hd h1 ?_)
  rw [if_pos (by simp : (Value.ref T != Value.none) = true)]
  refine wpAny_setField hT hTd hs3 (q _ ⟨upd_base k1 hbT, k2, k3.of_keeps fun b o hb hn => ⟨o, upd_keeps hT hTd hb hn, rfl⟩, oe, vs, T, _, _, ⟨(Heap.get?_update_other _ _ hTe).trans he, hc, hdd, hd, h0, h1⟩, hbT, hTe,
    Heap.get?_update_self _ hT (Obj.isFreed_of_fields (Obj.data_mapFields hTd _)), Obj.data_mapFields hTd _, by simp [hs3]⟩ fun b o hb hn => ⟨o.slots, upd_keeps hT hTd hb hn⟩)
theorem Fly.pop' {h : Heap} (x : Fly base (env :: l) e cls dd a0 fl h) : Fly base l e cls dd a0 fl h := ⟨x.stays, x.new, frames_pop x.frames, x.exc⟩

theorem fly_leave {Q : Unit → Shared → Prop} (hfr : A.frames = some (env :: outer)) (hf : env.frame = some L) (hfl : Fly base (env :: outer) e cls dd a0 fl s.heap) (hfo : fl = .none ∨ fl = rawInt L)
    (q : ∀ h', Fly base outer e cls dd a0 .none h' → s.heap.UpToSlots h' → Q () { s with heap := h' }) : wpAny M A (leaving env (.ref e)) Q E s := by
  unfold leaving
  rcases hfo with rfl | rfl
  · exact wpAny_bind (fly_note hfr hf hfl fun h' x y => fly_set (fr := none) (s := { s with heap := h' }) x fun h2 x2 y2 => q h2 x2.pop' (y.trans y2))
  · exact wpAny_bind (fly_again hf hfl (fly_set (fr := none) hfl fun h2 x2 y2 => q h2 x2.pop' y2))
/-- noted by a block of the frame -/
theorem fly_noted {X : Value → Shared → Prop} (hfr : A.frames = some (env :: outer)) (hf : env.frame = some L) (hfl : Fly base (env :: outer) e cls dd a0 fl s.heap) (hfo : fl = .none ∨ fl = rawInt L)
    (q : ∀ h', Fly base (env :: outer) e cls dd a0 (rawInt L) h' → s.heap.UpToSlots h' → X (.ref e) { s with heap := h' }) : notedBy M A env X (.ref e) s := by
  unfold notedBy
  rcases hfo with rfl | rfl
  · exact fly_note hfr hf hfl q
  · exact fly_again hf hfl (q s.heap hfl (.refl _))
theorem fly_back {X : Value → Shared → Prop} (hf : env.frame = some L) (hfl : Fly base (env :: outer) e cls dd a0 fl s.heap)
    (q : ∀ h', Fly base (env :: outer) e cls dd a0 (rawInt L) h' → s.heap.UpToSlots h' → X (.ref e) { s with heap := h' }) : cameBackBy M A env X (.ref e) s := by
  unfold cameBackBy
  obtain ⟨oe, vs, T, oT, ts, ⟨he, _, _, hd, _, h1⟩, _⟩ := hfl.exc
  refine wpAny_bind (wpAny_field he hd h1 ?_)
  rw [if_neg (by simp : ¬ ((Value.ref T == Value.none) = true))]
  rw [hf]
  exact fly_set hfl q
end
end Mine

namespace Mine
open PySem PySem.W PySem.Spec PySem.Calls PyProof.Rows

abbrev frs (l : List Env) : List Addr := l.filterMap (·.frame)
abbrev keys (own : List (Addr × Obj)) : List Addr := own.map (·.1)

/-- an exception on its way through `l`: what stood in `h0` beside `ks` and the frames stands, so does `own'` -/
structure Flown (h0 : Heap) (ks : List Addr) (l : List Env) (e : Addr) (cls : Value) (dd : Option Addr) (a0 fl : Value) (own' : List (Addr × Obj)) (h' : Heap) : Prop where
  fly : ∃ B, Fly B l e cls dd a0 fl h' ∧ (∀ q ∈ own', B.get? q.1 = some q.2) ∧ ∀ b o, h0.get? b = some o → b ∉ ks → b ∉ frs l → B.get? b = some o
  slots : ∀ L ∈ frs l, ∀ o, h0.get? L = some o → ∃ sl, h'.get? L = some { o with slots := sl }
  fresh : ∀ q ∈ own', h0.get? q.1 = none ∨ q.1 ∈ ks
  nd : (own'.map (·.1)).Nodup

/-- what a caller lays under a callee that may raise -/
theorem below_call {A : Around} {bF g h : Heap} {outer : List Env} {L a : Addr} {lo : List (Str × Value)} {own own0 : List (Addr × Obj)} {cn : Str} {cs : Scope} {ccd : Value} {cl : List (Str × Addr)}
    (K : Below A bF outer g) (S : St g L h lo own) (hs : ∀ p ∈ own0, p ∈ own) (hk : cs.kind = .function) :
    Below (A.deeper (envX cn cs L a ccd cl)) bF (envX cn cs L a ccd cl :: outer) (gOf h own0) := by
  obtain ⟨m, F, _⟩ := S.fr
  have nL : L ∉ keys own0 := fun hm => by
    obtain ⟨p, hp, e⟩ := List.mem_map.mp hm
    exact (S.nw p (hs p hp)).2.1 e
  have ng : ∀ b o, g.get? b = some o → b ∉ keys own0 := fun b o q hm => by
    obtain ⟨p, hp, e⟩ := List.mem_map.mp hm
    have := (S.nw p (hs p hp)).2.2
    rw [e, q] at this; cases this
  have gk : ∀ b o, g.get? b = some o → (gOf h own0).get? b = some o := fun b o q => gOf_keep (F.keep b o q) (ng b o q)
  refine ⟨Around.frames_deeper K.stack, fun b o q => gk b o (K.stays b o q), ?_⟩
  obtain ⟨oL, es, ep, hL, hd, _⟩ := F.ns
  refine ⟨by show cs.kind ≠ _; rw [hk]; decide, ⟨L, oL, rfl, ?_, gOf_keep hL nL, fun vs q => by rw [hd] at q; cases q⟩, ?_⟩
  · cases q : bF.get? L with
    | none => rfl
    | some o =>
      exact absurd (Nat.lt_of_lt_of_le (Heap.lt_size (K.stays _ _ q)) F.above) (Nat.lt_irrefl _)
  · refine K.frames.of_keeps fun b o q _ => ⟨o, gk b o q, rfl⟩

section
variable {M : Model} {A : Around} {E : Value → Shared → Prop} {s : Shared} {bF h0 h : Heap} {outer : List Env} {L a e : Addr} {lo : List (Str × Value)} {own own0 own1 own2 : List (Addr × Obj)} {cn : Str} {cs : Scope} {ccd : Value} {cl : List (Str × Addr)} {cls a0 fl : Value} {dd : Option Addr}

theorem frs_g {g : Heap} {bF : Heap} {A : Around} {outer : List Env} (K : Below A bF outer g) {b : Addr} (hb : b ∈ frs outer) : ∃ o, g.get? b = some o ∧ ∀ vs, o.data ≠ .fields vs := (K.frames.mem hb).2

theorem flown_fresh {b : Addr} (hn : (gOf h0 own0).get? b = none) : h0.get? b = none ∨ b ∈ keys own0 := by
  by_cases z : b ∈ keys own0
  · exact .inr z
  · refine .inl ?_
    cases q : h0.get? b with
    | none => rfl
    | some o =>
      have := gOf_keep q z
      rw [hn] at this; cases this
theorem flown_noted {X : Value → Shared → Prop} {hc : Heap} {ks : List Addr} (K : Below A bF outer (gOf h0 own0)) (x : Flown hc ks (envX cn cs L a ccd cl :: outer) e cls dd a0 fl own1 s.heap) (hnf : ∀ b ∈ frs (envX cn cs L a ccd cl :: outer), ∃ o, hc.get? b = some o ∧ ∀ vs, o.data ≠ .fields vs) (hfo : fl = .none ∨ fl = rawInt L)
    (q : ∀ h', Flown hc ks (envX cn cs L a ccd cl :: outer) e cls dd a0 (rawInt L) own1 h' → X (.ref e) { s with heap := h' }) :
    notedBy M (A.deeper (envX cn cs L a ccd cl)) (envX cn cs L a ccd cl) X (.ref e) s := by
  obtain ⟨B, x1, x2, x3⟩ := x.fly
  refine fly_noted (Around.frames_deeper K.stack) rfl x1 hfo fun h' y1 y2 => q h' ⟨⟨B, y1, x2, x3⟩, fun b hb o ho => ?_, x.fresh, x.nd⟩
  obtain ⟨sl, h2⟩ := x.slots b hb o ho
  obtain ⟨o', h3, hn⟩ := hnf b hb
  rw [ho] at h3; cases h3
  obtain ⟨sl2, h4⟩ := y2 b _ h2 hn
  exact ⟨sl2, h4⟩
theorem flown_back {X : Value → Shared → Prop} {hc : Heap} {ks : List Addr} (x : Flown hc ks (envX cn cs L a ccd cl :: outer) e cls dd a0 fl own1 s.heap) (hnf : ∀ b ∈ frs (envX cn cs L a ccd cl :: outer), ∃ o, hc.get? b = some o ∧ ∀ vs, o.data ≠ .fields vs)
    (q : ∀ h', Flown hc ks (envX cn cs L a ccd cl :: outer) e cls dd a0 (rawInt L) own1 h' → X (.ref e) { s with heap := h' }) :
    cameBackBy M A (envX cn cs L a ccd cl) X (.ref e) s := by
  obtain ⟨B, x1, x2, x3⟩ := x.fly
  refine fly_back rfl x1 fun h' y1 y2 => q h' ⟨⟨B, y1, x2, x3⟩, fun b hb o ho => ?_, x.fresh, x.nd⟩
  obtain ⟨sl, h2⟩ := x.slots b hb o ho
  obtain ⟨o', h3, hn⟩ := hnf b hb
  rw [ho] at h3; cases h3
  obtain ⟨sl2, h4⟩ := y2 b _ h2 hn
  exact ⟨sl2, h4⟩
/-- the frames at hand are no records -/
theorem frames_no {hc : Heap} (K : Below A bF outer (gOf h0 own0)) (S : St (gOf h0 own0) L hc lo own) : ∀ b ∈ frs (envX cn cs L a ccd cl :: outer), ∃ o, hc.get? b = some o ∧ ∀ vs, o.data ≠ .fields vs := fun b hb => by
  obtain ⟨m, F, _⟩ := S.fr
  rcases List.mem_cons.mp hb with rfl | hb
  · obtain ⟨oL, es, ep, hL, hd, _⟩ := F.ns
    exact ⟨oL, hL, fun vs q => by rw [hd] at q; cases q⟩
  · obtain ⟨o, hg, hn⟩ := frs_g K hb
    exact ⟨o, F.keep b o hg, hn⟩
/-- it leaves a frame that it came through -/
theorem flown_leave {hc : Heap} {ks : List Addr} {Q : Unit → Shared → Prop} (K : Below A bF outer (gOf h0 own0)) (S : St (gOf h0 own0) L hc lo own) (x : Flown hc ks (envX cn cs L a ccd cl :: outer) e cls dd a0 fl own1 s.heap) (hfo : fl = .none ∨ fl = rawInt L)
    (hks : ∀ b ∈ ks, b ∈ keys own)
    (q : ∀ h', Flown h0 (keys own0) outer e cls dd a0 .none own1 h' → Q () { s with heap := h' }) :
    wpAny M (A.deeper (envX cn cs L a ccd cl)) (leaving (envX cn cs L a ccd cl) (.ref e)) Q E s := by
  obtain ⟨m, F, _⟩ := S.fr
  obtain ⟨B, x1, x2, x3⟩ := x.fly
  refine fly_leave (Around.frames_deeper K.stack) rfl x1 hfo fun h' y1 y2 => q h' ⟨⟨B, y1, x2, fun b o hb hn hf => ?_⟩, fun b hb o ho => ?_, fun p hp => ?_, x.nd⟩
  · have hg := gOf_keep hb hn
    refine x3 b o (F.keep b o hg) (fun hm => ?_) fun hm => ?_
    · obtain ⟨p, hp, e1⟩ := List.mem_map.mp (hks b hm)
      have := (S.nw p hp).2.2
      rw [e1, hg] at this; cases this
    · rcases List.mem_cons.mp hm with e1 | hm
      · subst e1; exact absurd (Nat.lt_of_lt_of_le (Heap.lt_size hg) F.above) (Nat.lt_irrefl _)
      · exact hf hm
  · obtain ⟨o', hg, hn⟩ := frs_g K hb
    have e2 := gOf_get hg
    rw [ho] at e2; cases e2
    obtain ⟨sl, h3⟩ := x.slots b (.tail _ hb) o (F.keep b o hg)
    obtain ⟨sl2, h4⟩ := y2 b _ h3 hn
    exact ⟨sl2, h4⟩
  · refine flown_fresh ?_
    rcases x.fresh p hp with z | z
    · exact S.gnone z
    · obtain ⟨p2, hp2, e1⟩ := List.mem_map.mp (hks _ z)
      rw [← e1]; exact (S.nw p2 hp2).2.2
end
end Mine

namespace Mine
open PySem PySem.W PySem.Spec PySem.Calls PyProof.Rows

theorem At.updK {a : Addr} {o o' : Obj} {l l' : List (Addr × Obj)} (U : At a o o' l l') (nd : (l.map (·.1)).Nodup) : Upd a o o' l l' := by
  induction U with
  | @here r =>
    rw [List.map_cons, List.nodup_cons] at nd
    exact .head fun p hp e => nd.1 (e ▸ List.mem_map_of_mem (f := (·.1)) hp)
  | @there p r r' U ih =>
    rw [List.map_cons, List.nodup_cons] at nd
    exact .tail (fun e => nd.1 (e ▸ List.mem_map_of_mem (f := (·.1)) U.mem)) (ih nd.2)

section
variable {prog : Program} {w : World} {A : Around} {E : Value → Shared → Prop} {g h : Heap} {L a b l it sl t x dx C f c' q0 : Addr} {lo : List (Str × Value)} {own own' own0 : List (Addr × Obj)} {G : Array GenState} {D : Drawn} {tk : Nat} {O : OsState}
  {vs ws : List Value} {n m i : Nat} {K : Frag} {name : Str} {v : Value} {es es' : List DictEntry} {n' : Nat} {b0 : Heap} {pos : Pos} {env : Env}

theorem St.inst (S : St g L h lo own) (hx : (x, instObj C dx) ∈ own) (hd : (dx, dictOf es n) ∈ own) : InstAt h x (instObj C dx) C (some (dictOf es n)) := ⟨S.at hx, rfl, rfl, S.at hd⟩

theorem m_Attr {value : Expr} {Q : Value → Shared → Prop} {s : Shared}
    (he : eval (.Attribute value name pos) env = (do
      let o ← eval value env
      standAt pos.atName
      let r ← holding [o] (getAttr o name true)
      letTemporaryGo value o r
      pure r))
    (q : wpAny (model prog w) A (eval value env) (fun o s₁ => wpAny (model prog w) A (getAttr o name true) Q E s₁) E s) : wpAny (model prog w) A (eval (.Attribute value name pos) env) Q E s := Attribute_any_ q he

theorem m_getOwn {expr : Bool} {attr : Option Value} {Q : Value → Shared → Prop} (S : St g L h lo own) (X : K.In g) (hx : (x, instObj C dx) ∈ own) (hd : (dx, dictOf es n) ∈ own) (hg : plainGet K C name = true) (hh : hasDictIn K C = true)
    (ha : findIn K (.ref C) name = some attr) (hn : noGet K attr = true) (hl : getL name es = some (some v)) (hv : handedIn v = true) (q : ∀ tk', Q v ⟨h, G, D, tk', O⟩) : wpAny (model prog w) A (getAttr (.ref x) name expr) Q E ⟨h, G, D, tk, O⟩ := by
  obtain ⟨m, F, _⟩ := S.fr
  exact get_own (s := ⟨h, G, D, tk, O⟩) F X (S.inst hx hd) hg hh ha hn hl hv (q _)
theorem m_setOwn {Q : Unit → Shared → Prop} (S : St g L h lo own) (X : K.In g) (hx : (x, instObj C dx) ∈ own) (U : At dx (dictOf es n) (dictOf (putL name (PyData.keyHash w.params name) (.str name (tk + 1)) v es) (putN name es n)) own own')
    (hs : findIn K (.ref C) "__setattr__" = some (some (.builtin "object.__setattr__"))) (hp : plainOver K C = true) (ht : takerIn K C name = some none) (hh : hasDictIn K C = true) (hl : (getL name es).isSome = true) (hz : es.length ≤ 900)
    (q : ∀ h' tk', St g L h' lo own' → Q () ⟨h', G, D, tk', O⟩) : wpAny (model prog w) A (setAttr (.ref x) name v) Q E ⟨h, G, D, tk, O⟩ := by
  obtain ⟨m, F, hlo⟩ := S.fr
  have hlen : (putL name (PyData.keyHash w.params name) (.str name (tk + 1)) v es).length ≤ es.length + 1 := by
    clear U hl hz
    induction es with
    | nil => exact Nat.le_refl _
    | cons e r ih =>
      simp only [putL]
      split
      · simp
      · simp only [List.length_cons]; omega
  exact set_dict (s := ⟨h, G, D, tk, O⟩) F X S.nw (S.inst hx U.mem) rfl hs hp ht hh hl rfl (U.updK S.nd) (Nat.le_trans hlen (by omega)) fun h' F' N' => q h' _ ⟨⟨m, F', hlo⟩, N', U.keys ▸ S.nd⟩
theorem m_bound {expr : Bool} {Q : Value → Shared → Prop} (S : St g L h lo own) (X : K.In g) (hx : (x, instObj C dx) ∈ own) (hd : (dx, dictOf es n) ∈ own) (hg : plainGet K C name = true) (hh : hasDictIn K C = true)
    (ha : findIn K (.ref C) name = some (some (.ref f))) (hf : isFn K (.ref f) = true) (hgf : specialIn K (.ref f) "__get__" = some (some (.builtin "function.__get__"))) (ht : takesIn K (.ref f) = some false) (hc : copiedNames.contains name = false) (hl : getL name es = some none)
    (q : ∀ r h' tk', St g L h' lo ((r, methodObj (.ref f) (.ref x)) :: own) → Q (.ref r) ⟨h', G, D, tk', O⟩) : wpAny (model prog w) A (getAttr (.ref x) name expr) Q E ⟨h, G, D, tk, O⟩ := by
  obtain ⟨m, F, hlo⟩ := S.fr
  refine kbm_bound (s := ⟨h, G, D, tk, O⟩) F X S.nw (S.inst hx hd) hg hh ha hf hgf ht hc hl fun r h' F' N' hlt => q r h' _ ⟨⟨m, F', hlo⟩, N', ?_⟩
  rw [List.map_cons, List.nodup_cons]
  refine ⟨fun hm => ?_, S.nd⟩
  obtain ⟨p, hp, e⟩ := List.mem_map.mp hm
  have := hlt p hp
  dsimp only at e
  rw [e] at this
  exact Nat.lt_irrefl _ this
theorem m_methInst {pl : Sem Bool} {Q : Value × List Value → Shared → Prop} (S : St g L h lo own) (X : K.In g) (hx : (x, instObj C dx) ∈ own) (hd : (dx, dictOf es n) ∈ own) (hg : plainGet K C name = true)
    (hf : findIn K (.ref C) name = some (some (.ref f))) (ht : isFn K (.ref f) = true) (hl : getL name es = some none) (q : Q (.ref f, [.ref x]) ⟨h, G, D, tk, O⟩) : wpAny (model prog w) A (getMethod (.ref x) name pl) Q E ⟨h, G, D, tk, O⟩ := by
  obtain ⟨m, F, hlo⟩ := S.fr
  exact method_inst (s := ⟨h, G, D, tk, O⟩) F X (S.inst hx hd) hg hf ht hl q
/-- a method's name that the own dict of an object holds -/
theorem m_methOwn {pl : Sem Bool} {Q : Value × List Value → Shared → Prop} (S : St g L h lo own) (X : K.In g) (hx : (x, instObj C dx) ∈ own) (hd : (dx, dictOf es n) ∈ own) (hg : plainGet K C name = true) (hh : hasDictIn K C = true)
    (ha : findIn K (.ref C) name = some none) (hl : getL name es = some (some v)) (hv : handedIn v = true) (q : ∀ tk', Q (v, []) ⟨h, G, D, tk', O⟩) : wpAny (model prog w) A (getMethod (.ref x) name pl) Q E ⟨h, G, D, tk, O⟩ := by
  obtain ⟨m, F, hlo⟩ := S.fr
  exact method_usual (s := ⟨h, G, D, tk, O⟩) (X.keeps F.keep) (S.inst hx hd) (plainGet_of hg).1 (plainGet_of hg).2 ha rfl (m_getOwn S X hx hd hg hh ha rfl hl hv q)

theorem m_setItem0 {k : Int} {u : Tok} {Q : Unit → Shared → Prop} {y : Value} (S : St g L h lo own) (U : At l (listOf vs.toArray n) (listOf (vs.set k.toNat y).toArray n) own own') (h0 : 0 ≤ k) (hk : k < vs.length) (hz : vs.length ≤ sizeLine)
    (q : ∀ h', St g L h' lo own' → Q () ⟨h', G, D, tk, O⟩) : wpAny (model prog w) A (setItem (.ref l) (.int k u) y) Q E ⟨h, G, D, tk, O⟩ := by
  have ho := S.at U.mem
  have hl : h.IsList l vs.toArray := isList_of ho
  have hfit : k < 2 ^ 63 := by have := lt_fit hz; omega
  unfold setItem
  try with_reducible refine wpAny_holding ?_
  first | refine wpAny_bind (wpAny_pure ?_) | skip
  refine wpAny_bind (wpAny_sequenceKey (s := ⟨h, G, D, tk, O⟩) hl.typeIs (by decide) ?_)
  refine wpAny_bind (wpAny_callSpecial?_slot (name := Str.ofString "__setitem__") hl.typeIs slot_list_setitem (wpAny_call_entry slot_list_setitem hl.typeIs entry_list_setitem ?_ (args_list_setitem _ _ _)))
  show wpAny _ _ (Builtin.List.listSubscript? (.int k u) >>= _) _ _ _
  refine wpAny_bind (wpAny_listSubscript_int (fitsIndex_of h0 hfit) ?_)
  clear hfit
  obtain ⟨j, rfl⟩ := Int.eq_ofNat_of_zero_le h0
  have hj : j < vs.length := by omega
  have hx' : vs.toArray[j]? = some vs[j] := by simp [hj]
  show wpAny _ _ ((seqItemAt l j >>= fun r => pure (r.map (j, ·))) >>= _) _ _ _
  refine wpAny_bind (wpAny_bind (wpAny_seqItemAt ho rfl (wpAny_pure ?_)))
  rw [hx']
  show wpAny _ _ (setSeqItemAt l j y >>= _) _ _ _
  obtain ⟨n', hd'⟩ := Obj.data_mapSeq (o := listOf vs.toArray n) rfl (·.setIfInBounds j y)
  refine wpAny_bind (wpAny_setSeqItemAt ho rfl ?_)
  have fin : Q () ⟨h.update l (Obj.mapSeq (·.setIfInBounds j y)), G, D, tk, O⟩ := by
    refine q _ (S.upd U (Heap.SameBut.update ..).extBut ?_)
    rw [Heap.get?_update_self _ ho (Obj.isFreed_of_seq hd')]
    simp [Obj.mapSeq]
  first
    | exact wpAny_bind (wpAny_pure (wpAny_pure ⟨.none, rfl, wpAny_pure fin⟩))
    | exact wpAny_pure ⟨.none, rfl, wpAny_pure fin⟩
end
end Mine

namespace Mine
open PySem PySem.W PySem.Spec PySem.Calls PyProof.Rows

abbrev citOf (f s : Value) : Obj := { cls := .type "callable_iterator", data := .fields #[f, s, .bool false] }

theorem slot_cit_next : Slot "callable_iterator" "__next__" "callable_iterator.__next__" :=
  .of (owner := "callable_iterator") (n := "__next__") (by rw [typeLookup_type, builtinLookup_eq_fast]; kernel_rfl) (by decide +kernel) (by decide +kernel) (by decide +kernel)
    (by first | exact .inl (by decide +kernel) | exact .inr (by decide +kernel)) (by rw [isSubtype_type]; kernel_rfl)
theorem entry_cit_next : entryFor table "callable_iterator.__next__" = some Builtin.«callable_iterator.__next__» := entryFor_of_fast (by kernel_rfl)
theorem args_cit_next (a : Value) : argsOk "callable_iterator.__next__" ⟨[a], []⟩ := by unfold argsOk; kernel_rfl
theorem slot_cit_iter : Slot "callable_iterator" "__iter__" "callable_iterator.__iter__" :=
  .of (owner := "callable_iterator") (n := "__iter__") (by rw [typeLookup_type, builtinLookup_eq_fast]; kernel_rfl) (by decide +kernel) (by decide +kernel) (by decide +kernel)
    (by first | exact .inl (by decide +kernel) | exact .inr (by decide +kernel)) (by rw [isSubtype_type]; kernel_rfl)
theorem entry_cit_iter : entryFor table "callable_iterator.__iter__" = some Builtin.«dict_keyiterator.__iter__» :=
  entryFor_alias (id' := "dict_keyiterator.__iter__") (by kernel_rfl) rfl (by decide +kernel) (by kernel_rfl)
theorem args_cit_iter (a : Value) : argsOk "callable_iterator.__iter__" ⟨[a], []⟩ := by unfold argsOk; kernel_rfl

section
variable {prog : Program} {w : World} {A : Around} {E : Value → Shared → Prop} {g h : Heap} {L a b l it sl t x dx C f c' q0 : Addr} {lo : List (Str × Value)} {own own' own0 : List (Addr × Obj)} {G : Array GenState} {D : Drawn} {tk : Nat} {O : OsState}
  {vs ws : List Value} {n m i : Nat} {K : Frag} {name : Str} {v : Value} {es es' : List DictEntry} {n' : Nat} {b0 : Heap} {pos : Pos} {env : Env}

theorem wpAny_callBorrowed {M : Model} {s : Shared} {f : Value} {pos : List Value} {Q : Value → Shared → Prop}
    (hc : codeAny M A (.call f ⟨pos, []⟩) (fun r s' => match r with | .ok (.ret v) => Q v s' | .ok _ => False | .error e => E e s') s) : wpAny M A (callBorrowed f pos) Q E s := fun Γ p hΓ => by
  have key : Sem.wp M Γ (callBorrowed f pos) (fun a _ s' => Q a s') (fun e _ s' => E e s') p s =
      wpCode M (Γ.enter (.call f ⟨pos, []⟩) none p) (fun r s' => match r with | .ok (.ret v) => Q v s' | .ok _ => False | .error e => E e s') p s := by
    unfold callBorrowed
    rw [Sem.wp_call]
    congr 1
    funext r s'
    cases r with
    | error e => rfl
    | ok f => cases f <;> rfl
  rw [key]
  exact hc _ p rfl (hΓ.enter (.call f ⟨pos, []⟩) none p (by intro x; cases x))

/-- what the callee of a callable iterator is to give -/
abbrev citEnd : Obj := { cls := .type "callable_iterator", data := .fields #[.none, .none, .bool true] }
def CitBack (M : Model) (it bm f : Addr) (obm fo : Obj) (Q : Option Value → Shared → Prop) (E : Value → Shared → Prop) : Result → Shared → Prop := fun r s' => match r with
  | .ok (.ret (.str x t)) => s'.heap.get? bm = some obm ∧ s'.heap.get? f = some fo ∧ (∃ u, s'.heap.get? it = some (citOf (.ref bm) (.str Str.empty u))) ∧ if x == Str.empty then ∀ h', Heap.ExtBut it s'.heap h' → h'.get? it = some citEnd → Q none { s' with heap := h' } else Q (some (.str x t)) s'
  | .ok _ => False
  | .error e => (∀ (A' : Around) (E' : Value → Shared → Prop) (Q' : Bool → Shared → Prop), Q' false s' → wpAny M A' (isInstance e (.type "StopIteration")) Q' E' s') ∧ E e s'

theorem borrows_meth {s : Shared} {bm f : Addr} {self : Value} {fo : Obj} {fd : FuncData} {Q : Bool → Shared → Prop} (hb : s.heap.get? bm = some (methodObj (.ref f) self)) (hf : s.heap.get? f = some fo) (hfd : fo.data = .func fd)
    (q : Q true s) : wpAny (model prog w) A (borrowsExactly (.ref bm)) Q E s := by
  unfold borrowsExactly
  refine wpAny_bind (wpAny_load hb ?_)
  dsimp only
  rw [if_pos (by decide)]
  refine wpAny_bind (wpAny_load hf ?_)
  rw [hfd]
  exact wpAny_pure q

theorem m_itNext {s : Shared} {it bm f : Addr} {self : Value} {fo : Obj} {fd : FuncData} {u : Tok} {Q : Option Value → Shared → Prop} (hh : A.handled = none) (hi : s.heap.get? it = some (citOf (.ref bm) (.str Str.empty u))) (hb : s.heap.get? bm = some (methodObj (.ref f) self))
    (hf : s.heap.get? f = some fo) (hfd : fo.data = .func fd)
    (q : codeAny (model prog w) A.in1 (.call (.ref f) ⟨[self], []⟩) (CitBack (model prog w) it bm f (methodObj (.ref f) self) fo Q E) s) : wpAny (model prog w) A (pyNext (.ref it)) Q E s := by
  unfold pyNext
  refine wpAny_bind (wpAny_attempt (wpAny_callSpecial?_slot (name := Str.ofString "__next__") ⟨_, hi, rfl⟩ slot_cit_next (wpAny_call_entry slot_cit_next ⟨_, hi, rfl⟩ entry_cit_next ?_ (args_cit_next _))))
  unfold Builtin.«callable_iterator.__next__»
  refine wpAny_bind (wpAny_of_eq (a := (.ref it, [])) (by first | rfl | kernel_rfl) ?_)
  dsimp only
  refine wpAny_bind (wpAny_field hi rfl (x := .bool false) rfl ?_)
  rw [if_neg (by decide)]
  refine wpAny_bind (wpAny_field hi rfl (x := .ref bm) rfl ?_)
  refine wpAny_bind (wpAny_attempt ?_)
  unfold callOutOfASlot
  refine wpAny_bind (borrows_meth hb hf hfd ?_)
  rw [if_pos rfl]
  refine wpAny_callBorrowed (method_call hb (codeAny_mono q fun r s' z => ?_))
  cases r with
  | error e =>
    obtain ⟨z1, z2⟩ := z
    dsimp only
    refine wpAny_bind (z1 _ _ _ ?_)
    rw [if_pos (by decide)]
    refine wpAny_bind (wpAny_throw ?_)
    refine wpAny_bind (z1 _ _ _ ?_) 
    rw [if_neg (by decide)]
    exact wpAny_throw z2
  | ok fl =>
    cases fl with
    | ret v =>
      cases v with
      | str x t =>
        obtain ⟨z1, z0, ⟨u', z2⟩, z3⟩ := z
        dsimp only
        refine wpAny_bind (wpAny_field z2 rfl (x := .bool false) rfl ?_)
        rw [if_neg (by decide)]
        refine wpAny_bind (wpAny_field z2 rfl (x := .str Str.empty u') rfl ?_)
        refine wpAny_bind (wpAny_holding (eqGives_str _ _ _ _ _ _ _ _ _ _ ?_))
        cases hx : Str.empty == x with
        | false =>
          have hx2 : (x == Str.empty) = false := by
            rw [beq_eq_false_iff_ne] at hx ⊢
            exact fun e => hx e.symm
          rw [if_pos (by decide)]
          rw [hx2] at z3
          exact wpAny_pure ⟨_, rfl, wpAny_pure z3⟩
        | true =>
          have hx2 : (x == Str.empty) = true := by
            rw [← eq_of_beq hx]; simp
          rw [if_neg (by decide)]
          rw [hx2, if_pos rfl] at z3
          refine wpAny_bind (wpAny_rule ?_)
          refine wpAny_bind ?_
          show wpAny _ _ (field (.ref it) 0 >>= fun o => slotLetsGo "callable_iterator.__next__" o _ >>= fun _ => setField (.ref it) 0 .none >>= fun _ => setField (.ref it) 1 .none >>= fun _ => setField (.ref it) 2 (.bool true)) _ _ _
          refine wpAny_bind (wpAny_field z2 rfl (x := .ref bm) rfl (wpAny_bind ?_))
          unfold slotLetsGo
          refine wpAny_bind (borrows_meth z1 z0 hfd ?_)
          rw [if_pos rfl]
          refine wpAny_pure ?_
          obtain ⟨h2, G2, D2, tk2, O2⟩ := s'
          have k1 := Heap.get?_update_self (h := h2) (Obj.mapFields (·.setIfInBounds 0 Value.none)) z2 rfl
          refine wpAny_bind (wpAny_setField z2 rfl (by simp) ?_)
          have k2 := Heap.get?_update_self (Obj.mapFields (·.setIfInBounds 1 Value.none)) k1 rfl
          refine wpAny_bind (wpAny_setField k1 rfl (by simp) ?_)
          have k3 := Heap.get?_update_self (Obj.mapFields (·.setIfInBounds 2 (Value.bool true))) k2 rfl
          refine wpAny_setField k2 rfl (by simp) ?_
          unfold Builtin.SmallTypes.stopIteration
          refine wpAny_bind ?_
          simp only [newExc, newTuple]
          refine wpAny_bind (wpAny_newObj_type ?_ (by size_fits))
          refine wpAny_bind (m := firstArgMember _ _) (wpAny_of_eq (a := Value.none) (by first | rfl | (simp only [firstArgMember]; rfl)) ?_)
          refine wpAny_newObj_type ?_ (by size_fits)
          simp only [raiseNew]
          refine wpAny_bind (wpAny_handled ?_)
          rw [show A.in1.handled = none from hh]
          refine wpAny_bind (wpAny_pure (wpAny_throw ?_))
          refine wpAny_bind (wpAny_isInstance (T := "StopIteration") (b := true) ⟨_, Heap.get?_push_size _ rfl, rfl⟩ isSubtype_stop ?_)
          exact wpAny_pure (z3 _ ((((Heap.SameBut.update ..).extBut.trans ((Heap.SameBut.update ..).extBut.trans (Heap.SameBut.update ..).extBut)).push _).push _) (by
            refine Heap.get?_push_of_some _ (Heap.get?_push_of_some _ (k3.trans ?_))
            simp [Obj.mapFields]))
      | _ => exact z.elim
    | _ => exact z.elim

/-- an ended one -/
theorem m_itNextEnded {s : Shared} {it : Addr} {Q : Option Value → Shared → Prop} (hh : A.handled = none) (hi : s.heap.get? it = some citEnd) (q : ∀ h', (∀ b o, s.heap.get? b = some o → h'.get? b = some o) → Q none { s with heap := h' }) : wpAny (model prog w) A (pyNext (.ref it)) Q E s := by
  unfold pyNext
  refine wpAny_bind (wpAny_attempt (wpAny_callSpecial?_slot (name := Str.ofString "__next__") ⟨_, hi, rfl⟩ slot_cit_next (wpAny_call_entry slot_cit_next ⟨_, hi, rfl⟩ entry_cit_next ?_ (args_cit_next _))))
  unfold Builtin.«callable_iterator.__next__»
  refine wpAny_bind (wpAny_of_eq (a := (.ref it, [])) (by first | rfl | kernel_rfl) ?_)
  dsimp only
  refine wpAny_bind (wpAny_field hi rfl (x := .bool true) rfl ?_)
  rw [if_pos (by decide)]
  refine wpAny_bind (wpAny_rule ?_)
  unfold Builtin.SmallTypes.stopIteration
  refine wpAny_bind ?_
  refine wpAny_bind ?_
  simp only [newExc, newTuple]
  refine wpAny_bind (wpAny_newObj_type ?_ (by size_fits))
  refine wpAny_bind (m := firstArgMember _ _) (wpAny_of_eq (a := Value.none) (by first | rfl | (simp only [firstArgMember]; rfl)) ?_)
  refine wpAny_newObj_type ?_ (by size_fits)
  simp only [raiseNew]
  refine wpAny_bind (wpAny_handled ?_)
  rw [show A.in1.handled = none from hh]
  refine wpAny_bind (wpAny_pure (wpAny_throw ?_))
  refine wpAny_bind (wpAny_isInstance (T := "StopIteration") (b := true) ⟨_, Heap.get?_push_size _ rfl, rfl⟩ isSubtype_stop ?_)
  exact wpAny_pure (q _ fun b o e => Heap.get?_push_of_some _ (Heap.get?_push_of_some _ e))
end
end Mine

namespace Mine
open PySem PySem.W PySem.Spec PySem.Calls PyProof.Rows

/-- after a call that changed `ks` alone -/
theorem St.after {g h h' : Heap} {L : Addr} {lo : List (Str × Value)} {own own' : List (Addr × Obj)} {ks : List Addr} (S : St g L h lo own) (hk : ∀ b o, h.get? b = some o → b ∉ ks → h'.get? b = some o) (hks : ∀ b ∈ ks, b ∈ keys own)
    (hm : ∀ p ∈ own', h'.get? p.1 = some p.2) (hkeys : keys own' = keys own) : St g L h' lo own' := by
  obtain ⟨m, F, hl⟩ := S.fr
  have nk : ∀ b ∈ keys own, b ≠ L ∧ g.get? b = none := fun b hb => by
    obtain ⟨p, hp, rfl⟩ := List.mem_map.mp hb
    exact (S.nw p hp).2
  have hL : L ∉ ks := fun hm => (nk L (hks L hm)).1 rfl
  refine ⟨⟨m, ⟨?_, fun b o e => hk b o (F.keep b o e) fun hb => ?_, F.above⟩, hl⟩, fun p hp => ⟨hm p hp, nk _ (by rw [← hkeys]; exact List.mem_map_of_mem (f := (·.1)) hp)⟩, by show (keys own').Nodup; rw [hkeys]; exact S.nd⟩
  · obtain ⟨o, es, ep, e, r⟩ := F.ns
    exact ⟨o, es, ep, hk _ _ e hL, r⟩
  · have := (nk b (hks b hb)).2
    rw [e] at this; cases this

section
variable {prog : Program} {w : World} {A : Around} {E : Value → Shared → Prop} {g h : Heap} {L a b l it sl t x dx C f c' q0 : Addr} {lo : List (Str × Value)} {own own' own0 : List (Addr × Obj)} {G : Array GenState} {D : Drawn} {tk : Nat} {O : OsState}
  {vs ws : List Value} {n m i : Nat} {K : Frag} {name : Str} {v : Value} {es es' : List DictEntry} {n' : Nat} {b0 : Heap} {pos : Pos} {env : Env}

/-- a call of a K function, or of one at hand -/
theorem m_cwK {first : List Value} {e : Expr} {rest : List Expr} {M : Model} {Q : Value → Shared → Prop} {s : Shared} (hf : FnAt f s.heap) (hs : starEach (e :: rest) env = (false, eval e env) :: starEach rest env) (hp : ((backTo pos (starEach rest env)).any fun x => x.1) = false)
    (q : wpAny M A (spliced (backTo pos (starEach (e :: rest) env))) (fun vs s₁ => FnAt f s₁.heap ∧ wpAny M A (call (.ref f) (first ++ vs)) Q E s₁) E s) : wpAny M A (callWith pos (.ref f) first (backTo pos (starEach (e :: rest) env)) []) Q E s := callWith_F hf q hs hp
theorem m_cwK0 {first : List Value} {M : Model} {Q : Value → Shared → Prop} {s : Shared} (hf : FnAt f s.heap)
    (q : wpAny M A (call (.ref f) (first ++ [])) Q E s) : wpAny M A (callWith pos (.ref f) first (backTo pos (starEach [] env)) []) Q E s := callWith_F0 hf q
theorem fnAt_K {oc : Value} {od : Option Addr} {fd : FuncData} {osl : Array (Option Value)} (X : K.In g) (S : St g L h lo own) (ho : K.lookup f = some ⟨oc, od, .func fd, osl⟩) : FnAt f h := ⟨oc, od, fd, osl, S.gkeep _ _ (X _ _ ho)⟩
theorem fnAt_own {oc : Value} {od : Option Addr} {fd : FuncData} {osl : Array (Option Value)} (S : St g L h lo own) (ho : (f, (⟨oc, od, .func fd, osl⟩ : Obj)) ∈ own) : FnAt f h := ⟨oc, od, fd, osl, S.at ho⟩
theorem m_callF {M : Model} {Q : Value → Shared → Prop} {s : Shared} {args : List Value} (q : codeAny M A (.call (.ref f) ⟨args, []⟩) (fun r s' => match r with | .ok (.ret v) => Q v s' | .ok _ => False | .error e => E e s') s) : wpAny M A (call (.ref f) args) Q E s := wpAny_call q

/-- the call of a function with free names that is at hand -/
theorem m_enterOwn {R : Result → Shared → Prop} {nm qual : Str} {params : Arguments} {body : List Stmt} {scope : Scope} {doc pm ctv : Value} {cl : List (Str × Addr)} {args : Args} {binds : List (Str × Value)}
    (X : K.In b0) (hlim : b0.NoLimit) (hb : b0.StaysIn h) (hown : ∀ p ∈ own, h.get? p.1 = some p.2) (hnd : (own.map (·.1)).Nodup)
    (ho : (f, fnMade nm qual params body scope cl doc pm c' ctv) ∈ own) (hcd : h.CodeRec (.ref c') qual) (hroom : A.depth < recursionLimit)
    (hbind : BindsTo ⟨h, G, D, tk, O⟩ (fnX nm qual params body scope cl .none .none doc pm none (.ref c') ctv) args binds) (hloc : ∀ y ∈ binds, scope.names.lookup y.1 = some .local)
    (hcell : ∀ x ∈ scope.names, x.2 ≠ .cell) (hco : scope.isCoroutine = false) (hgen : scope.isGenerator = false) (hk : scope.kind = .function)
    (q : ∀ L h₁ tk₁, L = h.objs.size → (∀ b o, h.get? b = some o → h₁.get? b = some o) → St (gOf h own) L h₁ binds.reverse own →
      wpAny (model prog w) (A.deeper (envX qual scope L f (.ref c') cl)) (execs body (envX qual scope L f (.ref c') cl))
        (fun fl s' => R (.ok (.ret (match fl with | .ret v => v | _ => .none))) s')
        (fun e s' => wpAny (model prog w) (A.deeper (envX qual scope L f (.ref c') cl)) (leaving (envX qual scope L f (.ref c') cl) e) (fun _ s'' => R (.error e) s'') (fun e' s'' => R (.error e') s'') s')
        ⟨h₁, G, D, tk₁, O⟩) : codeAny (model prog w) A (.call (.ref f) args) R ⟨h, G, D, tk, O⟩ :=
  codeAny_call_def (fd := fnX nm qual params body scope cl .none .none doc pm none (.ref c') ctv) (body := body) (binds := binds) hroom (hown _ ho) rfl (hlim.keeps hb) hcd rfl hbind hcell hloc
    (fun h₁ hns hk₁ => q _ h₁ _ rfl hk₁ (st_start hown hnd hns hk₁)) hco hgen hk

theorem args_iter2 (a b : Value) : argsOk "iter" ⟨[a, b], []⟩ := by unfold argsOk; kernel_rfl
theorem kind_iter : builtinKind "iter" = none := by decide +kernel
theorem plain_iter : plainId "iter" = true := by decide +kernel
theorem method_callable : typeLookup (.type "method") "__call__" = pure (some (.builtin "method.__call__")) := by rw [typeLookup_type, builtinLookup_eq_fast]; kernel_rfl
theorem m_iter2 {Q : Value → Shared → Prop} {fv self : Value} {u : Tok} {y : Str} (S : St g L h lo own) (hm : (q0, methodObj fv self) ∈ own)
    (q : ∀ it h', St g L h' lo ((it, citOf (.ref q0) (.str y u)) :: own) → Q (.ref it) ⟨h', G, D, tk, O⟩) : wpAny (model prog w) A (call (.builtin "iter") [.ref q0, .str y u]) Q E ⟨h, G, D, tk, O⟩ := by
  refine Calls.call_function_entry kind_iter plain_iter kdk_entry_iter (args_iter2 _ _) ?_
  unfold Builtin.«iter»
  refine wpAny_bind (wpAny_of_eq (a := [.ref q0, .str y u]) (by first | rfl | kernel_rfl) ?_)
  dsimp only
  refine wpAny_bind (wpAny_specialOf (T := "method") ⟨_, S.at hm, rfl⟩ method_callable ?_)
  dsimp only [Option.isNone]
  rw [if_neg (by decide)]
  refine wpAny_bind (wpAny_rule ?_)
  unfold newFields
  refine wpAny_bind (wpAny_newObj_type ?_ (by show 3 ≤ sizeLine + 2; exact Nat.le_of_ble_eq_true rfl))
  exact wpAny_pure ⟨_, rfl, q _ _ S.push⟩

theorem m_citIter {Q : Value → Shared → Prop} {s : Shared} {fv sv : Value} (hi : s.heap.get? it = some (citOf fv sv)) (q : Q (.ref it) s) : wpAny (model prog w) A (pyIter (.ref it)) Q E s := by
  have hT : s.TypeIs (.ref it) "callable_iterator" := ⟨_, hi, rfl⟩
  refine wpAny_pyIter_slot hT slot_cit_iter (wpAny_call_entry slot_cit_iter hT entry_cit_iter ?_ (args_cit_iter _))
  show wpAny _ _ (ret (.ref it)) _ _ s
  exact wpAny_pure ⟨_, rfl, "callable_iterator", _, hT, slot_cit_next.lookup, q⟩

end
end Mine

namespace Mine
open PySem PySem.W PySem.Spec PySem.Calls PyProof.Rows
open Builtin Builtin.ObjectAttr

abbrev excBm : List Value := [.type "Exception", .type "BaseException", .type "object"]
/-- an object of an exception class of the script -/
abbrev excOf (C : Addr) (dd : Option Addr) (t : Addr) : Obj := { cls := .ref C, dict := dd, data := .fields #[.ref t, .none, .none, .none, .bool false, .none] }

structure DictMap (od : Obj) (m : Str → Option Value) : Prop where
  dat : ∃ es ep, od.data = .dict es ep ∧ StrKeys es ∧ UniqKeys es ∧ ∀ name, nsFind es name = m name
theorem DictMap.ns1 {h : Heap} {d : Addr} {od : Obj} {m : Str → Option Value} (x : DictMap od m) (e : h.get? d = some od) : h.Ns1 d m := let ⟨es, ep, a, b, c, f⟩ := x.dat; ⟨od, es, ep, e, a, b, c, f⟩
theorem DictMap.of {h : Heap} {d : Addr} {m : Str → Option Value} (x : h.Ns1 d m) : ∃ od, h.get? d = some od ∧ DictMap od m := let ⟨od, es, ep, e, a, b, c, f⟩ := x; ⟨od, e, ⟨es, ep, a, b, c, f⟩⟩

/-- an exception class of the script, with an `__init__` -/
structure ExcK (K : Frag) (C N : Addr) : Prop where
  obj : ∃ nm q bs sn sub ab col dd k0 k1 k2 k3 k5, K.lookup C = some (excClassObj nm q C N bs excBm true sn sub ab col dd k0 k1 k2 k3 k5 "Exception.__new__")
  ok : nsOkIn K N = true

theorem nsMap_some_of_in {K : Frag} {h : Heap} {N : Addr} {x : Str} {v : Value} (X : K.In h) (e : nsOkIn K N = true) (q : nsIn K N x = some (some v)) : h.nsMap N x = some v := by
  obtain ⟨o, es, ep, ho, hd, _, hf⟩ := Heap.Ns.of_isNs (isNs_of_in X e)
  unfold nsIn at q
  split at q
  · rename_i c d es' n' sl z
    have := X _ _ z
    rw [ho] at this
    cases this
    cases hd
    split at q
    · rename_i en he
      rw [← hf]
      unfold nsFind findBy
      rw [← Array.find?_toList, he]
      simpa using q
    · split at q <;> cases q
  · cases q

section
variable {prog : Program} {w : World} {A : Around} {E : Value → Shared → Prop} {g h : Heap} {L a b l it sl x dx C N f e d t : Addr} {lo : List (Str × Value)} {own own' own0 : List (Addr × Obj)} {G : Array GenState} {D : Drawn} {tk : Nat} {O : OsState}
  {K : Frag} {name : Str} {v : Value} {m : Str → Option Value}

/-- the class is called -/
theorem m_excNew {rest : List Value} {oI : Obj} {Q : Value → Shared → Prop} (S : St g L h lo own) (X : K.In g) (XC : ExcK K C N) (hi : nsIn K N "__init__" = some (some (.ref f))) (hf : K.lookup f = some oI) (hfc : oI.cls = .type "function") (hrest : rest.length ≤ sizeLine)
    (q : ∀ h' e t, St g L h' lo ((e, excOf C none t) :: (t, tupOf rest) :: own) → wpAny (model prog w) (A.under (.builtin "type.__call__" ⟨.ref C :: rest, []⟩)) (call (.ref f) (.ref e :: rest)) (fun r s' => r = .none ∧ Q (.ref e) s') E ⟨h', G, D, tk, O⟩) :
    wpAny (model prog w) A (call (.ref C) rest) Q E ⟨h, G, D, tk, O⟩ := by
  obtain ⟨m, F, _⟩ := S.fr
  have Xh := X.keeps F.keep
  obtain ⟨nm, qn, bs, sn, sub, ab, col, dd, k0, k1, k2, k3, k5, hC⟩ := XC.obj
  refine wpAny_call_exc_init PySem.F.excBase_Exception (Xh _ _ hC) (.of_isNs (isNs_of_in Xh XC.ok)) (nsMap_some_of_in Xh XC.ok hi) (Xh _ _ hf) hfc (fun h' e M => ?_) hrest
  obtain ⟨t, he, htn, ht⟩ := M.there
  refine q h' e t ?_
  have S1 := S.new M.keeps htn ht
  have hne : e ≠ t := fun z => by rw [z, ht] at he; cases he
  have S2 := S.new M.keeps M.new he
  refine ⟨S1.fr, fun p hp => ?_, ?_⟩
  · rcases List.mem_cons.mp hp with rfl | hp
    · exact S2.nw _ (.head _)
    · exact S1.nw p hp
  · have n2 := S2.nd
    rw [List.map_cons, List.nodup_cons] at n2 ⊢
    refine ⟨fun hm => ?_, S1.nd⟩
    rcases List.mem_cons.mp hm with z | hm
    · exact hne z
    · exact n2.1 hm

/-- the first attribute of an exception -/
theorem exc_store0 {tk' : Tok} {Q : Fin → Shared → Prop} {nm q : Str} {bs : List Value} {sn : List Str} {sub : List Value} {ab : Bool} {col : Option Bool} {dd : Option Addr} {k0 k1 k2 k3 k5 : Option Value} {mN : Str → Option Value}
    (hC : h.get? C = some (excClassObj nm q C N bs excBm true sn sub ab col dd k0 k1 k2 k3 k5 "Exception.__new__")) (hn : h.Ns N mN) (hna : mN name = none) (hB : typeLookup (.type "Exception") name = pure none) (hx : h.get? e = some (excOf C none t))
    (hq : ∀ h' tk2 od, h'.get? e = some (excOf C (some h.objs.size) t) → h'.get? h.objs.size = some od → DictMap od (fun y => if y = name then some v else none) → (∀ b o, b ≠ e → h.get? b = some o → h'.get? b = some o) → Q (.done (.ret .none)) ⟨h', G, D, tk2, O⟩) :
    wpAny (model prog w) A (Builtin.«object.__setattr__» ⟨[.ref e, .str name tk', v], []⟩) Q E ⟨h, G, D, tk, O⟩ := by
  have SF := PySem.F.store_Exception
  have hpass := SF.passes (.ref e)
  have hx0 := hx
  obtain ⟨o, ho⟩ : ∃ o, o = excOf C none t := ⟨_, rfl⟩
  rw [← ho] at hx
  have hc : o.cls = .ref C := by rw [ho]
  have hdn : o.dict = none := by rw [ho]
  have hnc : ∀ c, o.data ≠ .cls c := fun c q => by rw [ho] at q; cases q
  unfold Builtin.«object.__setattr__»
  repeat (first | rw [refuse_eq] | (rw [refuseLoop_ref, hpass]) | (with_reducible refine wpAny_loadPart_at hx ?_; rw [hc]) | with_reducible refine wpAny_mroOf_exc hC ?_ | (with_reducible refine wpAny_typeLookup_exc hC hn SF.mro hB ?_; rw [hna]) | wp_step)
  rw [hdn, if_neg (by simp [typeHasDict])]
  split
  · rename_i hcd; cases hcd
  split
  · rename_i c hcd; exact absurd hcd (hnc c)
  have hx1 : (h.push { cls := .type "dict", data := .dict #[] }).get? e = some o := Heap.get?_push_of_some _ hx
  have hes : e ≠ h.objs.size := Nat.ne_of_lt (Heap.lt_size hx)
  refine wpAny_bind (wpAny_alloc' (wpAny_bind (wpAny_update' hx1 (wpAny_pure ?_))))
  have hgd : ((h.push { cls := .type "dict", data := .dict #[] }).update e fun o => { cls := o.cls, dict := some h.objs.size, data := o.data, slots := o.slots }).get? h.objs.size = some { cls := .type "dict", data := .dict #[] } :=
    (Heap.get?_update_ne _ _ _ _ hes.symm).trans (Heap.get?_push_at rfl rfl)
  have hnd : ((h.push { cls := .type "dict", data := .dict #[] }).update e fun o => { cls := o.cls, dict := some h.objs.size, data := o.data, slots := o.slots }).Ns h.objs.size (fun _ => none) :=
    ⟨_, #[], _, hgd, rfl, fun e he => absurd he (by simp), fun _ => rfl⟩
  show wpAny _ _ (storeInDict h.objs.size (.str name tk') name v) _ _ _
  unfold storeInDict newKeyGuard
  refine wpAny_bind (wpAny_pure (wpAny_bind (wpAny_nsSet1 (Heap.Ns1.of_empty hnd) fun h' hn' hs => ?_)))
  obtain ⟨oD, esD, epD, hoD, hdD, hcD⟩ := hn'.count (Within.cons name v Within.nil)
  refine wpAny_bind (wpAny_lookBehind hoD (by rw [hdD]; exact pastItsLine_dict (Nat.le_trans hcD (by rw [List.length_cons, List.length_nil, sizeLine_eq]; omega))) ?_)
  wp_walk
  obtain ⟨od, hod, hdm⟩ := DictMap.of hn'
  refine hq h' _ od ?_ hod hdm fun b ob hbe hb => (hs.2 b (Nat.ne_of_lt (Heap.lt_size hb))).trans ((Heap.get?_update_ne _ _ _ _ hbe).trans (Heap.get?_push_of_some _ hb))
  rw [hs.2 e hes, Heap.get?_update_self _ hx1 (by rw [ho]; rfl), ho]
end
end Mine

namespace Mine
open PySem PySem.W PySem.Spec PySem.Calls PyProof.Rows
open Builtin Builtin.ObjectAttr

section
variable {prog : Program} {w : World} {A : Around} {E : Value → Shared → Prop} {g h : Heap} {L a b l it sl x dx C N f e d t : Addr} {lo : List (Str × Value)} {own own' own0 : List (Addr × Obj)} {G : Array GenState} {D : Drawn} {tk : Nat} {O : OsState} {tk' : Tok}
  {K : Frag} {name : Str} {v : Value} {m : Str → Option Value} {od : Obj}

theorem chk_sa {Q : Unit → Shared → Prop} {nm q : Str} {bs : List Value} {sn : List Str} {sub : List Value} {ab : Bool} {col : Option Bool} {dd : Option Addr} {k0 k1 k2 k3 k5 : Option Value}
   (hC : h.get? C = some (excClassObj nm q C N bs excBm true sn sub ab col dd k0 k1 k2 k3 k5 "Exception.__new__")) (hx : h.get? e = some (excOf C none t)) (hq : Q () ⟨h, G, D, tk, O⟩) : wpAny (model prog w) A (checkBuiltinCall "object.__setattr__" ⟨[.ref e, .str name tk', v], []⟩) Q E ⟨h, G, D, tk, O⟩ :=
  @wpAny_check_sa A E h G D tk O nm q C N e bs excBm sn sub ab col dd k0 k1 k2 k3 k5 "Exception" "Exception.__new__" "object.__setattr__" "object" v (model prog w) (excOf C none t) (.str name tk') Q PySem.F.store_Exception hC hx rfl hq
theorem m_setExc0 {Q : Unit → Shared → Prop} (S : St g L h lo ((e, excOf C none t) :: own)) (X : K.In g) (XC : ExcK K C N) (hsa : findIn K (.ref C) "__setattr__" = some (some (.builtin "object.__setattr__"))) (hna : nsIn K N name = some none) (hB : typeLookup (.type "Exception") name = pure none)
    (q : ∀ h' tk' d od, DictMap od (fun y => if y = name then some v else none) → St g L h' lo ((e, excOf C (some d) t) :: (d, od) :: own) → Q () ⟨h', G, D, tk', O⟩) : wpAny (model prog w) A (setAttr (.ref e) name v) Q E ⟨h, G, D, tk, O⟩ := by
  obtain ⟨mm, F, hlo⟩ := S.fr
  have Xh := X.keeps F.keep
  obtain ⟨nm, qn, bs, sn, sub, ab, col, dd, k0, k1, k2, k3, k5, hC'⟩ := XC.obj
  have hC := Xh _ _ hC'
  have hn := Heap.Ns.of_isNs (isNs_of_in Xh XC.ok)
  have hx := S.at (.head _)
  have SF := PySem.F.store_Exception
  have I : InstAt h e (excOf C none t) C none := ⟨hx, rfl, rfl, trivial⟩
  refine set_plain (s := ⟨h, G, D, tk, O⟩) Xh I hsa ?_
  refine codeAny_call_builtin SF.slot.plain SF.entry ?_
  dsimp only
  refine chk_sa hC hx ?_
  refine exc_store0 hC hn (nsMap_none_of_in Xh XC.ok hna) hB hx ?_
  intro h' tk2 od h1 h2 h3 hk
  dsimp only
  refine q h' _ h.objs.size od h3 ?_
  have Lne : L ≠ e := fun z => (S.nw _ (.head _)).2.1 z.symm
  have hsz : h.get? h.objs.size = none := Heap.get?_none_of_le (Nat.le_refl _)
  have hge : g.get? e = none := (S.nw _ (.head _)).2.2
  have nin : ∀ p ∈ own, p.1 ≠ e := fun p hp z => S.apart (b := p.1) (o' := p.2) hp z.symm
  have ne2 : ∀ p ∈ (e, excOf C none t) :: own, h.objs.size ≠ p.1 := fun p hp z => by
    have := S.at (a := p.1) (o := p.2) hp
    rw [← z, hsz] at this; cases this
  refine ⟨⟨mm, ⟨?_, fun b o q => hk b o (fun z => by rw [z, hge] at q; cases q) (F.keep b o q), F.above⟩, hlo⟩, fun p hp => ?_, ?_⟩
  · obtain ⟨o, es, ep, z, r⟩ := F.ns
    exact ⟨o, es, ep, hk _ _ Lne z, r⟩
  · rcases List.mem_cons.mp hp with rfl | hp
    · exact ⟨h1, Lne.symm, hge⟩
    · rcases List.mem_cons.mp hp with rfl | hp
      · exact ⟨h2, fun z => by have := S.ltL; exact absurd (z ▸ this) (Nat.lt_irrefl _), S.gnone hsz⟩
      · have z := S.nw p (.tail _ hp)
        exact ⟨hk _ _ (nin p hp) z.1, z.2⟩
  · have nd := S.nd
    rw [List.map_cons, List.nodup_cons] at nd
    rw [List.map_cons, List.nodup_cons, List.map_cons, List.nodup_cons]
    refine ⟨fun hm => ?_, fun hm => ?_, nd.2⟩
    · rcases List.mem_cons.mp hm with z | hm
      · exact ne2 _ (.head _) z.symm
      · exact nd.1 hm
    · obtain ⟨p, hp, z⟩ := List.mem_map.mp hm
      exact ne2 p (.tail _ hp) z.symm

theorem m_setExc1 {Q : Unit → Shared → Prop} {ns : List Str} (S : St g L h lo ((e, excOf C (some d) t) :: (d, od) :: own)) (X : K.In g) (XC : ExcK K C N) (hs : nsIn K N "__setattr__" = some none) (hna : nsIn K N name = some none) (hB : typeLookup (.type "Exception") name = pure none)
    (hd : DictMap od m) (hw : Within m ns) (hsz : ns.length ≤ sizeLine)
    (q : ∀ h' tk' od, DictMap od (fun y => if y = name then some v else m y) → St g L h' lo ((e, excOf C (some d) t) :: (d, od) :: own) → Q () ⟨h', G, D, tk', O⟩) : wpAny (model prog w) A (setAttr (.ref e) name v) Q E ⟨h, G, D, tk, O⟩ := by
  obtain ⟨mm, F, hlo⟩ := S.fr
  have Xh := X.keeps F.keep
  obtain ⟨nm, qn, bs, sn, sub, ab, col, dd, k0, k1, k2, k3, k5, hC'⟩ := XC.obj
  have hC := Xh _ _ hC'
  have hn := Heap.Ns.of_isNs (isNs_of_in Xh XC.ok)
  have hx := S.at (.head _)
  have hde : d ≠ e := fun z => S.apart (.head _) z.symm
  have heC : e ≠ C := fun z => by rw [z, hC] at hx; cases hx
  have I : h.Inst e C m := ⟨_, hx, rfl, (fun c q => by cases q), .inr ⟨d, rfl, hde, hd.ns1 (S.at (.tail _ (.head _)))⟩⟩
  refine store_attr PySem.F.store_Exception hC hn (nsMap_none_of_in Xh XC.ok hs) (nsMap_none_of_in Xh XC.ok hna) hB heC I (fun h' tk' I' hk hsame => ?_) hw hsz
  obtain ⟨o1, e1, e2, e3, e4, e5⟩ := hsame _ hx
  have e6 := e5 d rfl
  have ho1 : o1 = excOf C (some d) t := by
    obtain ⟨c1, c2, c3, c4⟩ := o1
    dsimp only at e2 e3 e4 e6
    subst e2 e3 e4 e6
    rfl
  subst ho1
  obtain ⟨o2, z1, _, _, z4⟩ := I'
  rw [e1] at z1; cases z1
  rcases z4 with ⟨z, _⟩ | ⟨d2, z, _, hm2⟩
  · cases z
  cases z
  obtain ⟨od', hod, hdm⟩ := DictMap.of hm2
  refine q h' tk' od' hdm (S.after (ks := [d]) (fun b o hb hn => ?_) (fun b hb => by rcases List.mem_singleton.mp hb with rfl; exact .tail _ (.head _)) (fun p hp => ?_) rfl)
  · by_cases z : b = e
    · subst z; rw [hx] at hb; cases hb; exact e1
    · exact hk b o z (fun o0 dx q1 q2 q3 => by rw [hx] at q1; cases q1; cases q2; exact hn (by rw [q3]; exact .head _)) hb
  · rcases List.mem_cons.mp hp with rfl | hp
    · exact e1
    · rcases List.mem_cons.mp hp with rfl | hp
      · exact hod
      · have n1 : p.1 ≠ e := fun z => S.apart (b := p.1) (o' := p.2) (.tail _ hp) z.symm
        have n2 : p.1 ≠ d := fun z => by
          have := S.nd
          simp only [List.map_cons, List.nodup_cons] at this
          exact this.2.1 (z ▸ List.mem_map_of_mem (f := (·.1)) hp)
        exact hk _ _ n1 (fun o0 dx q1 q2 q3 => by rw [hx] at q1; cases q1; cases q2; exact n2 q3) (S.at (.tail _ (.tail _ hp)))

/-- an attribute of an exception's own dict -/
theorem m_getExc {expr : Bool} {Q : Value → Shared → Prop} {oe : Obj} (S : St g L h lo own) (X : K.In g) (XC : ExcK K C N) (hx : (e, oe) ∈ own) (hoc : oe.cls = .ref C) (hod : oe.dict = some d) (hof : ∃ fs, oe.data = .fields fs) (hdo : (d, od) ∈ own) (hd : DictMap od m) (hv : m name = some v)
    (hg : nsIn K N "__getattribute__" = some none) (hg2 : nsIn K N "__getattr__" = some none) (hna : nsIn K N name = some none) (hB : typeLookup (.type "Exception") name = pure none) (hh : handedIn v = true)
    (q : ∀ tk', Q v ⟨h, G, D, tk', O⟩) : wpAny (model prog w) A (getAttr (.ref e) name expr) Q E ⟨h, G, D, tk, O⟩ := by
  obtain ⟨mm, F, hlo⟩ := S.fr
  have Xh := X.keeps F.keep
  obtain ⟨nm, qn, bs, sn, sub, ab, col, dd, k0, k1, k2, k3, k5, hC'⟩ := XC.obj
  have hC := Xh _ _ hC'
  have hn := Heap.Ns.of_isNs (isNs_of_in Xh XC.ok)
  have FB := PySem.F.attrBase_Exception
  have ho := S.at hx
  have hns := hd.ns1 (S.at hdo)
  have hng := nsMap_none_of_in Xh XC.ok hg
  have hng2 := nsMap_none_of_in Xh XC.ok hg2
  have hnn := nsMap_none_of_in Xh XC.ok hna
  obtain ⟨fs, hfs⟩ := hof
  have f3 := FB.ga.bind (.ref e)
  have hx0 : (expr && onTheHeap (Value.builtin "BaseException.__getattribute__")) = false := by cases expr <;> rfl
  have hx2 : (Value.builtin "BaseException.__getattribute__" == Value.builtin "object.__getattribute__") = false := by decide +kernel
  have hx1 : (onTheHeap (Value.ref C) && Value.builtin "BaseException.__getattribute__" == Value.builtin "object.__getattribute__") = false := by rw [hx2]; rfl
  have hcB : (Value.ref C :: excBm).contains (.type "BaseException") = true := by rw [List.contains_cons, FB.hasBase, Bool.or_true]
  have hhv := handedOut_of hh
  unfold getAttr getAttrBy
  repeat (any_goals (first | assumption | (with_reducible refine wpAny_loadPart_at ho ?_; rw [hoc]) | (with_reducible refine wpAny_typeLookup_exc hC hn FB.mro FB.ga.lookup ?_; rw [hng]) | (with_reducible refine wpAny_typeLookup_exc hC hn FB.mro FB.noGetattr ?_; rw [hng2]) | wp_step))
  refine codeAny_call_builtin FB.ga.plain PySem.F.entry_bexc_ga (wpAny_check_ga_own FB hC .base ho hoc ?_)
  obtain ⟨oc, odd, oda, osl⟩ := oe
  dsimp only at hoc hod hfs
  subst hoc hod hfs
  repeat (any_goals (first | assumption | (with_reducible refine wpAny_loadPart_at ho ?_) | with_reducible refine wpAny_loadPart_at hC ?_ | (with_reducible refine wpAny_typeLookup_exc hC hn FB.mro hB ?_; rw [hnn]) | (with_reducible refine wpAny_nsGet hns.ns ?_; rw [hv]) | wp_step))
  exact q _
end
end Mine

namespace Mine
open PySem PySem.W PySem.Spec PySem.Calls PyProof.Rows
open Builtin Builtin.ObjectAttr

section
variable {prog : Program} {w : World} {A : Around} {E : Value → Shared → Prop} {g h : Heap} {L a b l it sl x dx C N f e d t : Addr} {lo : List (Str × Value)} {own own' own0 : List (Addr × Obj)} {G : Array GenState} {D : Drawn} {tk : Nat} {O : OsState} {tk' : Tok}
  {K : Frag} {name : Str} {v : Value} {m : Str → Option Value} {od : Obj} {env : Env} {pos : Pos} {rest : List Value}

theorem chk_init {M : Model} {Q : Unit → Shared → Prop} {nm q : Str} {bs : List Value} {sn : List Str} {sub : List Value} {ab : Bool} {col : Option Bool} {dd ed : Option Addr} {k0 k1 k2 k3 k5 : Option Value}
   (hC : h.get? C = some (excClassObj nm q C N bs excBm true sn sub ab col dd k0 k1 k2 k3 k5 "Exception.__new__")) (hx : h.get? e = some (excOf C ed t)) (hq : Q () ⟨h, G, D, tk, O⟩) : wpAny M A (checkBuiltinCall "Exception.__init__" ⟨.ref e :: rest, []⟩) Q E ⟨h, G, D, tk, O⟩ := by
  have F := PySem.F.excBase_Exception
  have hsub := F.sub
  have hshort := F.noStar
  have hcB : (Value.ref C :: excBm).contains (.type "Exception") = true := by rw [List.contains_cons, F.hasB, Bool.or_true]
  simp only [checkBuiltinCall, F.initKind, F.initSplit, F.initRow]
  refine wpAny_bind ?_
  unfold isInstance
  repeat (first | (with_reducible refine wpAny_loadPart_at hx ?_) | (with_reducible refine wpAny_isSubtype_exc hC ?_; rw [hcB]) | wp_step)
  refine wpAny_onRaise ?_
  rw [show ∀ (a b : String) (n : Nat), Bind.check ⟨.positional, "*", "Exception", .self, [⟨"args", .varPos, false⟩]⟩ a b n (List.map (fun x => x.fst) ({ pos := .ref e :: rest } : Args).kw) = pure () from
    fun a b n => check_star_args _ _ _ _ _ _]
  exact wpAny_pure hq

/-- `Exception.__init__(self, ..)` -/
theorem m_excInit {ed : Option Addr} {Q : Value → Shared → Prop} (S : St g L h lo ((e, excOf C ed t) :: own)) (X : K.In g) (XC : ExcK K C N) (hsz : rest.length ≤ sizeLine)
    (q : ∀ h' t', St g L h' lo ((e, excOf C ed t') :: (t', tupOf rest) :: own) → Q .none ⟨h', G, D, tk, O⟩) : wpAny (model prog w) A (call (.builtin "Exception.__init__") (.ref e :: rest)) Q E ⟨h, G, D, tk, O⟩ := by
  obtain ⟨mm, Fr, hlo⟩ := S.fr
  have Xh := X.keeps Fr.keep
  obtain ⟨nm, qn, bs, sn, sub, ab, col, dd, k0, k1, k2, k3, k5, hC'⟩ := XC.obj
  have hC := Xh _ _ hC'
  have hx := S.at (.head _)
  have F := PySem.F.excBase_Exception
  refine wpAny_call (codeAny_call_builtin F.init.plain F.initEntry (chk_init hC hx ?_))
  unfold Builtin.«BaseException.__init__»
  dsimp only
  rw [if_neg (by decide)]
  have S1 := S.push (o := tupOf rest) rfl
  have hx1 := S1.at (.tail _ (.head _))
  refine wpAny_bind (wpAny_newObj_type ?_ (by show rest.toArray.size ≤ sizeLine; rw [List.size_toArray]; exact hsz))
  refine wpAny_bind ?_
  unfold Builtin.BaseException.bexcPut
  refine wpAny_bind (wpAny_field (s := ⟨h.push (tupOf rest), G, D, tk, O⟩) hx1 rfl (x := .ref t) rfl ?_)
  refine wpAny_bind (wpAny_setField hx1 rfl (by simp) ?_)
  have hne : e ≠ h.objs.size := Nat.ne_of_lt (Heap.lt_size hx)
  have S2 := S1.upd (a := e) (o := excOf C ed t) (o' := excOf C ed h.objs.size) (own' := (h.objs.size, tupOf rest) :: (e, excOf C ed h.objs.size) :: own) (h' := (h.push (tupOf rest)).update e (Obj.mapFields (·.setIfInBounds 0 (Value.ref h.objs.size)))) (.there .here) (Heap.SameBut.update ..).extBut (by
    rw [Heap.get?_update_self _ hx1 (by rfl)]; simp [Obj.mapFields])
  refine wpAny_letGo ?_
  exact wpAny_pure (q _ _ (S2.perm (List.Perm.swap _ _ _)))

/-- `raise` with an object of the script's own exception class -/
theorem m_RaiseExc {y : Expr} {Q : Flow → Shared → Prop} {s : Shared} (hh : A.handled = none) (XC : ExcK K C N)
    (q : wpAny (model prog w) A (eval y env) (fun v s₁ => ∃ e dd t, v = .ref e ∧ K.In s₁.heap ∧ s₁.heap.get? e = some (excOf C dd t) ∧ E (.ref e) s₁) E s) : wpAny (model prog w) A (exec (.Raise (some y) none pos) env) Q E s := by
  obtain ⟨nm, qn, bs, sn, sub, ab, col, dd, k0, k1, k2, k3, k5, hC'⟩ := XC.obj
  have hcB : (Value.ref C :: excBm).contains (.type "BaseException") = true := by rw [List.contains_cons, PySem.F.excBase_Exception.hasBase, Bool.or_true]
  rw [arm_exec_Raise]
  simp only [evalOpt, Option.map]
  refine wpAny_bind (wpAny_standAt ?_)
  unfold raiseStmt
  refine wpAny_bind ?_
  refine wpAny_bind (wpAny_mono q (fun v s₁ h₁ => wpAny_bind (wpAny_standAt (wpAny_pure ?_))) fun _ _ x => x)
  obtain ⟨e, ed, t, rfl, Xh, he, hE⟩ := h₁
  have hC := Xh _ _ hC'
  obtain ⟨hp, g', d', tk2, os⟩ := s₁
  repeat (first | with_reducible refine wpAny_loadPart_at he ?_ | with_reducible refine wpAny_loadPart_at hC ?_ | (with_reducible refine wpAny_isSubtype_exc hC ?_; rw [hcB]) | wp_step)
  exact wpAny_raiseNew_none hh hE
end
end Mine

namespace Mine
open PySem PySem.W PySem.Spec PySem.Calls PyProof.Rows
theorem St.afterNew {g h h' : Heap} {L : Addr} {lo : List (Str × Value)} {own own1 new : List (Addr × Obj)} {ks : List Addr} (S : St g L h lo own) (hk : ∀ b o, h.get? b = some o → b ∉ ks → h'.get? b = some o) (hks : ∀ b ∈ ks, b ∈ keys own)
    (hm : ∀ p ∈ own1, h'.get? p.1 = some p.2) (hkeys : keys own1 = keys own) (hn : ∀ p ∈ new, h'.get? p.1 = some p.2 ∧ h.get? p.1 = none) (hd : (keys new).Nodup) : St g L h' lo (new ++ own1) := by
  have S1 := S.after hk hks hm hkeys
  refine ⟨S1.fr, fun p hp => ?_, ?_⟩
  · rcases List.mem_append.mp hp with hp | hp
    · have z := hn p hp
      refine ⟨z.1, fun q => ?_, S.gnone z.2⟩
      obtain ⟨m, F, _⟩ := S.fr
      obtain ⟨o, _, _, e, _⟩ := F.ns
      rw [← q, z.2] at e; cases e
    · exact S1.nw p hp
  · show (List.map (·.1) (new ++ own1)).Nodup
    rw [List.map_append, List.nodup_append]
    refine ⟨hd, S1.nd, fun a ha b hb q => ?_⟩
    subst q
    obtain ⟨p, hp, rfl⟩ := List.mem_map.mp ha
    have hb' : p.1 ∈ keys own := hkeys ▸ hb
    obtain ⟨p2, hp2, e2⟩ := List.mem_map.mp hb'
    have := (S.nw p2 hp2).1
    rw [e2, (hn p hp).2] at this
    cases this
/-- what the callee of `St.start` made, as the caller sees it -/
theorem St.made {h h' : Heap} {L : Addr} {lo : List (Str × Value)} {own own' : List (Addr × Obj)} {p : Addr × Obj} (S : St (gOf h own) L h' lo own') (hm : p ∈ own') (hn : p.1 ∉ keys own) : h'.get? p.1 = some p.2 ∧ h.get? p.1 = none :=
  ⟨(S.nw p hm).1, S.fresh (a := p.1) (o := p.2) hm hn⟩

theorem m_typeInit {prog : Program} {w : World} {A : Around} {E : Value → Shared → Prop} {g h : Heap} {L : Addr} {lo : List (Str × Value)} {own : List (Addr × Obj)} {G : Array GenState} {D : Drawn} {tk : Nat} {O : OsState} {K : Frag} {pl : Sem Bool} {Q : Value × List Value → Shared → Prop}
    (S : St g L h lo own) (X : K.In g) (ht : typeOf (.type "Exception") = pure (.type "type")) (hs : Manifest.isStub "Exception" = false) (e : findCls K (.type "Exception") (.type "type") "__init__" = some (.val (.builtin "Exception.__init__")))
    (q : ∀ tk', Q (.builtin "Exception.__init__", []) ⟨h, G, D, tk', O⟩) : wpAny (model prog w) A (getMethod (.type "Exception") "__init__" pl) Q E ⟨h, G, D, tk, O⟩ := by
  obtain ⟨m, F, _⟩ := S.fr
  exact method_type (s := ⟨h, G, D, tk, O⟩) F X ht hs e rfl (q _)
theorem m_cw_method0 {M : Model} {A : Around} {E : Value → Shared → Prop} {s : Shared} {env : Env} {id : String} {e : Expr} {rest : List Expr} {pos : Pos} {Q : Value → Shared → Prop}
    (hs : starEach (e :: rest) env = (false, eval e env) :: starEach rest env) (hp : ((backTo pos (starEach rest env)).any fun x => x.1) = false)
    (h : wpAny M A (spliced (backTo pos (starEach (e :: rest) env))) (fun vs s₁ => wpAny M A (call (.builtin id) vs) Q E s₁) E s) :
    wpAny M A (callWith pos (.builtin id) [] (backTo pos (starEach (e :: rest) env)) []) Q E s := m_cw_method (first := []) hs hp h
end Mine

namespace Mine
open PySem PySem.W PySem.Spec PySem.Calls PyProof.Rows
theorem St.hasK {g h : Heap} {L : Addr} {lo : List (Str × Value)} {own : List (Addr × Obj)} {K : Frag} (S : St g L h lo own) (X : K.In g) : K.In h := X.keeps S.gkeep
theorem m_cwCls {K : Frag} {g h : Heap} {L f : Addr} {lo : List (Str × Value)} {own : List (Addr × Obj)} {G : Array GenState} {D : Drawn} {tk : Nat} {O : OsState} {env : Env} {pos : Pos} {first : List Value} {e : Expr} {rest : List Expr} {M : Model} {A : Around} {E : Value → Shared → Prop} {Q : Value → Shared → Prop} (S : St g L h lo own) (X : K.In g) (hk : keepIn K (.ref f) = true)
    (hs : starEach (e :: rest) env = (false, eval e env) :: starEach rest env) (hp : ((backTo pos (starEach rest env)).any fun x => x.1) = false)
    (q : wpAny M A (spliced (backTo pos (starEach (e :: rest) env))) (fun vs s₁ => K.In s₁.heap ∧ wpAny M A (call (.ref f) (first ++ vs)) Q E s₁) E ⟨h, G, D, tk, O⟩) : wpAny M A (callWith pos (.ref f) first (backTo pos (starEach (e :: rest) env)) []) Q E ⟨h, G, D, tk, O⟩ :=
  callWith_K (s := ⟨h, G, D, tk, O⟩) (S.hasK X) hk q hs hp
theorem and_K {P Q : Prop} (p : P) (q : Q) : P ∧ Q := ⟨p, q⟩
theorem St.stays {b0 g h : Heap} {L : Addr} {lo : List (Str × Value)} {own own0 : List (Addr × Obj)} (S : St g L h lo own) (hb : b0.StaysIn g) (hs : ∀ p ∈ own0, p ∈ own) : b0.StaysIn (gOf h own0) := fun b o e => by
  have hg := hb b o e
  refine gOf_keep (S.gkeep b o hg) fun hm => ?_
  obtain ⟨p, hp, q⟩ := List.mem_map.mp hm
  have := (S.nw p (hs p hp)).2.2
  rw [q, hg] at this; cases this
theorem St.initBack {g h h' : Heap} {L e : Addr} {lo : List (Str × Value)} {o o' : Obj} {own new : List (Addr × Obj)} (S : St g L h lo ((e, o) :: own)) (hk : ∀ b o, h.get? b = some o → b ∉ [e] → h'.get? b = some o) (he : h'.get? e = some o')
    (hn : ∀ p ∈ new, h'.get? p.1 = some p.2 ∧ h.get? p.1 = none) (hd : (keys new).Nodup) : St g L h' lo ((e, o') :: (new ++ own)) := by
  refine (S.afterNew (own1 := (e, o') :: own) hk (fun b hb => by rcases List.mem_singleton.mp hb with rfl; exact .head _) (fun p hp => ?_) rfl hn hd).perm List.perm_middle
  rcases List.mem_cons.mp hp with rfl | hp
  · exact he
  · exact hk _ _ (S.at (.tail _ hp)) fun hm => by rcases List.mem_singleton.mp hm with z; exact S.apart (b := p.1) (o' := p.2) hp z.symm
theorem Flown.sub {h0 h' : Heap} {ks : List Addr} {l : List Env} {e : Addr} {cls a0 fl : Value} {dd : Option Addr} {own own' : List (Addr × Obj)} (x : Flown h0 ks l e cls dd a0 fl own h') (hs : List.Sublist own' own) : Flown h0 ks l e cls dd a0 fl own' h' :=
  let ⟨B, x1, x2, x3⟩ := x.fly; ⟨⟨B, x1, fun q hq => x2 q (hs.subset hq), x3⟩, x.slots, fun q hq => x.fresh q (hs.subset hq), x.nd.sublist (hs.map _)⟩
theorem depth_type {A : Around} {env : Env} {C : Addr} {rest : List Value} {kw : List (Str × Value)} (h : A.depth < 400) : ((A.deeper env).under (.builtin "type.__call__" ⟨.ref C :: rest, kw⟩)).depth < 500 := by
  have e2 : (Code.builtin "type.__call__" ⟨.ref C :: rest, kw⟩).isGuard = false := by
    show guardIds.contains "type.__call__" = false
    decide +kernel
  have e3 : (Code.builtin "type.__call__" ⟨.ref C :: rest, kw⟩).isCaller = false := rfl
  have e4 : (Code.builtin "type.__call__" ⟨.ref C :: rest, kw⟩).frames = 0 := rfl
  have : (Code.builtin "type.__call__" ⟨.ref C :: rest, kw⟩).weight ≤ 1 := by
    unfold Code.weight
    rw [e2, e3, e4]
    split <;> simp
  show A.depth + 1 + _ < 500
  omega
end Mine

namespace Mine
open PySem PySem.W PySem.Spec PySem.Calls PyProof.Rows
section
variable {prog : Program} {w : World} {A : Around} {R : Result → Shared → Prop}
end
section
variable {prog : Program} {w : World} {A : Around} {E : Value → Shared → Prop}
end
end Mine

namespace Mine
open PySem PySem.W PySem.Spec PySem.Calls PyProof.Rows
section
variable {prog : Program} {w : World} {A : Around} {E : Value → Shared → Prop} {g h : Heap} {L x dx C : Addr} {lo : List (Str × Value)} {own own' : List (Addr × Obj)} {G : Array GenState} {D : Drawn} {tk : Nat} {O : OsState} {K : Frag} {name : Str} {v : Value} {es es' : List DictEntry} {n : Nat}
/-- an attribute that stands is given another value -/
theorem m_reOwn {Q : Unit → Shared → Prop} (S : St g L h lo own) (X : K.In g) (hx : (x, instObj C dx) ∈ own) (U : At dx (dictOf es n) (dictOf es' n) own own') (hp' : ∀ hsh key, putL name hsh key v es = es') (hn : putN name es n = n)
    (hs : findIn K (.ref C) "__setattr__" = some (some (.builtin "object.__setattr__"))) (hp : plainOver K C = true) (ht : takerIn K C name = some none) (hh : hasDictIn K C = true) (hl : (getL name es).isSome = true) (hz : es.length ≤ 900)
    (q : ∀ h' tk', St g L h' lo own' → Q () ⟨h', G, D, tk', O⟩) : wpAny (model prog w) A (setAttr (.ref x) name v) Q E ⟨h, G, D, tk, O⟩ :=
  m_setOwn S X hx (by rw [hp', hn]; exact U) hs hp ht hh hl hz q
theorem m_AugAttr {M : Model} {s : Shared} {env : Env} {o value : Expr} {attr : Str} {tpos pos : Pos} {op : Operator} {Q : Flow → Shared → Prop}
    (h : wpAny M A (eval o env) (fun ov s₁ => wpAny M A (getAttr ov attr true) (fun old s₂ => wpAny M A (eval value env) (fun v s₃ => wpAny M A (inplaceOp op old v) (fun new s₄ =>
            wpAny M A (setAttr ov attr new) (fun _ => Q .next) E s₄) E s₃) E s₂) E s₁) E s) :
    wpAny M A (exec (.AugAssign (.Attribute o attr tpos) op value pos) env) Q E s := wpAny_AugAssign_AttributeAny h
end
end Mine

namespace Mine
open PySem PySem.W PySem.Spec PySem.Calls PyProof.Rows
end Mine

namespace Mine
open PySem PySem.W PySem.Spec PySem.Calls PyProof.Rows
section
variable {prog : Program} {w : World} {A : Around} {E : Value → Shared → Prop} {g h : Heap} {L a b l l0 it sl t : Addr} {lo : List (Str × Value)} {own own' : List (Addr × Obj)} {G : Array GenState} {D : Drawn} {tk : Nat} {O : OsState}
  {vs ws : List Value} {n m i : Nat} {z y : Int} {u u' : Tok}
theorem m_abs {Q : Value → Shared → Prop} (q : ∀ t tk', Q (.int (if z < 0 then -z else z) t) ⟨h, G, D, tk', O⟩) : wpAny (model prog w) A (call (.builtin "abs") [.int z u]) Q E ⟨h, G, D, tk, O⟩ := call_abs_int fun u tk => q u tk
theorem m_mod {Q : Value → Shared → Prop} (hb : y ≠ 0) (q : ∀ t tk', Q (.int (z.fmod y) t) ⟨h, G, D, tk', O⟩) : wpAny (model prog w) A (binaryOp .Mod (.int z u) (.int y u')) Q E ⟨h, G, D, tk, O⟩ := PyProof.Rows.mod_int hb (q _ _)
theorem m_ifdiv {Q : Value → Shared → Prop} (hb : y ≠ 0) (hp : Builtin.divisionGoesByPylong z y = false) (q : ∀ t tk', Q (.int (z.fdiv y) t) ⟨h, G, D, tk', O⟩) : wpAny (model prog w) A (inplaceOp .FloorDiv (.int z u) (.int y u')) Q E ⟨h, G, D, tk, O⟩ := ifloordiv_int hb (q _ _) (.inl hp)
theorem m_pow {Q : Value → Shared → Prop} (h0 : 0 ≤ y) (h2 : y ≤ 1000000) (ha : z.natAbs < 2 ^ 64) (q : ∀ t tk', Q (.int (z ^ y.toNat) t) ⟨h, G, D, tk', O⟩) : wpAny (model prog w) A (binaryOp .Pow (.int z u) (.int y u')) Q E ⟨h, G, D, tk, O⟩ := pow_int_small h0 h2 ha (q _ _)
theorem m_iterG {Q : Value → Shared → Prop} (S : St g L h lo own) (hl : g.IsList l vs.toArray)
    (q : ∀ it h', St g L h' lo ((it, iterOf l 0) :: own) → Q (.ref it) ⟨h', G, D, tk, O⟩) : wpAny (model prog w) A (pyIter (.ref l)) Q E ⟨h, G, D, tk, O⟩ := by
  obtain ⟨o, ho, r⟩ := hl
  exact wpAny_pyIter_list (s := ⟨h, G, D, tk, O⟩) ⟨o, S.gkeep _ _ ho, r⟩ (q _ _ S.push)
theorem m_nextG {Q : Option Value → Shared → Prop} {x : Value} (S : St g L h lo own) (U : At it (iterOf l i) (iterOf l (i + 1)) own own') (hl : g.IsList l vs.toArray) (hx : vs[i]? = some x)
    (q : ∀ h', St g L h' lo own' → Q (some x) ⟨h', G, D, tk, O⟩) : wpAny (model prog w) A (pyNext (.ref it)) Q E ⟨h, G, D, tk, O⟩ := by
  obtain ⟨o, ho', _, n, hd⟩ := hl
  have ho := S.gkeep _ _ ho'
  have hi := S.at U.mem
  unfold pyNext
  refine wpAny_bind (wpAny_attempt (wpAny_callSpecial?_slot (name := Str.ofString "__next__") (s := ⟨h, G, D, tk, O⟩) (⟨_, hi, rfl⟩ : Shared.TypeIs ⟨h, G, D, tk, O⟩ (.ref it) "list_iterator") slot_listiter_next
    (wpAny_call_entry slot_listiter_next ⟨_, hi, rfl⟩ entry_listiter_next ?_ (args_listiter_next _))))
  show wpAny _ _ (field (.ref it) 0 >>= _) _ _ _
  refine wpAny_bind (wpAny_field hi rfl (x := .ref l) rfl ?_)
  show wpAny _ _ (if (Value.ref l == Value.none) = true then _ else _) _ _ _
  rw [if_neg (show ¬ ((Value.ref l == Value.none) = true) from Bool.false_ne_true)]
  show wpAny _ _ (field (.ref it) 1 >>= _) _ _ _
  refine wpAny_bind (wpAny_field hi rfl (x := .int i 0) rfl ?_)
  show wpAny _ _ (seqItems? (.ref l) >>= _) _ _ _
  refine wpAny_bind (wpAny_seqItems ho hd ?_)
  have hx' : vs.toArray[i]? = some x := by simpa using hx
  simp only [Int.toNat_natCast, hx']
  refine wpAny_bind (wpAny_setField hi rfl (by show 1 < 2; decide) (wpAny_pure ⟨x, rfl, wpAny_pure (q _ ?_)⟩))
  refine S.upd U (Heap.SameBut.update ..).extBut ?_
  rw [Heap.get?_update_self _ hi rfl]
  simp [Obj.mapFields, rawInt]
theorem m_nextEndG {Q : Option Value → Shared → Prop} (S : St g L h lo ((it, iterOf l i) :: own)) (hh : A.handled = none) (hl : g.IsList l vs.toArray) (hx : vs[i]? = none)
    (q : ∀ h', St g L h' lo own → Q none ⟨h', G, D, tk, O⟩) : wpAny (model prog w) A (pyNext (.ref it)) Q E ⟨h, G, D, tk, O⟩ := by
  obtain ⟨o, ho', r⟩ := hl
  refine wpAny_pyNext_list_end (s := ⟨h, G, D, tk, O⟩) hh ⟨_, S.at (.head _), rfl, rfl⟩ ⟨o, S.gkeep _ _ ho', r⟩ (by simpa using hx) fun h' he => q h' ?_
  obtain ⟨m, F, hlo⟩ := S.fr
  have z := S.nw _ (.head _)
  refine ⟨⟨m, ⟨F.ns.extBut he (Ne.symm z.2.1), fun b ob e => he b ob (fun q => ?_) (F.keep b ob e), F.above⟩, hlo⟩, fun p hp => ?_, (S.pick (.cons _ (List.Sublist.refl _))).nd⟩
  · rw [q] at e; rw [z.2.2] at e; cases e
  · exact ⟨he _ _ (fun e => S.apart (b := p.1) (o' := p.2) hp e.symm) (S.nw _ (.tail _ hp)).1, (S.nw _ (.tail _ hp)).2⟩

end
theorem intsAre_at : ∀ {vs : List Value} {ns : List Int}, IntsAre vs ns → ∀ {i : Nat}, i < vs.length → ∃ z t, vs[i]? = some (.int z t)
  | _, _, .nil, i, h => by cases h
  | _, _, .cons z t r, 0, _ => ⟨z, t, rfl⟩
  | _, _, .cons z t r, i + 1, h => by
    obtain ⟨z', t', e⟩ := intsAre_at r (i := i) (by simpa using h)
    exact ⟨z', t', by simpa using e⟩
end Mine

namespace Mine
theorem fmod_nonneg14 (z : Int) {y : Int} (h : 0 < y) : 0 ≤ z.fmod y := by
  first
    | exact Int.fmod_nonneg_of_pos z h
    | (rw [Int.fmod_eq_emod_of_nonneg z (by omega)]; exact Int.emod_nonneg z (by omega))
end Mine

namespace Mine
open PySem PySem.W PySem.Spec PySem.Calls PyProof.Rows
section
variable {prog : Program} {w : World} {A : Around} {E : Value → Shared → Prop} {h : Heap} {G : Array GenState} {D : Drawn} {tk : Nat} {O : OsState} {env : Env} {pos : Pos} {out x : Str} {t : Tok} {a : Int}
theorem m_JoinedStr {v₁ v₂ : Expr} {rest : List Expr} {Q : Value → Shared → Prop} {s : Shared} (q : wpAny (model prog w) A (joinParts Str.empty (evalEach (v₁ :: v₂ :: rest) env)) Q E s) : wpAny (model prog w) A (eval (.JoinedStr (v₁ :: v₂ :: rest) pos) env) Q E s := JoinedStr_many q
theorem m_joinCons {e : Expr} {rest : List Expr} {Q : Value → Shared → Prop} {s : Shared} (he : evalEach (e :: rest) env = eval e env :: evalEach rest env)
    (q : wpAny (model prog w) A (eval e env) (fun v s₁ => match v with | .str y _ => (out ++ y).length ≤ sizeLine ∧ wpAny (model prog w) A (joinParts (out ++ y) (evalEach rest env)) Q E s₁ | _ => False) E s) : wpAny (model prog w) A (joinParts out (evalEach (e :: rest) env)) Q E s := by
  rw [he]; exact joinParts_cons q
theorem m_joinNil {Q : Value → Shared → Prop} (he : evalEach [] env = []) (hsz : out.length ≤ sizeLine) (q : ∀ t tk', Q (.str out t) ⟨h, G, D, tk', O⟩) : wpAny (model prog w) A (joinParts out (evalEach [] env)) Q E ⟨h, G, D, tk, O⟩ := by
  rw [he]; exact joinParts_nil (q _ _) hsz
theorem m_FVs {value : Expr} {Q : Value → Shared → Prop} {s : Shared} (q : wpAny (model prog w) A (eval value env) (fun v s₁ => wpAny (model prog w) A (convS v) (fun r s₂ => wpAny (model prog w) A (formatField r Str.empty) Q E s₂) E s₁) E s) :
    wpAny (model prog w) A (eval (.FormattedValue value 115 none pos) env) Q E s := wpAny_FormattedValue_s q
theorem m_convStr {Q : Value → Shared → Prop} (hsz : x.length ≤ sizeLine) (q : ∀ t' tk', Q (.str x t') ⟨h, G, D, tk', O⟩) : wpAny (model prog w) A (convS (.str x t)) Q E ⟨h, G, D, tk, O⟩ := by
  show wpAny _ _ (habitSame "fstring-hands-on-the-str" (.str x t)) _ _ _
  exact habitSame_str (fun t' k => q t' k) hsz
theorem m_convInt {Q : Value → Shared → Prop} (ha : a.natAbs.log2 < 1920) (q : ∀ t' tk', Q (.str (Str.ofString (toString a)) t') ⟨h, G, D, tk', O⟩) : wpAny (model prog w) A (convS (.int a t)) Q E ⟨h, G, D, tk, O⟩ := by
  show wpAny _ _ (pyStrObj (.int a t)) _ _ _
  exact pyStrObj_int ha (q _ _)
theorem m_fmtStr {Q : Value → Shared → Prop} (hsz : x.length ≤ sizeLine) (q : ∀ t' tk', Q (.str x t') ⟨h, G, D, tk', O⟩) : wpAny (model prog w) A (formatField (.str x t) Str.empty) Q E ⟨h, G, D, tk, O⟩ := formatField_str (fun t' k => q t' k) hsz
end
theorem log_small {a : Int} (h0 : 0 ≤ a) (h1 : a < 100) : a.natAbs.log2 < 1920 := by
  have h2 : a.natAbs < 100 := by omega
  have : a.natAbs.log2 ≤ a.natAbs := by
    rcases Nat.eq_zero_or_pos a.natAbs with z | z
    · rw [z]; decide
    · have := Nat.log2_lt (n := a.natAbs) (k := a.natAbs) (by omega)
      exact Nat.le_of_lt (this.mpr Nat.lt_two_pow_self)
  omega
/-- the figures of a small number are few -/
theorem figs_len {a : Int} (h0 : 0 ≤ a) (h1 : a < 100) : (Str.ofString (toString a)).length ≤ 10 := by
  obtain ⟨n, rfl⟩ := Int.eq_ofNat_of_zero_le h0
  have hn : n < 100 := by omega
  have key : ∀ n : Fin 100, (Str.ofString (toString ((n.val : Nat) : Int))).length ≤ 10 := by decide +kernel
  exact key ⟨n, hn⟩
theorem tot_ok {n : Nat} (h : n ≤ 1000) : n ≤ sizeLine := by have := sizeLine_eq; omega
end Mine

namespace Mine
open PySem PySem.W PySem.Spec PySem.Calls PyProof.Rows

theorem At.of {c : Addr} {o o' : Obj} : ∀ {own : List (Addr × Obj)}, (c, o) ∈ own → ∃ own', At c o o' own own'
  | _ :: _, .head _ => ⟨_, .here⟩
  | _ :: _, .tail _ hm => let ⟨r', u⟩ := At.of hm; ⟨_ :: r', .there u⟩
section
variable {M : Model} {A : Around} {E : Value → Shared → Prop} {g h : Heap} {L a c C D : Addr} {lo : List (Str × Value)} {own own' : List (Addr × Obj)} {G : Array GenState} {Dr : Drawn} {tk : Nat} {O : OsState}
  {K : Frag} {mg mb : Str → Option Value} {p : Program} {loose : List Str} {cn : Str} {cs : Scope} {ccd : Value} {cl : List (Str × Addr)} {x : Str} {pos : Pos} {v : Value} {o o' : Obj} {env : Env}

/-- a captured name is bound -/
theorem m_storeC {Q : Unit → Shared → Prop} (S : St g L h lo own) (hx : (envX cn cs L a ccd cl).kindOf x = some .cell) (hk : cs.kind = .function) (hc : cl.lookup x = some c) (hm : (c, o) ∈ own) {v₀ : Option Value} (hd : o.data = .cell v₀)
    (q : ∀ h' o' own', o'.data = .cell (some v) → At c o o' own own' → St g L h' lo own' → Q () ⟨h', G, Dr, tk, O⟩) : wpAny M A (storeName (envX cn cs L a ccd cl) x v) Q E ⟨h, G, Dr, tk, O⟩ := by
  refine wpAny_storeName_cell hk hx hc ⟨o, S.at hm, hd⟩ fun h' hv hs => ?_
  obtain ⟨o', ho', hd'⟩ := hv
  obtain ⟨own', U⟩ := At.of (o' := o') hm
  exact q h' o' own' hd' U (S.upd U hs.extBut ho')

theorem me_local {Q : Value → Shared → Prop} (S : St g C h lo own) (hC : env.locals = C) (hv : lo.lookup x = some v) (hx : env.kindOf x = some .local) (hk : env.scope.kind = .function) (hd : (x == ("__debug__" : Str)) = false)
    (q : Q v ⟨h, G, Dr, tk, O⟩) : wpAny M A (eval (.Name x pos) env) Q E ⟨h, G, Dr, tk, O⟩ := by
  subst hC
  obtain ⟨m, F, hl⟩ := S.fr
  exact wpAny_Name (wpAny_loadName_local hk hx F.ns (hl _ _ hv) q) hd
theorem me_cell {Q : Value → Shared → Prop} (S : St g C h lo own) (hx : env.kindOf x = some .cell) (hk : env.scope.kind = .function) (hd : (x == ("__debug__" : Str)) = false) (hc : env.cells.lookup x = some c) (hm : (c, o) ∈ own) (ho : o.data = .cell (some v))
    (q : Q v ⟨h, G, Dr, tk, O⟩) : wpAny M A (eval (.Name x pos) env) Q E ⟨h, G, Dr, tk, O⟩ := wpAny_Name (wpAny_loadName_cell hk hx hc ⟨o, S.at hm, ho⟩ q) hd
theorem me_store {Q : Unit → Shared → Prop} (S : St g C h lo own) (hC : env.locals = C) (hx : env.kindOf x = some .local) (hk : env.scope.kind = .function)
    (q : ∀ h' tk', St g C h' ((x, v) :: lo) own → Q () ⟨h', G, Dr, tk', O⟩) : wpAny M A (storeName env x v) Q E ⟨h, G, Dr, tk, O⟩ := by
  subst hC
  obtain ⟨m, F, hl⟩ := S.fr
  exact wpAny_storeName_local hx F.ns (fun h' hn hs => q h' _ (S.set hl hn hs)) (by show (env.scope.kind == .class || (env.scope.kind == .module && env.locals != env.globals)) = false; rw [hk]; rfl)
end

section
variable {prog : Program} {w : World} {A : Around} {E : Value → Shared → Prop} {g h : Heap} {L a c C D it : Addr} {lo : List (Str × Value)} {own own' : List (Addr × Obj)} {G : Array GenState} {Dr : Drawn} {tk : Nat} {O : OsState} {x : Str} {env : Env} {i j : Int} {t u : Tok}
abbrev rangeOf (i j : Int) (t u v : Tok) : Obj := { cls := .type "range", dict := none, data := .fields #[.int i t, .int j u, .int 1 v], slots := #[] }
abbrev rangeIt (x left : Int) : Obj := { cls := .type "range_iterator", dict := none, data := .fields #[rawInt x, rawInt left, rawInt 1], slots := #[] }
theorem m_rangeIter {v : Tok} {Q : Value → Shared → Prop} (S : St g L h lo own) (hm : (a, rangeOf i j t u v) ∈ own) (hs : Builtin.Range.small i j 1 = true)
    (q : ∀ it h', St g L h' lo ((it, rangeIt i (Builtin.Range.rangeSize i j 1)) :: own) → Q (.ref it) ⟨h', G, Dr, tk, O⟩) : wpAny (model prog w) A (pyIter (.ref a)) Q E ⟨h, G, Dr, tk, O⟩ :=
  wpAny_pyIter_range (s := ⟨h, G, Dr, tk, O⟩) (S.at hm) hs (q _ _ S.push)
theorem m_rangeNext {y left : Int} {Q : Option Value → Shared → Prop} (S : St g L h lo own) (U : At it (rangeIt y left) (rangeIt (y + 1) (left - 1)) own own') (hl : 0 < left)
    (q : ∀ t h' tk', St g L h' lo own' → Q (some (.int y t)) ⟨h', G, Dr, tk', O⟩) : wpAny (model prog w) A (pyNext (.ref it)) Q E ⟨h, G, Dr, tk, O⟩ :=
  wpAny_pyNext_range_item (s := ⟨h, G, Dr, tk, O⟩) (S.at U.mem) hl fun h' hi hs => q _ h' _ (S.upd U hs.extBut hi)
theorem m_rangeEnd {y left : Int} {Q : Option Value → Shared → Prop} (S : St g L h lo ((it, rangeIt y left) :: own)) (hh : A.handled = none) (hl : left ≤ 0)
    (q : ∀ h', St g L h' lo own → Q none ⟨h', G, Dr, tk, O⟩) : wpAny (model prog w) A (pyNext (.ref it)) Q E ⟨h, G, Dr, tk, O⟩ := by
  refine wpAny_pyNext_range_end (s := ⟨h, G, Dr, tk, O⟩) hh (S.at (.head _)) hl fun h' he => q h' ?_
  obtain ⟨m, F, hlo⟩ := S.fr
  have z := S.nw _ (.head _)
  refine ⟨⟨m, ⟨F.ns.extBut he (Ne.symm z.2.1), fun b ob e => he b ob (fun q => ?_) (F.keep b ob e), F.above⟩, hlo⟩, fun p hp => ?_, (S.pick (.cons _ (List.Sublist.refl _))).nd⟩
  · rw [q] at e; rw [z.2.2] at e; cases e
  · exact ⟨he _ _ (fun e => S.apart (b := p.1) (o' := p.2) hp e.symm) (S.nw _ (.tail _ hp)).1, (S.nw _ (.tail _ hp)).2⟩

/-- the comprehension's own frame: the locals of the function at hand are an object of the ledger -/
theorem m_compGo {scope : Scope} {cl : List (Str × Addr)} {e : Expr} {itv : Value} {R : Value → Addr → Result → Shared → Prop} (S : St g L h lo own) (hcell : ∀ y ∈ scope.names, y.2 ≠ .cell) (hkind : scope.kind = .function)
    (q : ∀ D C h' tk' oL, h.get? L = some oL → St g C h' [] ((D, listOf ([] : List Value).toArray 0) :: (L, oL) :: own) → codeAny (model prog w) A (.compStart e 0 itv (.ref D) (compEnvC scope cl C env)) (R (.ref D) C) ⟨h', G, Dr, tk', O⟩) :
    wpAny (model prog w) A (newList []) (fun acc s₃ => wpAny (model prog w) A (newFunctionEnv scope env.globals cl [] env.qual none .none (some env)) (fun cenv s₄ =>
        codeAny (model prog w) A (.compStart e 0 itv acc { cenv with scope := relabel scope env }) (R acc cenv.locals) s₄) E s₃) E ⟨h, G, Dr, tk, O⟩ := by
  obtain ⟨m, F, _⟩ := S.fr
  obtain ⟨oL, es, ep, hL, r⟩ := F.ns
  refine wpAny_newObj_type ?_ (by show 0 ≤ sizeLine; exact Nat.zero_le _)
  have S1 := S.push (o := listOf ([] : List Value).toArray 0) rfl
  have hL1 : (h.push (listOf ([] : List Value).toArray 0)).get? L = some oL := Heap.get?_push_of_some _ hL
  refine wpAny_newFunctionEnv hcell (fun _ hx => nomatch hx) (fun h₁ hns hsb => ?_) hkind
  have k : ∀ b o, (h.push (listOf ([] : List Value).toArray 0)).get? b = some o → h₁.get? b = some o := fun b o e => hsb.extBut b o (Nat.ne_of_lt (Heap.lt_size e)) (Heap.get?_push_of_some _ e)
  have nL : (L : Addr) ∉ keys ((h.objs.size, listOf ([] : List Value).toArray 0) :: own) := fun hm => by
    obtain ⟨p, hp, z⟩ := List.mem_map.mp hm
    exact (S1.nw p hp).2.1 z
  have gL : g.get? L = none := Heap.get?_none_of_le F.above
  refine q h.objs.size (h.push (listOf ([] : List Value).toArray 0)).objs.size h₁ _ oL hL ⟨⟨_, ⟨hns, fun b o e => k b o (S1.gkeep b o e), ?_⟩, fun x v e => by cases e⟩, fun p hp => ?_, ?_⟩
  · exact Nat.le_trans F.above (Nat.le_of_lt (Heap.lt_size hL1))
  · rcases List.mem_cons.mp hp with rfl | hp
    · have z := S1.nw _ (.head _)
      exact ⟨k _ _ z.1, Nat.ne_of_lt (Heap.lt_size z.1), z.2.2⟩
    · rcases List.mem_cons.mp hp with rfl | hp
      · exact ⟨k _ _ hL1, Nat.ne_of_lt (Heap.lt_size hL1), gL⟩
      · have z := S1.nw p (.tail _ hp)
        exact ⟨k _ _ z.1, Nat.ne_of_lt (Heap.lt_size z.1), z.2.2⟩
  · have nd := S1.nd
    rw [List.map_cons, List.nodup_cons] at nd
    rw [List.map_cons, List.map_cons, List.nodup_cons, List.nodup_cons]
    refine ⟨fun hm => ?_, fun hm => nL (.tail _ hm), nd.2⟩
    rcases List.mem_cons.mp hm with z | hm
    · exact nL (by show L ∈ _; rw [show L = h.objs.size from z.symm]; exact .head _)
    · exact nd.1 hm
/-- the comprehension's end -/
theorem m_compEnd {M : Model} {lo2 : List (Str × Value)} {oD oL : Obj} {own2 : List (Addr × Obj)} {h2 : Heap} {f : Flow} {Q : Value → Shared → Prop} (S : St g L h lo own) (hL : h.get? L = some oL) (S2 : St g C h2 lo2 ((D, oD) :: (L, oL) :: own2))
    (q : ∀ h3, St g L h3 lo ((D, oD) :: own2) → Q (.ref D) ⟨h3, G, Dr, tk, O⟩) : compPost M A E none Q (.ref D) C (.ok f) ⟨h2, G, Dr, tk, O⟩ := by
  obtain ⟨m2, F2, _⟩ := S2.fr
  refine ⟨m2, F2.ns, fun h3 hs => q h3 ?_⟩
  obtain ⟨m, F, hlo⟩ := S.fr
  have kk : ∀ p ∈ (D, oD) :: (L, oL) :: own2, h3.get? p.1 = some p.2 := fun p hp => (hs.2 _ (S2.nw p hp).2.1).trans (S2.nw p hp).1
  have nd := S2.nd
  simp only [List.map_cons, List.nodup_cons, List.mem_cons, not_or] at nd
  refine ⟨⟨m, ⟨?_, fun b o e => ?_, F.above⟩, hlo⟩, fun p hp => ?_, ?_⟩
  · obtain ⟨o, es, ep, e, r⟩ := F.ns
    rw [hL] at e; cases e
    exact ⟨oL, es, ep, kk _ (.tail _ (.head _)), r⟩
  · exact (hs.2 b (Nat.ne_of_lt (Nat.lt_of_lt_of_le (Heap.lt_size e) F2.above))).trans (F2.keep b o e)
  · rcases List.mem_cons.mp hp with rfl | hp
    · exact ⟨kk _ (.head _), nd.1.1, (S2.nw _ (.head _)).2.2⟩
    · exact ⟨kk _ (.tail _ (.tail _ hp)), fun z => nd.2.1 (z ▸ List.mem_map_of_mem (f := (·.1)) hp), (S2.nw _ (.tail _ (.tail _ hp))).2.2⟩
  · rw [List.map_cons, List.nodup_cons]
    exact ⟨nd.1.2, nd.2.2⟩
end
end Mine

namespace Mine
open PySem PySem.W PySem.Spec PySem.Calls PyProof.Rows
theorem At.det {a : Addr} {o o' : Obj} {l l1 l2 : List (Addr × Obj)} (nd : (l.map (·.1)).Nodup) (U : At a o o' l l1) (V : At a o o' l l2) : l1 = l2 := by
  induction U generalizing l2 with
  | @here r =>
    generalize hl : (a, o) :: r = l at V
    cases V with
    | here => cases hl; rfl
    | @there p r2 r3 V =>
      cases hl
      rw [List.map_cons, List.nodup_cons] at nd
      exact absurd (List.mem_map_of_mem (f := (·.1)) V.mem) nd.1
  | @there p r r' U ih =>
    rw [List.map_cons, List.nodup_cons] at nd
    generalize hl : p :: r = l at V
    cases V with
    | here =>
      cases hl
      exact absurd (List.mem_map_of_mem (f := (·.1)) U.mem) nd.1
    | there V =>
      cases hl
      rw [ih nd.2 V]
/-- a captured name is bound; the ledger's new shape by `f` -/
theorem m_storeC' {M : Model} {A : Around} {E : Value → Shared → Prop} {g h : Heap} {L a c : Addr} {lo : List (Str × Value)} {own : List (Addr × Obj)} {G : Array GenState} {Dr : Drawn} {tk : Nat} {O : OsState} {cn : Str} {cs : Scope} {ccd : Value} {cl : List (Str × Addr)} {x : Str} {v : Value} {o : Obj} {v₀ : Option Value} {Q : Unit → Shared → Prop}
    (f : Obj → List (Addr × Obj)) (S : St g L h lo own) (hx : (envX cn cs L a ccd cl).kindOf x = some .cell) (hk : cs.kind = .function) (hc : cl.lookup x = some c) (hU : ∀ o', At c o o' own (f o')) (hd : o.data = .cell v₀)
    (q : ∀ h' o', o'.data = .cell (some v) → St g L h' lo (f o') → Q () ⟨h', G, Dr, tk, O⟩) : wpAny M A (storeName (envX cn cs L a ccd cl) x v) Q E ⟨h, G, Dr, tk, O⟩ :=
  m_storeC S hx hk hc (hU o).mem hd fun h' o' own' ho' U S' => q h' o' ho' ((At.det S.nd U (hU o')) ▸ S')
/-- an object is made -/
theorem m_newInst {prog : Program} {w : World} {A : Around} {E : Value → Shared → Prop} {g h : Heap} {L C f : Addr} {lo : List (Str × Value)} {own : List (Addr × Obj)} {G : Array GenState} {Dr : Drawn} {tk : Nat} {O : OsState} {K : Frag} {args : List Value} {Q : Value → Shared → Prop} (S : St g L h lo own) (X : K.In g)
    (hm : makesIn K C = true) (hi : findIn K (.ref C) "__init__" = some (some (.ref f))) (hf : isFn K (.ref f) = true)
    (q : ∀ x dx h', St g L h' lo ((x, instObj C dx) :: (dx, dictOf [] 0) :: own) →
      codeAny (model prog w) (A.under (.builtin "type.__call__" ⟨.ref C :: args, []⟩)) (.call (.ref f) ⟨.ref x :: args, []⟩) (InitBack x fun r s' => match r with | .ok (.ret v) => Q v s' | .ok _ => False | .error e => E e s') ⟨h', G, Dr, tk, O⟩) :
    wpAny (model prog w) A (call (.ref C) args) Q E ⟨h, G, Dr, tk, O⟩ := by
  obtain ⟨m, F, hlo⟩ := S.fr
  refine call_cls (s := ⟨h, G, Dr, tk, O⟩) F X S.nw hm hi hf fun x dx h' F' N' h1 h2 => q x dx h' ⟨⟨m, F', hlo⟩, N', ?_⟩
  rw [List.map_cons, List.map_cons, List.nodup_cons, List.nodup_cons]
  refine ⟨fun hm => ?_, fun hm => ?_, S.nd⟩
  · rcases List.mem_cons.mp hm with z | hm
    · exact absurd (show x = dx from z) (Nat.ne_of_gt h2)
    · obtain ⟨p, hp, z⟩ := List.mem_map.mp hm
      have := h1 p hp
      dsimp only at z
      rw [z] at this
      exact absurd (Nat.lt_trans this h2) (Nat.lt_irrefl _)
  · obtain ⟨p, hp, z⟩ := List.mem_map.mp hm
    have := h1 p hp
    dsimp only at z
    rw [z] at this
    exact absurd this (Nat.lt_irrefl _)
theorem depth_type2 {A : Around} {C : Addr} {rest : List Value} {kw : List (Str × Value)} (h : A.depth < 400) : (A.under (.builtin "type.__call__" ⟨.ref C :: rest, kw⟩)).depth < 500 := by
  have e2 : (Code.builtin "type.__call__" ⟨.ref C :: rest, kw⟩).isGuard = false := by
    show guardIds.contains "type.__call__" = false
    decide +kernel
  have e3 : (Code.builtin "type.__call__" ⟨.ref C :: rest, kw⟩).isCaller = false := rfl
  have e4 : (Code.builtin "type.__call__" ⟨.ref C :: rest, kw⟩).frames = 0 := rfl
  have : (Code.builtin "type.__call__" ⟨.ref C :: rest, kw⟩).weight ≤ 1 := by
    unfold Code.weight
    rw [e2, e3, e4]
    split <;> simp
  show A.depth + _ < 500
  omega
end Mine

namespace Mine
open PySem PySem.W PySem.Spec PySem.Calls PyProof.Rows
theorem m_nest {M : Model} {A : Around} {E : Value → Shared → Prop} {g h : Heap} {L a c P : Addr} {lo : List (Str × Value)} {r : List (Addr × Obj)} {G : Array GenState} {Dr : Drawn} {tk : Nat} {O : OsState} {cn : Str} {cs : Scope} {ccd : Value} {cl : List (Str × Addr)}
    {p : Program} {loose : List Str} {mean : ExcName → Option Value} {mg mb : Str → Option Value} {name qual : Str} {params : Arguments} {body : List Stmt} {scope : Scope} {ps : Array Value} {pos : Pos} {firstLine : Nat} {clos : List (Str × Addr)} {Q : Value → Shared → Prop}
    (S : St g L h lo ((P, tabObj ps) :: r)) (T : Top p loose mean mg mb g) (C : CodeHd g c P) (hcd : ccd = .ref c) (ht : TriplesOk ps.toList) (hnf : codeAmong pos ps.toList = none) (hcl : closureFor scope (envX cn cs L a ccd cl) = pure clos)
    (q : ∀ f c' oc vs t ctv doc ps' pm h' tk', St g L h' lo ((f, fnMade name qual params body scope clos doc pm c' ctv) :: (c', oc) :: (P, tabObj ps') :: r) → oc.data = .fields vs → vs[1]? = some (.str qual t) → Q (.ref f) ⟨h', G, Dr, tk', O⟩) :
    wpAny M A (makeFunction name qual params (.stmts body) scope (envX cn cs L a ccd cl) [] [] [] pos firstLine) Q E ⟨h, G, Dr, tk, O⟩ := by
  obtain ⟨m, F, hlo⟩ := S.fr
  have nd := S.nd
  rw [List.map_cons, List.nodup_cons] at nd
  refine nest_K (s := ⟨h, G, Dr, tk, O⟩) F S.nw T C hcd (.head fun p hp z => nd.1 (z ▸ List.mem_map_of_mem (f := (·.1)) hp)) ht hnf hcl fun f c' oc vs t ctv doc h' tk' F' N' hd hv h1 h2 => q f c' oc vs t ctv doc _ _ h' tk' ⟨⟨m, F', hlo⟩, N', ?_⟩ hd hv
  have lt : ∀ b ∈ keys ((P, tabObj ps) :: r), b < c' := fun b hb => by
    obtain ⟨p, hp, z⟩ := List.mem_map.mp hb
    have := h1 p hp
    rw [show p.1 = b from z] at this
    exact this
  rw [List.map_cons, List.map_cons, List.nodup_cons, List.nodup_cons]
  refine ⟨fun hm => ?_, fun hm => absurd (lt _ hm) (Nat.lt_irrefl _), S.nd⟩
  rcases List.mem_cons.mp hm with z | hm
  · exact absurd (show f = c' from z) (Nat.ne_of_gt h2)
  · exact absurd (Nat.lt_trans (lt _ hm) h2) (Nat.lt_irrefl _)
end Mine

namespace Mine
open PySem PySem.W PySem.Spec PySem.Calls PyProof.Rows
theorem m_ListComp {M : Model} {A : Around} {E : Value → Shared → Prop} {s : Shared} {env : Env} {elt target iter : Expr} {ifs : List Expr} {scope : Scope} {pos : Pos} {cl : List (Str × Addr)} {Q : Value → Shared → Prop}
    (hclos : closureFor scope env = pure cl) (hkind : scope.kind = .function) (hnames : ∀ x ∈ scope.names, x.2 = .local → scope.names.lookup x.1 = some .local) (hs : ∀ x, foldedSetIterable iter env x = pure x)
    (q : wpAny M A (eval iter env) (fun x s₁ => wpAny M A (pyIter x) (fun it s₂ => wpAny M A (newList []) (fun acc s₃ => wpAny M A (newFunctionEnv scope env.globals cl [] env.qual none .none (some env)) (fun cenv s₄ =>
        codeAny M A (.compStart (.ListComp elt [⟨target, iter, ifs, 0⟩] scope pos) 0 it acc { cenv with scope := relabel scope env }) (compPost M A E none Q acc cenv.locals) s₄) E s₃) E s₂) E s₁) E s) :
    wpAny M A (eval (.ListComp elt [⟨target, iter, ifs, 0⟩] scope pos) env) Q E s := by
  rw [eval_ListComp]
  exact wpAny_comprehension_free (use := none) rfl hs hclos hkind hnames q
end Mine

namespace Mine
open PySem PySem.W PySem.Spec PySem.Calls PyProof.Rows
theorem m_lenStr {prog : Program} {w : World} {A : Around} {E : Value → Shared → Prop} {h : Heap} {G : Array GenState} {Dr : Drawn} {tk : Nat} {O : OsState} {x : Str} {t : Tok} {Q : Value → Shared → Prop} (hfit : x.length < 2 ^ 63)
    (q : ∀ t' tk', Q (.int (x.length : Int) t') ⟨h, G, Dr, tk', O⟩) : wpAny (model prog w) A (call (.builtin "len") [.str x t]) Q E ⟨h, G, Dr, tk, O⟩ :=
  len_str (by omega) (q _ _)
theorem small_fit {n : Nat} (h : n ≤ 64) : n ≤ sizeLine := Nat.le_trans h (by decide)
section
variable {prog : Program} {w : World} {A : Around} {E : Value → Shared → Prop} {g h : Heap} {L l l2 : Addr} {lo : List (Str × Value)} {own : List (Addr × Obj)} {vs ws : List Value} {n n2 : Nat} {G : Array GenState} {Dr : Drawn} {tk : Nat} {O : OsState} {Q : Value → Shared → Prop}
theorem m_addLists (S : St g L h lo own) (hl : (l, listOf vs.toArray n) ∈ own) (hb : (l2, listOf ws.toArray n2) ∈ own) (hsz : vs.length + ws.length ≤ sizeLine)
    (q : ∀ r h', St g L h' lo ((r, listOf (vs ++ ws).toArray 0) :: own) → Q (.ref r) ⟨h', G, Dr, tk, O⟩) : wpAny (model prog w) A (binaryOp .Add (.ref l) (.ref l2)) Q E ⟨h, G, Dr, tk, O⟩ := by
  have e : vs.toArray ++ ws.toArray = (vs ++ ws).toArray := by simp
  refine concat_meets ⟨_, S.at hl, rfl⟩ ⟨_, S.at hb, rfl⟩ noFill_list_add seq_list_add PySem.F.slot_list_add PySem.F.entry_list_add (PySem.F.args_list_add_2 _ _) (list_addW l l2 vs.toArray ws.toArray n n2 _ _ _ _ (by simpa using hsz)) ⟨S.at hl, S.at hb, ?_⟩
  rw [e]
  exact q _ _ S.push
end
theorem St.drop2 {g h : Heap} {L : Addr} {lo : List (Str × Value)} {a b : Addr × Obj} {r : List (Addr × Obj)} (S : St g L h lo (a :: b :: r)) : St g L h lo (a :: r) :=
  S.sub (fun p hp => by
    rcases List.mem_cons.mp hp with rfl | h
    · exact .head _
    · exact .tail _ (.tail _ h)) (S.nd.sublist (((List.sublist_cons_self b r).cons₂ a).map _))
end Mine

namespace Mine
open PySem PySem.W PySem.Spec PySem.Calls PyProof.Rows
theorem St.swap {g h : Heap} {L : Addr} {lo : List (Str × Value)} {x y : Addr × Obj} {r : List (Addr × Obj)} (S : St g L h lo (x :: y :: r)) : St g L h lo (y :: x :: r) :=
  S.sub (fun _ hp => (List.Perm.swap x y r).mem_iff.mp hp) (((List.Perm.swap x y r).map (·.1)).nodup_iff.mpr S.nd)
end Mine

namespace Mine
open PySem PySem.W PySem.Spec PySem.Calls PyProof.Rows

section
variable {A : Around} {E : Value → Shared → Prop} {g h h' : Heap} {L a e : Addr} {lo : List (Str × Value)} {own own1 rest : List (Addr × Obj)} {ks : List Addr} {cn : Str} {cs : Scope} {ccd : Value} {cl : List (Str × Addr)} {cls a0 fl : Value} {dd : Option Addr}

/-- the state behind an exception that came back to the frame at hand, the only one -/
theorem Flown.st (S : St g L h lo own) (x : Flown h ks [envX cn cs L a ccd cl] e cls dd a0 fl own1 h') (hks : ∀ b ∈ ks, b ∈ keys own) (hr : ∀ p ∈ rest, p ∈ own ∧ p.1 ∉ ks) (hrn : (keys rest).Nodup) :
    ∃ oe vs, oe.cls = cls ∧ oe.dict = dd ∧ oe.data = .fields vs ∧ vs[0]? = some a0 ∧ St g L h' lo ((e, oe) :: (own1 ++ rest)) := by
  obtain ⟨B, x1, x2, x3⟩ := x.fly
  obtain ⟨m, F, hl⟩ := S.fr
  obtain ⟨oe, vs, T, oT, ts, ⟨he, hc, hdd, hd, h0, _⟩, _⟩ := x1.exc
  obtain ⟨oL, es, ep, hL, r⟩ := F.ns
  have nk : ∀ b ∈ ks, b ≠ L ∧ g.get? b = none := fun b hb => by
    obtain ⟨p, hp, z⟩ := List.mem_map.mp (hks b hb)
    rw [← z]; exact (S.nw p hp).2
  have toB : ∀ b o, h.get? b = some o → b ∉ ks → b ≠ L → B.get? b = some o := fun b o q1 q2 q3 => x3 b o q1 q2 (fun hm => by
    rcases List.mem_cons.mp hm with z | z
    · exact q3 z
    · cases z)
  have nL : B.get? L = none := (x1.frames.mem (b := L) (.head _)).1
  have gL : g.get? L = none := Heap.get?_none_of_le F.above
  have hfr : ∀ p ∈ own1, B.get? p.1 = some p.2 ∧ p.1 ≠ L ∧ g.get? p.1 = none := fun p hp => by
    refine ⟨x2 p hp, fun z => ?_, ?_⟩
    · have := x2 p hp
      rw [z, nL] at this; cases this
    · rcases x.fresh p hp with z | z
      · exact S.gnone z
      · exact (nk _ z).2
  have hrr : ∀ p ∈ rest, B.get? p.1 = some p.2 ∧ p.1 ≠ L ∧ g.get? p.1 = none := fun p hp => by
    obtain ⟨h1, h2⟩ := hr p hp
    have z := S.nw p h1
    exact ⟨toB _ _ z.1 h2 z.2.1, z.2⟩
  have eB := x1.new
  have heL : e ≠ L := fun z => by
    have := x.slots L (.head _) _ hL
    obtain ⟨sl, q⟩ := this
    rw [← z, he] at q
    have q2 := Option.some.inj q
    rw [q2] at hd
    dsimp only at hd
    rw [r.1] at hd; cases hd
  have heg : g.get? e = none := by
    cases q : g.get? e with
    | none => rfl
    | some o =>
      have hh := F.keep _ _ q
      by_cases z : e ∈ ks
      · rw [(nk e z).2] at q; cases q
      · rw [toB e o hh z heL] at eB; cases eB
  refine ⟨oe, vs, hc, hdd, hd, h0, ⟨m, ⟨?_, fun b o q => ?_, F.above⟩, hl⟩, fun p hp => ?_, ?_⟩
  · obtain ⟨sl, q⟩ := x.slots L (.head _) _ hL
    exact ⟨_, es, ep, q, r⟩
  · refine x1.stays b o (toB b o (F.keep b o q) (fun z => ?_) fun z => ?_)
    · rw [(nk b z).2] at q; cases q
    · rw [z, gL] at q; cases q
  · rcases List.mem_cons.mp hp with rfl | hp
    · exact ⟨he, heL, heg⟩
    · rcases List.mem_append.mp hp with hp | hp
      · have z := hfr p hp
        exact ⟨x1.stays _ _ z.1, z.2⟩
      · have z := hrr p hp
        exact ⟨x1.stays _ _ z.1, z.2⟩
  · rw [List.map_cons, List.nodup_cons, List.map_append, List.nodup_append]
    refine ⟨fun hm => ?_, x.nd, hrn, fun b hb c hc q => ?_⟩
    · rcases List.mem_append.mp hm with hm | hm
      · obtain ⟨p, hp, z⟩ := List.mem_map.mp hm
        have := (hfr p hp).1
        rw [z] at this
        dsimp only at this
        rw [eB] at this; cases this
      · obtain ⟨p, hp, z⟩ := List.mem_map.mp hm
        have := (hrr p hp).1
        rw [z] at this
        dsimp only at this
        rw [eB] at this; cases this
    · obtain ⟨p, hp, z⟩ := List.mem_map.mp hb
      obtain ⟨p2, hp2, z2⟩ := List.mem_map.mp hc
      obtain ⟨h1, h2⟩ := hr p2 hp2
      rcases x.fresh p hp with y | y
      · have := (S.nw p2 h1).1
        rw [z2, ← q, ← z, y] at this; cases this
      · exact h2 (by rw [z2, ← q, ← z]; exact y)

theorem flown_set {M : Model} {s : Shared} {Q : Unit → Shared → Prop} {outer : List Env} (x : Flown h ks (envX cn cs L a ccd cl :: outer) e cls dd a0 fl own1 s.heap) (hnf : ∀ b ∈ frs (envX cn cs L a ccd cl :: outer), ∃ o, h.get? b = some o ∧ ∀ vs, o.data ≠ .fields vs)
    (q : ∀ h', Flown h ks (envX cn cs L a ccd cl :: outer) e cls dd a0 .none own1 h' → Q () { s with heap := h' }) :
    wpAny M A (setFlight (.ref e) none) Q E s := by
  obtain ⟨B, x1, x2, x3⟩ := x.fly
  refine fly_set (fr := none) x1 fun h' y1 y2 => q h' ⟨⟨B, y1, x2, x3⟩, fun b hb o ho => ?_, x.fresh, x.nd⟩
  obtain ⟨sl, h2⟩ := x.slots b hb o ho
  obtain ⟨o', h3, hn⟩ := hnf b hb
  rw [ho] at h3; cases h3
  obtain ⟨sl2, h4⟩ := y2 b _ h2 hn
  exact ⟨sl2, h4⟩
end

section
variable {prog : Program} {w : World} {A : Around} {E : Value → Shared → Prop} {h : Heap} {C N e : Addr} {G : Array GenState} {D : Drawn} {tk : Nat} {O : OsState} {K : Frag} {oe : Obj} {env : Env} {t : Expr} {n : Str} {b₀ : Stmt} {suite : List Stmt} {pos : Pos} {rest : List ExceptHandler} {Q : Flow → Shared → Prop}

/-- a clause of the script's own exception class is met by one of it -/
theorem clause_own (XC : ExcK K C N)
    (q : wpAny (model prog w) (A.mark (some (.ref e))) (eval t env) (fun c s₁ => c = .ref C ∧ K.In s₁.heap ∧ (∃ oe, s₁.heap.get? e = some oe ∧ oe.cls = .ref C) ∧
      wpAny (model prog w) (A.mark (some (.ref e))) (setFlight (.ref e) none) (fun _ s₂ =>
          wpAny (model prog w) (A.mark (some (.ref e))) (storeName env n (.ref e)) (fun _ s₃ =>
            wpAny (model prog w) (A.mark (some (.ref e))) (execs (b₀ :: suite) env)
              (fun f s₄ => wpAny (model prog w) A (do bindName env n .none; unbindBehindTheSuite env n pos) (fun _ s₅ => Q f s₅) E s₄)
              (AsSuiteRaised (model prog w) (A.mark (some (.ref e))) env n pos (notedBy (model prog w) (A.mark (some (.ref e))) env (cameBackBy (model prog w) A env E))) s₃) (notedBy (model prog w) (A.mark (some (.ref e))) env (cameBackBy (model prog w) A env E)) s₂) (notedBy (model prog w) (A.mark (some (.ref e))) env (cameBackBy (model prog w) A env E)) s₁) (notedBy (model prog w) (A.mark (some (.ref e))) env (cameBackBy (model prog w) A env E)) ⟨h, G, D, tk, O⟩) :
    wpAny (model prog w) A (handleBy (.ref e) env (.ExceptHandler (some t) (some n) (b₀ :: suite) pos :: rest)) Q E ⟨h, G, D, tk, O⟩ := by
  refine wpAny_handleBy_cons (codeAny_handlers_test (wpAny_mono q (fun c s₁ h₁ => ?_) fun _ _ y => y)) (by intro q; cases q)
  obtain ⟨rfl, X, ⟨oe, he, hcls⟩, hk⟩ := h₁
  obtain ⟨nm, qn, bs, sn, sub, ab, col, dd, k0, k1, k2, k3, k5, hC⟩ := XC.obj
  obtain ⟨hh, g, d, tk, os⟩ := s₁
  exact wpAny_excMatches_sub_self (X _ _ hC) he hcls PySem.F.excBase_Exception.hasBase (codeAny_handlers_suite_as hk)

end

/-- the clause's name goes -/
theorem m_nameGoes {M : Model} {A : Around} {E : Value → Shared → Prop} {g h : Heap} {L a : Addr} {lo lo' : List (Str × Value)} {own : List (Addr × Obj)} {G : Array GenState} {D : Drawn} {tk : Nat} {O : OsState} {cn : Str} {cs : Scope} {ccd : Value} {cl : List (Str × Addr)} {n : Str} {pos : Pos} {Q : Unit → Shared → Prop}
    (S : St g L h lo own) (hx : (envX cn cs L a ccd cl).kindOf n = some .local) (hk : cs.kind = .function) (hlo : ∀ x v, lo'.lookup x = some v → x ≠ n ∧ lo.lookup x = some v)
    (q : ∀ h' tk', St g L h' lo' own → Q () ⟨h', G, D, tk', O⟩) : wpAny M A (do bindName (envX cn cs L a ccd cl) n .none; unbindBehindTheSuite (envX cn cs L a ccd cl) n pos) Q E ⟨h, G, D, tk, O⟩ := by
  obtain ⟨m, F, hl⟩ := S.fr
  refine wpAny_nameGoes_keeps hx F.ns (by show (cs.kind == .class || (cs.kind == .module && L != mainGlobals)) = false; rw [hk]; rfl) fun h' v hn hs => q h' _ ⟨⟨_, F.set hn hs, fun x u e => ?_⟩, S.nw.set hs, S.nd⟩
  obtain ⟨h1, h2⟩ := hlo x u e
  rw [if_neg h1]
  exact hl x u h2
end Mine

namespace Mine
open PySem PySem.W PySem.Spec PySem.Calls PyProof.Rows

section
variable {prog : Program} {w : World} {A : Around} {E : Value → Shared → Prop} {g h h' : Heap} {L a e d C f : Addr} {lo : List (Str × Value)} {own pre mid mid' post own1 : List (Addr × Obj)} {G : Array GenState} {D : Drawn} {tk : Nat} {O : OsState} {cn : Str} {cs : Scope} {ccd : Value} {cl : List (Str × Addr)}

/-- after a call that turned the middle of the ledger -/
theorem St.around (S : St g L h lo (pre ++ (mid ++ post))) (hk : ∀ b o, h.get? b = some o → b ∉ keys mid → h'.get? b = some o) (hm : ∀ p ∈ mid', h'.get? p.1 = some p.2) (hkeys : keys mid' = keys mid) : St g L h' lo (pre ++ (mid' ++ post)) := by
  have nd := S.nd
  rw [List.map_append, List.map_append, List.nodup_append, List.nodup_append] at nd
  refine S.after hk (fun b hb => ?_) (fun p hp => ?_) ?_
  · show b ∈ List.map (·.1) (pre ++ (mid ++ post))
    rw [List.map_append, List.map_append]
    exact List.mem_append_right _ (List.mem_append_left _ hb)
  · rcases List.mem_append.mp hp with hp | hp
    · refine hk _ _ (S.at (List.mem_append_left _ hp)) fun hm => ?_
      exact nd.2.2 p.1 (List.mem_map_of_mem (f := (·.1)) hp) p.1 (List.mem_append_left _ hm) rfl
    · rcases List.mem_append.mp hp with hp | hp
      · exact hm p hp
      · refine hk _ _ (S.at (List.mem_append_right _ (List.mem_append_right _ hp))) fun hm => ?_
        exact nd.2.1.2.2 p.1 hm p.1 (List.mem_map_of_mem (f := (·.1)) hp) rfl
  · show List.map (·.1) (pre ++ (mid' ++ post)) = List.map (·.1) (pre ++ (mid ++ post))
    have : List.map (·.1) mid' = List.map (·.1) mid := hkeys
    simp only [List.map_append, this]
/-- `str(e)` of an exception with its own `__str__` -/
theorem m_strOwn {K : Frag} {oe od : Obj} {Q : Value → Shared → Prop} (S : St g L h lo own) (X : K.In g) (hu : A.in1.in1.units < cLine) (hx : (e, oe) ∈ own) (hoc : oe.cls = .ref C) (hod : oe.dict = some d) (hof : ∃ fs, oe.data = .fields fs) (hdo : (d, od) ∈ own)
    (hs : findIn K (.ref C) "__str__" = some (some (.ref f))) (hf : isFn K (.ref f) = true)
    (q : wpAny (model prog w) A.in1.in1 (call (.ref f) [.ref e]) (StrBack Q) E ⟨h, G, D, tk, O⟩) : wpAny (model prog w) A (call (.type "str") [.ref e]) Q E ⟨h, G, D, tk, O⟩ := by
  obtain ⟨fs, hfs⟩ := hof
  refine kso_call (s := ⟨h, G, D, tk, O⟩) (od := some od) hu (S.hasK X) ⟨S.at hx, hoc, by unfold notCls; rw [hfs], by rw [hod]; exact S.at hdo⟩ hs hf q
theorem flown_note {M : Model} {s : Shared} {hc : Heap} {ks : List Addr} {outer : List Env} {cls a0 : Value} {dd : Option Addr} {Q : Unit → Shared → Prop} (hfr : A.frames = some (envX cn cs L a ccd cl :: outer)) (x : Flown hc ks (envX cn cs L a ccd cl :: outer) e cls dd a0 .none own1 s.heap) (hnf : ∀ b ∈ frs (envX cn cs L a ccd cl :: outer), ∃ o, hc.get? b = some o ∧ ∀ vs, o.data ≠ .fields vs)
    (q : ∀ h', Flown hc ks (envX cn cs L a ccd cl :: outer) e cls dd a0 (rawInt L) own1 h' → Q () { s with heap := h' }) :
    wpAny M A (noteFrame (.ref e) (envX cn cs L a ccd cl)) Q E s := by
  obtain ⟨B, x1, x2, x3⟩ := x.fly
  refine fly_note hfr rfl x1 fun h' y1 y2 => q h' ⟨⟨B, y1, x2, x3⟩, fun b hb o ho => ?_, x.fresh, x.nd⟩
  obtain ⟨sl, h2⟩ := x.slots b hb o ho
  obtain ⟨o', h3, hn⟩ := hnf b hb
  rw [ho] at h3; cases h3
  obtain ⟨sl2, h4⟩ := y2 b _ h2 hn
  exact ⟨sl2, h4⟩
theorem frames_no1 (S : St g L h lo own) : ∀ b ∈ frs [envX cn cs L a ccd cl], ∃ o, h.get? b = some o ∧ ∀ vs, o.data ≠ .fields vs := fun b hb => by
  obtain ⟨m, F, _⟩ := S.fr
  rcases List.mem_cons.mp hb with rfl | hb
  · obtain ⟨oL, es, ep, hL, hd, _⟩ := F.ns
    exact ⟨oL, hL, fun vs q => by rw [hd] at q; cases q⟩
  · cases hb
end
end Mine

namespace Mine
open PySem PySem.W PySem.Spec PySem.Calls PyProof.Rows PyProof

theorem signs_get {x : Str} {k : Nat} : (signs x)[k]? = (x.cps[k]?).map fun n => (⟨#[n]⟩ : Str) := by
  unfold signs
  rw [List.getElem?_map, Array.getElem?_toList]
theorem slice_one {x : Str} {k : Nat} {c : Str} (h : (signs x)[k]? = some c) : Txt.slice x (some (k : Int)) (some ((k : Int) + 1)) = c := by
  have hk : k < x.length := by
    have := (List.getElem?_eq_some_iff.mp h).1
    rwa [signs_length] at this
  have e := eq_of_beq (slice_closesL (x := x) (i := (k : Int)) (j := (k : Int) + 1) (by omega) (by omega) (by omega))
  rw [e]
  rw [signs_get] at h
  obtain ⟨n, hn, rfl⟩ := Option.map_eq_some_iff.mp h
  have e2 : ((k : Int) + 1 - (k : Int)).toNat = 1 := by omega
  rw [e2, Int.toNat_natCast]
  rw [← Array.getElem?_toList] at hn
  obtain ⟨h1, h2⟩ := List.getElem?_eq_some_iff.mp hn
  rw [List.drop_eq_getElem_cons h1, h2]
  rfl
theorem slice_end {x : Str} {k : Nat} (hk : x.length ≤ k) : Txt.slice x (some (k : Int)) (some ((k : Int) + 1)) = Str.empty := by
  have hl : (Builtin.Str.strSliceIndices (some (k : Int)) (some ((k : Int) + 1)) 1 x.length) = [] := by
    unfold Builtin.Str.strSliceIndices sliceRange
    simp only [show (1 : Int) > 0 by decide, if_true]
    rw [List.map_eq_nil_iff, List.range_eq_nil]
    split <;> (try split) <;> (try split) <;> (try simp only [Int.ediv_one]) <;> omega
  unfold Txt.slice
  rw [hl]
  split
  · rename_i h
    have h2 : (0 : Nat) = x.length := by simpa using h
    apply Str.ext'
    have : x.cps.size = 0 := h2.symm
    rw [Array.size_eq_zero_iff.mp this]
    rfl
  · rfl

section
variable {prog : Program} {w : World} {A : Around} {E : Value → Shared → Prop} {g h : Heap} {L l d sl it : Addr} {lo : List (Str × Value)} {own own' : List (Addr × Obj)} {G : Array GenState} {D : Drawn} {tk : Nat} {O : OsState} {vs : List Value} {n : Nat} {x y z : Str} {t u v : Tok} {i j : Int} {env : Env} {pos : Pos}

theorem m_strT {k : Nat} {Q : Value → Shared → Prop} (q : ∀ tk', tk' = tk + 1 → Q (.str x tk) ⟨h, G, D, tk', O⟩) : wpAny (model prog w) A (eval (.Constant (.str x) k pos) env) Q E ⟨h, G, D, tk, O⟩ := Calls.Constant_str (q _ rfl)
theorem m_cutS {value slice : Expr} {Q : Value → Shared → Prop} (S : St g L h lo own) (hs : (sl, sliceOf (.int i t) (.int j u) .none) ∈ own) (hsz : x.length ≤ sizeLine)
    (he : subscripted slice false (.str x v) (.ref sl) = operate [.ref sl, .str x v] (getItem (.str x v) (.ref sl)))
    (q : ∀ t' tk', Q (.str (Txt.slice x (some i) (some j)) t') ⟨h, G, D, tk', O⟩) : wpAny (model prog w) A (subscriptTail value slice (.str x v) (.ref sl)) Q E ⟨h, G, D, tk, O⟩ :=
  tail_any (s := ⟨h, G, D, tk, O⟩) (typeIs_str _ _ _) PySem.F.slot_str_getitem.lookup (wpAny_getItem_str_slice (l := some (i, t)) (u := some (j, u)) (st := none) ⟨_, S.at hs, rfl, rfl⟩ rfl
    (post_val_or_str ⟨Nat.le_trans (Txt.slice_le x _ _) hsz, fun t' k => q t' k⟩)) he
theorem m_cutSto {value slice : Expr} {Q : Value → Shared → Prop} (S : St g L h lo own) (hs : (sl, sliceOf .none (.int j u) .none) ∈ own) (hsz : x.length ≤ sizeLine)
    (he : subscripted slice false (.str x v) (.ref sl) = operate [.ref sl, .str x v] (getItem (.str x v) (.ref sl)))
    (q : ∀ t' tk', Q (.str (Txt.slice x none (some j)) t') ⟨h, G, D, tk', O⟩) : wpAny (model prog w) A (subscriptTail value slice (.str x v) (.ref sl)) Q E ⟨h, G, D, tk, O⟩ :=
  tail_any (s := ⟨h, G, D, tk, O⟩) (typeIs_str _ _ _) PySem.F.slot_str_getitem.lookup (wpAny_getItem_str_slice (l := none) (u := some (j, u)) (st := none) ⟨_, S.at hs, rfl, rfl⟩ rfl
    (post_val_or_str ⟨Nat.le_trans (Txt.slice_le x _ _) hsz, fun t' k => q t' k⟩)) he
theorem m_getPop {pl : Sem Bool} {Q : Value × List Value → Shared → Prop} (S : St g L h lo own) (hm : (l, listOf vs.toArray n) ∈ own)
    (q : Q (.builtin "list.pop", [.ref l]) ⟨h, G, D, tk, O⟩) : wpAny (model prog w) A (getMethod (.ref l) "pop" pl) Q E ⟨h, G, D, tk, O⟩ := by
  obtain ⟨m, F, _⟩ := S.fr
  exact kl_method S.nw hm PySem.F.slot_list_pop PySem.F.type_list_pop q
theorem m_pop0 {y : Value} {Q : Value → Shared → Prop} (S : St g L h lo own) (U : At l (listOf (y :: vs).toArray n) (listOf vs.toArray (n + 1)) own own') (hz : (y :: vs).length ≤ sizeLine)
    (q : ∀ h', St g L h' lo own' → Q y ⟨h', G, D, tk, O⟩) : wpAny (model prog w) A (call (.builtin "list.pop") [.ref l, .int 0 u]) Q E ⟨h, G, D, tk, O⟩ := by
  obtain ⟨m, F, hl⟩ := S.fr
  refine kl_popAt (k := 0) (p := []) (q := vs) (s := ⟨h, G, D, tk, O⟩) F S.nw (by decide +kernel) ?_ ?_ (U.updK S.nd) (by simpa using hz) fun h' F' N' => q h' ⟨⟨m, F', hl⟩, N', U.keys ▸ S.nd⟩
  · unfold seqIndex?
    simp
  · rfl
theorem m_notinTup {a : Addr} {ys : List Str} {Q : Value → Shared → Prop} (S : St g L h lo own) (hm : (a, tupOf vs) ∈ own) (hi : StrsAre vs ys) (q : Q (.bool (!(ys.any (· == x)))) ⟨h, G, D, tk, O⟩) :
    wpAny (model prog w) A (compareOp .NotIn (.str x u) (.ref a)) Q E ⟨h, G, D, tk, O⟩ := notin_tuple_strs (s := ⟨h, G, D, tk, O⟩) (S.isTup hm) (by simpa using hi) q
theorem m_inTup {a : Addr} {ys : List Str} {Q : Value → Shared → Prop} (S : St g L h lo own) (hm : (a, tupOf vs) ∈ own) (hi : StrsAre vs ys) (q : Q (.bool (ys.any (· == x))) ⟨h, G, D, tk, O⟩) :
    wpAny (model prog w) A (compareOp .In (.str x u) (.ref a)) Q E ⟨h, G, D, tk, O⟩ := in_tuple_strs (s := ⟨h, G, D, tk, O⟩) (S.isTup hm) (by simpa using hi) q
theorem m_getReplace {pl : Sem Bool} {s : Shared} {Q : Value × List Value → Shared → Prop} (q : Q (.builtin "str.replace", [.str x t]) s) : wpAny (model prog w) A (getMethod (.str x t) "replace" pl) Q E s := GM.replace q
theorem m_getCount {pl : Sem Bool} {s : Shared} {Q : Value × List Value → Shared → Prop} (q : Q (.builtin "str.count", [.str x t]) s) : wpAny (model prog w) A (getMethod (.str x t) "count" pl) Q E s := GM.count q
theorem m_count {Q : Value → Shared → Prop} (q : ∀ t' tk', Q (.int (Txt.count x y) t') ⟨h, G, D, tk', O⟩) : wpAny (model prog w) A (call (.builtin "str.count") [.str x t, .str y u]) Q E ⟨h, G, D, tk, O⟩ := SC.count (q _ _)
structure StrIt (o : Obj) (x : Str) (t : Tok) (i : Nat) : Prop where
  cls : o.cls = .type "str_ascii_iterator"
  data : o.data = .fields #[.str x t, .int i 0]
theorem m_iterS {Q : Value → Shared → Prop} (S : St g L h lo own) (ha : x.cps.all (· < 128) = true)
    (q : ∀ it h' o, StrIt o x t 0 → St g L h' lo ((it, o) :: own) → Q (.ref it) ⟨h', G, D, tk, O⟩) : wpAny (model prog w) A (pyIter (.str x t)) Q E ⟨h, G, D, tk, O⟩ :=
  wpAny_pyIter_ascii ha (q _ _ _ ⟨rfl, rfl⟩ S.push)
theorem ext_tail {o : Obj} {h' : Heap} (S : St g L h lo ((it, o) :: own)) (he : Heap.ExtBut it h h') : St g L h' lo own := by
  obtain ⟨m, F, hl⟩ := S.fr
  have z := S.nw _ (.head _)
  refine ⟨⟨m, ⟨F.ns.extBut he (Ne.symm z.2.1), fun b ob e => he b ob (fun q => ?_) (F.keep b ob e), F.above⟩, hl⟩, fun p hp => ?_, (S.pick (.cons _ (List.Sublist.refl _))).nd⟩
  · rw [q] at e; rw [z.2.2] at e; cases e
  · exact ⟨he _ _ (fun e => S.apart (b := p.1) (o' := p.2) hp e.symm) (S.nw _ (.tail _ hp)).1, (S.nw _ (.tail _ hp)).2⟩
theorem m_nextS {o : Obj} {i c : Nat} {Q : Option Value → Shared → Prop} (S : St g L h lo ((it, o) :: own)) (H : StrIt o x t i) (hx : x.cps[i]? = some c)
    (q : ∀ tc h' tk' o', StrIt o' x t (i + 1) → St g L h' lo ((it, o') :: own) → Q (some (.str ⟨#[c]⟩ tc)) ⟨h', G, D, tk', O⟩) : wpAny (model prog w) A (pyNext (.ref it)) Q E ⟨h, G, D, tk, O⟩ :=
  wpAny_pyNext_ascii_item (s := ⟨h, G, D, tk, O⟩) ⟨o, S.at (.head _), H.cls, H.data⟩ hx fun h' hi hs =>
    let ⟨o', h1, h2, h3⟩ := hi
    q _ h' _ o' ⟨h2, h3⟩ (S.upd .here hs.extBut h1)
theorem m_endS {o : Obj} {i : Nat} {Q : Option Value → Shared → Prop} (S : St g L h lo ((it, o) :: own)) (hh : A.handled = none) (H : StrIt o x t i) (hx : x.cps[i]? = none)
    (q : ∀ h', St g L h' lo own → Q none ⟨h', G, D, tk, O⟩) : wpAny (model prog w) A (pyNext (.ref it)) Q E ⟨h, G, D, tk, O⟩ :=
  wpAny_pyNext_ascii_end (s := ⟨h, G, D, tk, O⟩) hh ⟨o, S.at (.head _), H.cls, H.data⟩ hx fun h' he => q h' (ext_tail S he)

theorem dict0_is : Obj.IsDictOf (strKind prog w) { cls := .type "dict", data := .dict #[] } [] := ⟨#[], 0, ⟨rfl, rfl, rfl⟩, rfl, fun e he => by simp at he, .nil, List.nodup_nil⟩
theorem m_setDict {od : Obj} {kvs : List (Str × Value)} {y : Value} {Q : Unit → Shared → Prop} (S : St g L h lo ((d, od) :: own)) (hd : od.IsDictOf (strKind prog w) kvs) (hz : kvs.length ≤ 1000)
    (q : ∀ h' tk' od', od'.IsDictOf (strKind prog w) (stored kvs x y) → St g L h' lo ((d, od') :: own) → Q () ⟨h', G, D, tk', O⟩) : wpAny (model prog w) A (setItem (.ref d) (.str x t) y) Q E ⟨h, G, D, tk, O⟩ := by
  have hdo : h.DictOf (strKind prog w) d kvs := Heap.dictOf_iff.mpr ⟨od, S.at (.head _), hd⟩
  refine wpAny_setItem_pairs (s := ⟨h, G, D, tk, O⟩) (knd := strKind prog w) (k := x) (by show (Value.str x t).isStrOf x = true; simp [Value.isStrOf]) hdo (fun h' hm hs => ?_) (tot_ok hz)
  obtain ⟨od', h1, h2⟩ := Heap.dictOf_iff.mp hm
  exact q h' _ od' h2 (S.upd .here hs.extBut h1)
end
end Mine

namespace Mine
open PySem PySem.W PySem.Spec PySem.Calls PyProof.Rows
section
variable {prog : Program} {w : World} {A : Around} {E : Value → Shared → Prop} {g h : Heap} {L : Addr} {lo : List (Str × Value)} {own : List (Addr × Obj)} {G : Array GenState} {Dr : Drawn} {tk : Nat} {O : OsState} {i j : Int} {t u : Tok} {x y : Str}
theorem m_range1 {Q : Value → Shared → Prop} (S : St g L h lo own)
    (q : ∀ a t v h' tk', St g L h' lo ((a, rangeOf 0 j t u v) :: own) → Q (.ref a) ⟨h', G, Dr, tk', O⟩) : wpAny (model prog w) A (call (.type "range") [.int j u]) Q E ⟨h, G, Dr, tk, O⟩ := by
  refine call_range_1 ?_
  exact q _ _ _ _ _ S.push
theorem m_adds {Q : Value → Shared → Prop} (hsz : x.length + y.length ≤ sizeLine) (q : ∀ t' tk', Q (.str (x ++ y) t') ⟨h, G, Dr, tk', O⟩) : wpAny (model prog w) A (binaryOp .Add (.str x t) (.str y u)) Q E ⟨h, G, Dr, tk, O⟩ := add_str (fun t' tk' => q t' tk') hsz
open PySem.Builtin PySem.Builtin.Str in
theorem m_replaceT {z : Str} {v : Tok} {Q : Value → Shared → Prop} (hu : u ≠ 0) (hv : v ≠ 0) (huv : u ≠ v) (hyz : (y == z) = false) (hx : x.length ≤ 1000) (hz : z.length ≤ 14)
    (q : ∀ t' tk', tk ≤ tk' → Q (.str (Txt.replace x y z) t') ⟨h, G, Dr, tk', O⟩) : wpAny (model prog w) A (call (.builtin "str.replace") [.str x t, .str y u, .str z v]) Q E ⟨h, G, Dr, tk, O⟩ := by
  have h1 : (x.length + 1) * z.length ≤ 1001 * 14 := Nat.mul_le_mul (by omega) hz
  have hb : x.length + (x.length + 1) * z.length ≤ 16777216 := by omega
  have hl : tooLong (x.length + (occurrences x y 0 x.length (x.length + 1)).length * z.length) = false := by
    have h2 := StrLaws.occ_length_le x y 0 x.length (x.length + 1)
    have h3 : (occurrences x y 0 x.length (x.length + 1)).length * z.length ≤ (x.length + 1) * z.length := Nat.mul_le_mul_right _ h2
    have h4 := sizeLine_eq
    unfold tooLong
    exact decide_eq_false (by omega)
  refine call_gives PySem.F.slot_str_replace (typeIs_str _ _ _) PySem.F.entry_str_replace (PySem.F.args_str_replace_3 _ _ _) (gives_str_replace x y z t u v fun _ => ⟨by simp [hu, hv], by simp [huv], hyz, hl⟩) ?_
  unfold Txt.replace at q
  by_cases hc : ((occurrences x y 0 x.length (x.length + 1)).isEmpty || (y.length == 0 && z.length == 0)) = true
  · rw [if_pos hc] at q ⊢
    exact q t tk (Nat.le_refl _)
  · rw [if_neg hc] at q ⊢
    exact ⟨fits_replaced y hb, q _ _ (Nat.le_succ _)⟩
end
end Mine

namespace Mine
open PySem PySem.W PySem.Spec PySem.Calls PyProof.Rows
/-- the call of a K function whose two parameters are captured -/
theorem m_enterC {prog : Program} {w : World} {A : Around} {h : Heap} {G : Array GenState} {D : Drawn} {tk : Nat} {O : OsState} {K : Frag} {b0 : Heap}
    {R : Result → Shared → Prop} {name qual : Str} {params : Arguments} {body : List Stmt} {scope : Scope} {dV kV doc pm cdv ct oc : Value} {an od : Option Addr} {osl : Array (Option Value)} {f : Addr} {vals : List Value} {binds : List (Str × Value)} {own : List (Addr × Obj)} {n1 n2 : Str} {v1 v2 : Value}
    (X : K.In b0) (hlim : b0.NoLimit) (hb : b0.StaysIn h) (hown : ∀ p ∈ own, h.get? p.1 = some p.2) (hnd : (own.map (·.1)).Nodup)
    (ho : K.lookup f = some ⟨oc, od, .func (fnX name qual params body scope [] dV kV doc pm an cdv ct), osl⟩) (hcd : codeIn K cdv qual = true) (hroom : A.depth < recursionLimit)
    (hbind : bindArgs (fnX name qual params body scope [] dV kV doc pm an cdv ct) ⟨vals, []⟩ = pure binds)
    (hkind : ∀ L : Addr, ∀ x ∈ binds, scope.names.lookup x.1 = some .local ∨ (scope.names.lookup x.1 = some .cell ∧ ((cellsFrom (L + 1) scope.names []).lookup x.1).isSome = true))
    (hc1 : ∀ L : Addr, (cellsFrom (L + 1) scope.names []).lookup n1 = some (L + 1)) (hc2 : ∀ L : Addr, (cellsFrom (L + 1) scope.names []).lookup n2 = some (L + 1 + 1))
    (hv1 : ∀ L : Addr, bindC (callEnvC (fnX name qual params body scope [] dV kV doc pm an cdv ct) L f).kindOf binds (fun _ => none) n1 = some v1)
    (hv2 : ∀ L : Addr, bindC (callEnvC (fnX name qual params body scope [] dV kV doc pm an cdv ct) L f).kindOf binds (fun _ => none) n2 = some v2)
    (hco : scope.isCoroutine = false) (hgen : scope.isGenerator = false) (hk : scope.kind = .function)
    (q : ∀ L h₁ tk₁ o1 o2, L = h.objs.size → (∀ b o, h.get? b = some o → h₁.get? b = some o) → o1.data = .cell (some v1) → o2.data = .cell (some v2) → St (gOf h own) L h₁ [] ((L + 1, o1) :: (L + 1 + 1, o2) :: own) →
      wpAny (model prog w) (A.deeper (envX qual scope L f cdv (cellsFrom (L + 1) scope.names []))) (execs body (envX qual scope L f cdv (cellsFrom (L + 1) scope.names [])))
        (fun fl s' => R (.ok (.ret (match fl with | .ret v => v | _ => .none))) s')
        (fun e s' => wpAny (model prog w) (A.deeper (envX qual scope L f cdv (cellsFrom (L + 1) scope.names []))) (leaving (envX qual scope L f cdv (cellsFrom (L + 1) scope.names [])) e) (fun _ s'' => R (.error e) s'') (fun e' s'' => R (.error e') s'') s')
        ⟨h₁, G, D, tk₁, O⟩) : codeAny (model prog w) A (.call (.ref f) ⟨vals, []⟩) R ⟨h, G, D, tk, O⟩ := by
  refine codeAny_call_cells (fd := fnX name qual params body scope [] dV kV doc pm an cdv ct) (body := body) (binds := binds) hroom (hb _ _ (X _ _ ho)) rfl (hlim.keeps hb) (codeRec_of (X.keeps hb) hcd) rfl hbind rfl (fun x hx => hkind _ x hx) (fun s₁ I => ?_) hco hgen hk
  obtain ⟨h₁, tk₁, rfl, hkp⟩ := I.done
  obtain ⟨o1, e1, d1⟩ := I.cell n1 _ (hc1 h.objs.size)
  obtain ⟨o2, e2, d2⟩ := I.cell n2 _ (hc2 h.objs.size)
  rw [hv1] at d1
  rw [hv2] at d2
  refine q h.objs.size h₁ tk₁ o1 o2 rfl hkp d1 d2 ⟨⟨_, ⟨I.toInCall.ns, fun b o e => hkp b o (gOf_get e), Nat.le_of_eq (hideAll_size _ _)⟩, fun _ _ e => by cases e⟩, fun p hp => ?_, ?_⟩
  · rcases List.mem_cons.mp hp with rfl | hp
    · exact ⟨e1, Nat.ne_of_gt (Nat.lt_succ_self _), Heap.get?_none_of_le (by show (gOf h own).objs.size ≤ _; rw [hideAll_size]; exact Nat.le_succ _)⟩
    · rcases List.mem_cons.mp hp with rfl | hp
      · exact ⟨e2, Nat.ne_of_gt (Nat.lt_succ_of_lt (Nat.lt_succ_self _)), Heap.get?_none_of_le (by show (gOf h own).objs.size ≤ _; rw [hideAll_size]; exact Nat.le_succ_of_le (Nat.le_succ _))⟩
      · exact ⟨hkp _ _ (hown p hp), Nat.ne_of_lt (Heap.lt_size (hown p hp)), hideAll_none _ (List.mem_map_of_mem hp)⟩
  · have lt : ∀ b ∈ own.map (·.1), b < h.objs.size := fun b hb => by
      obtain ⟨p, hp, rfl⟩ := List.mem_map.mp hb
      exact Heap.lt_size (hown p hp)
    rw [List.map_cons, List.map_cons, List.nodup_cons, List.nodup_cons]
    refine ⟨fun hm => ?_, fun hm => ?_, hnd⟩
    · rcases List.mem_cons.mp hm with z | hm
      · exact absurd (show (h.objs.size + 1 : Nat) = h.objs.size + 1 + 1 from z) (by omega)
      · exact absurd (lt _ hm) (by show ¬ (h.objs.size + 1 : Nat) < h.objs.size; omega)
    · exact absurd (lt _ hm) (by show ¬ (h.objs.size + 1 + 1 : Nat) < h.objs.size; omega)
end Mine

namespace Mine
open PySem PySem.W PySem.Spec PySem.Calls PyProof.Rows

/-- two values are equal here, in this program and world -/
def EqW (prog : Program) (w : World) (A : Around) (s : Shared) (y x : Value) : Prop := ∀ (E : Value → Shared → Prop) (Q : Bool → Shared → Prop), Q true s → wpAny (model prog w) A (eqBool y x) Q E s
def RcW (prog : Program) (w : World) (A : Around) (op : CmpOp) (s : Shared) (y x : Value) (b : Bool) : Prop := ∀ (E : Value → Shared → Prop) (Q : Value → Shared → Prop), Q (.bool b) s → wpAny (model prog w) A (richCompare op y x) Q E s
section
variable {prog : Program} {w : World} {A : Around} {s : Shared}
theorem EqW.of {x y : Value} (h : SeqAt.EqAt A s y x true) : EqW prog w A s y x := fun E Q hq => h prog w E Q hq
theorem EqW.same (x : Value) : EqW prog w A s x x := .of (SeqAt.EqAt.same x)
theorem EqW.refs {l b : Addr} (hne : l ≠ b) (h : RcW prog w A .Eq s (.ref l) (.ref b) true) : EqW prog w A s (.ref l) (.ref b) := fun E Q hq => by
  unfold eqBool
  refine wpAny_holding ?_
  refine wpAny_ite_split (fun hab => absurd (by have := eq_of_beq hab; injection this) hne) (fun _ => ?_)
  exact wpAny_bind (h E _ (wpAny_truthy_bool hq))
theorem EqW.strs {x : Str} {t u : Tok} : EqW prog w A s (.str x t) (.str x u) := by
  have h := SeqAt.EqAt.str_str (A := A) (s := s) x t x u
  simp only [PyData.eqv, beq_self_eq_true] at h
  exact .of h
theorem EqW.ints {x : Int} {t u : Tok} : EqW prog w A s (.int x t) (.int x u) := by
  have h := SeqAt.EqAt.int_int (A := A) (s := s) x t x u
  simp only [PyData.eqv, beq_self_eq_true] at h
  exact .of h

theorem eqW_zip {l b : Addr} {xs ys : List Value} (hl : s.heap.get? l = some (tupOf xs)) (hb : s.heap.get? b = some (tupOf ys)) (hlen : xs.length = ys.length)
    (he : ∀ (j : Nat) (x y : Value), xs[j]? = some x → ys[j]? = some y → EqW prog w A.in1 s x y) (hu : A.units < cLine) : RcW prog w A .Eq s (.ref l) (.ref b) true := fun E Q hq => by
  obtain ⟨hp, g, d, tk, os⟩ := s
  refine wpAny_richCompare_same_room (op := .Eq) ⟨_, hl, rfl⟩ ⟨_, hb, rfl⟩ PySem.F.slot_tuple_eq (wpAny_call_entry PySem.F.slot_tuple_eq ⟨_, hl, rfl⟩ PySem.F.entry_tuple_eq ?_ (PySem.F.args_tuple_eq_2 _ _)) hu
  have f2 := AutoSeq1.sub_tuple_tuple
  wp_walk using AutoSeq1.wpAny_loadPart' hl, AutoSeq1.wpAny_loadPart' hb, wpAny_forIn_list _ (fun rest b s' => b.1 = none ∧ s' = ⟨hp, g, d, tk, os⟩ ∧ ∃ i, rest = (xs.zip ys).drop i) _
  case turn =>
    rintro ⟨x, y⟩ rest b s' ⟨hb', rfl, i, hz⟩
    have hlt : i < (xs.zip ys).length := by
      rcases Nat.lt_or_ge i (xs.zip ys).length with h' | h'
      · exact h'
      · rw [List.drop_of_length_le h'] at hz; cases hz
    rw [List.drop_eq_getElem_cons hlt] at hz
    injection hz with h1 h2
    have h3 : (xs.zip ys)[i]? = some (x, y) := by rw [List.getElem?_eq_getElem hlt, ← h1]
    obtain ⟨h4, h5⟩ := List.getElem?_zip_eq_some.mp h3
    refine wpAny_bind (he i x y h4 h5 _ _ ?_)
    wp_walk
    exact ⟨rfl, rfl, i + 1, h2⟩
  case fin =>
    rintro ⟨b1, b2⟩ s' ⟨hb', rfl, i, hz⟩
    simp only at hb'
    subst hb'
    wp_walk
    refine ⟨_, rfl, ?_, ?_⟩
    · exact fun x => nomatch x
    · simpa [Builtin.Tuple.tupleCompareSizes, hlen] using hq
  case h => exact ⟨rfl, rfl, 0, by simp⟩
theorem neW_zip {l b : Addr} {xs ys : List Value} (hl : s.heap.get? l = some (tupOf xs)) (hb : s.heap.get? b = some (tupOf ys)) (hlen : xs.length = ys.length)
    (he : ∀ (j : Nat) (x y : Value), xs[j]? = some x → ys[j]? = some y → EqW prog w A.in1 s x y) (hu : A.units < cLine) : RcW prog w A .NotEq s (.ref l) (.ref b) false := fun E Q hq => by
  obtain ⟨hp, g, d, tk, os⟩ := s
  refine wpAny_richCompare_same_room (op := .NotEq) ⟨_, hl, rfl⟩ ⟨_, hb, rfl⟩ PySem.F.slot_tuple_ne (wpAny_call_entry PySem.F.slot_tuple_ne ⟨_, hl, rfl⟩ PySem.F.entry_tuple_ne ?_ (PySem.F.args_tuple_ne_2 _ _)) hu
  have f2 := AutoSeq1.sub_tuple_tuple
  wp_walk using AutoSeq1.wpAny_loadPart' hl, AutoSeq1.wpAny_loadPart' hb, wpAny_forIn_list _ (fun rest b s' => b.1 = none ∧ s' = ⟨hp, g, d, tk, os⟩ ∧ ∃ i, rest = (xs.zip ys).drop i) _
  case turn =>
    rintro ⟨x, y⟩ rest b s' ⟨hb', rfl, i, hz⟩
    have hlt : i < (xs.zip ys).length := by
      rcases Nat.lt_or_ge i (xs.zip ys).length with h' | h'
      · exact h'
      · rw [List.drop_of_length_le h'] at hz; cases hz
    rw [List.drop_eq_getElem_cons hlt] at hz
    injection hz with h1 h2
    have h3 : (xs.zip ys)[i]? = some (x, y) := by rw [List.getElem?_eq_getElem hlt, ← h1]
    obtain ⟨h4, h5⟩ := List.getElem?_zip_eq_some.mp h3
    refine wpAny_bind (he i x y h4 h5 _ _ ?_)
    wp_walk
    exact ⟨rfl, rfl, i + 1, h2⟩
  case fin =>
    rintro ⟨b1, b2⟩ s' ⟨hb', rfl, i, hz⟩
    simp only at hb'
    subst hb'
    wp_walk
    refine ⟨_, rfl, ?_, ?_⟩
    · exact fun x => nomatch x
    · simpa [Builtin.Tuple.tupleCompareSizes, hlen] using hq
  case h => exact ⟨rfl, rfl, 0, by simp⟩
open Builtin in
theorem eqW_loop {l b : Addr} {xs ys : List Value} {n n2 : Nat} (hl : s.heap.get? l = some (listOf xs.toArray n)) (hb : s.heap.get? b = some (listOf ys.toArray n2)) (hlen : xs.length = ys.length)
    (he : ∀ (j : Nat) (x y : Value), xs[j]? = some x → ys[j]? = some y → EqW prog w A.in1 s x y) (k : Nat) : ∀ (i : Nat) (R : Result → Shared → Prop), xs.length - i = k → R (.ok (.ret (.bool true))) s →
      wpAny (model prog w) A.in1 (Builtin.«list.__eq__.loop» ⟨[.ref l, .ref b, rawInt i, rawInt 2], []⟩) (fun fin s' => match fin with | .done f => R (.ok f) s' | .again c' => c'.quiet = true ∧ codeAny (model prog w) A c' R s') (fun e s' => R (.error e) s') s := by
  obtain ⟨hp, g, d, tk, os⟩ := s
  induction k with
  | zero =>
    intro i R hk hR
    wp_walk using AutoSeq1.wpAny_loadPart' hl, AutoSeq1.wpAny_loadPart' hb
    have hi1 : xs.toArray[((i : Nat) : Int).toNat]? = none := by simp; omega
    have hi2 : ys.toArray[((i : Nat) : Int).toNat]? = none := by simp; omega
    rw [hi1, hi2]
    wp_walk using AutoSeq1.wpAny_loadPart' hl, AutoSeq1.wpAny_loadPart' hb
    show R (.ok (.ret (.bool (xs.toArray.size == ys.toArray.size)))) _
    have : (xs.toArray.size == ys.toArray.size) = true := by simp [hlen]
    rw [this]; exact hR
  | succ k ih =>
    intro i R hk hR
    wp_walk using AutoSeq1.wpAny_loadPart' hl, AutoSeq1.wpAny_loadPart' hb
    have hlt : i < xs.length := by omega
    have hlt2 : i < ys.length := by omega
    have hi1 : xs.toArray[((i : Nat) : Int).toNat]? = some xs[i] := by simp [hlt]
    have hi2 : ys.toArray[((i : Nat) : Int).toNat]? = some ys[i] := by simp [hlt2]
    have hc : ((i : Int) + 1) = ((i + 1 : Nat) : Int) := by omega
    rw [hi1, hi2]
    refine wpAny_bind (he i xs[i] ys[i] (List.getElem?_eq_getElem hlt) (List.getElem?_eq_getElem hlt2) _ _ ?_)
    wp_walk
    rw [hc]
    exact ⟨plainId_quiet MeetsSeq3.plain_eq_loop _, codeAny_builtin MeetsSeq3.entry_eq_loop (by
      rw [Around.under_plainId MeetsSeq3.plain_eq_loop _]
      exact ih (i + 1) R (by omega) hR)⟩
open Builtin in
theorem eqW_lists {l b : Addr} {xs ys : List Value} {n n2 : Nat} (hl : s.heap.get? l = some (listOf xs.toArray n)) (hb : s.heap.get? b = some (listOf ys.toArray n2)) (hlen : xs.length = ys.length)
    (he : ∀ (j : Nat) (x y : Value), xs[j]? = some x → ys[j]? = some y → EqW prog w A.in1 s x y) (hu : A.units < cLine) : RcW prog w A .Eq s (.ref l) (.ref b) true := fun E Q hq => by
  refine wpAny_richCompare_same_room (op := .Eq) ⟨_, hl, rfl⟩ ⟨_, hb, rfl⟩ PySem.F.slot_list_eq (wpAny_call (codeAny_call_builtin PySem.F.slot_list_eq.plain PySem.F.entry_list_eq (PySem.F.slot_list_eq.check _ _ _ _ _ _ _ _ ⟨_, hl, rfl⟩ (PySem.F.args_list_eq_2 _ _) ?_))) hu
  have hlp := eqW_loop (A := A) hl hb hlen he _ 0 (fun r s' => match r with | .ok (.ret v) => v ≠ .notImplemented ∧ Q v s' | .ok _ => False | .error e => E e s') rfl ⟨(fun x => nomatch x), hq⟩
  obtain ⟨hp, g, d, tk, os⟩ := s
  have f3 := AutoSeq1.sub_list_list
  have hne : ¬ (xs.toArray.size != ys.toArray.size) = true := by simp [hlen]
  wp_walk using AutoSeq1.wpAny_loadPart' hl, AutoSeq1.wpAny_loadPart' hb
  exact ⟨plainId_quiet MeetsSeq3.plain_eq_loop _, codeAny_builtin MeetsSeq3.entry_eq_loop (by
    rw [Around.under_plainId MeetsSeq3.plain_eq_loop _]
    exact hlp)⟩
theorem eqW_dicts {K : Type} [DecidableEq K] {knd : KeyKind prog w K} {a b : Addr} {ka kb : List (K × Value)} (ha : (a == sysModules) = false) (hb : (b == sysModules) = false)
    (da : s.heap.DictOf knd a ka) (db : s.heap.DictOf knd b kb) (hu : A.units < cLine) (hlen : ka.length = kb.length) (hits : KeqHits A.in1 s kb ka true) : RcW prog w A .Eq s (.ref a) (.ref b) true := fun E Q hq =>
  keq_eq ha hb da db hu (fun _ => hits) (by rw [hlen, beq_self_eq_true, Bool.true_and]; exact hq)
end
end Mine

namespace Mine
open PySem PySem.W PySem.Spec PySem.Calls PyProof.Rows
/-- an empty dict, above the frame -/
theorem m_DictL {M : Model} {A : Around} {E : Value → Shared → Prop} {g h : Heap} {L : Addr} {lo : List (Str × Value)} {own : List (Addr × Obj)} {G : Array GenState} {D : Drawn} {tk : Nat} {O : OsState} {env : Env} {pos : Pos} {Q : Value → Shared → Prop} (S : St g L h lo own) (q : ∀ d h', L < d → St g L h' lo ((d, { cls := .type "dict", data := .dict #[] }) :: own) → Q (.ref d) ⟨h', G, D, tk, O⟩) :
    wpAny M A (eval (.Dict [] [] pos) env) Q E ⟨h, G, D, tk, O⟩ := wpAny_Dict_empty (q _ _ S.ltL (S.push rfl))
theorem nz_of {d : Addr} (h : 1 < d) : (d == sysModules) = false := by
  show (d == (1 : Nat)) = false
  simp only [beq_eq_false_iff_ne, ne_eq]
  intro e
  have h2 : (1 : Nat) < d := h
  rw [e] at h2
  exact absurd h2 (by decide)
end Mine

namespace Mine
open PySem PySem.W PySem.Spec PySem.Calls PyProof.Rows
section
variable {prog : Program} {w : World} {A : Around} {E : Value → Shared → Prop} {x y : Str} {t u : Tok} {s : Shared}
theorem m_nes {Q : Value → Shared → Prop} (q : Q (.bool (x != y)) s) : wpAny (model prog w) A (compareOp .NotEq (.str x t) (.str y u)) Q E s := PyProof.Rows.ne_str q
end
theorem m_litT {b : Bool} {P Q : Prop} (hb : b = true) (h : P) : if b = true then P else Q := by rw [if_pos hb]; exact h
theorem m_litF {b : Bool} {P Q : Prop} (hb : b = false) (h : Q) : if b = true then P else Q := by rw [if_neg (by rw [hb]; decide)]; exact h
end Mine

namespace Mine
open PySem PySem.W PySem.Spec PySem.Calls PyProof.Rows PyProof
abbrev viewOf (d : Addr) : Obj := { cls := .type "dict_items", data := .fields #[.ref d] }
/-- the pairs of a dict as a list of tuples -/
def Items (kvs : List (Str × Value)) (vs : List Value) (tups : List (Addr × Obj)) : Prop :=
  vs.length = kvs.length ∧ ∀ (j : Nat) (k : Str) (x : Value), kvs[j]? = some (k, x) → ∃ a t, vs[j]? = some (.ref a) ∧ (a, tupOf [.str k t, x]) ∈ tups
section
variable {prog : Program} {w : World} {A : Around} {E : Value → Shared → Prop} {g h : Heap} {L d v : Addr} {lo : List (Str × Value)} {own : List (Addr × Obj)} {G : Array GenState} {D : Drawn} {tk : Nat} {O : OsState} {od : Obj} {kvs : List (Str × Value)}
theorem m_getItems {pl : Sem Bool} {Q : Value × List Value → Shared → Prop} (S : St g L h lo own) (hm : (d, od) ∈ own) (hd : od.IsDictOf (strKind prog w) kvs) (q : Q (.builtin "dict.items", [.ref d]) ⟨h, G, D, tk, O⟩) :
    wpAny (model prog w) A (getMethod (.ref d) "items" pl) Q E ⟨h, G, D, tk, O⟩ := kdl_method (s := ⟨h, G, D, tk, O⟩) (knd := strKind prog w) PySem.F.slot_dict_items PySem.F.type_dict_items S.nw hm hd q
theorem m_items {Q : Value → Shared → Prop} (S : St g L h lo own) (hm : (d, od) ∈ own) (hd : od.IsDictOf (strKind prog w) kvs) (hs : (d == sysModules) = false)
    (q : ∀ v h', St g L h' lo ((v, viewOf d) :: own) → Q (.ref v) ⟨h', G, D, tk, O⟩) : wpAny (model prog w) A (call (.builtin "dict.items") [.ref d]) Q E ⟨h, G, D, tk, O⟩ := by
  obtain ⟨m, F, hl⟩ := S.fr
  refine kdx_view (s := ⟨h, G, D, tk, O⟩) (knd := strKind prog w) F S.nw hm hd hs fun D' h' F' N' hlt => q _ h' ⟨⟨m, F', hl⟩, N', ?_⟩
  rw [List.map_cons, List.nodup_cons]
  refine ⟨fun hm => ?_, S.nd⟩
  obtain ⟨p, hp, e⟩ := List.mem_map.mp hm
  have := hlt p hp
  rw [e] at this
  exact absurd this (Nat.lt_irrefl _)
theorem m_listItems {Q : Value → Shared → Prop} (S : St g L h lo own) (hh : A.handled = none) (hv : (v, viewOf d) ∈ own) (hm : (d, od) ∈ own) (hd : od.IsDictOf (strKind prog w) kvs) (hn : kvs.length ≤ 1000)
    (q : ∀ r h' tk' vs tups n, Items kvs vs tups → St g L h' lo ((r, listOf vs.toArray n) :: (tups ++ own)) → Q (.ref r) ⟨h', G, D, tk', O⟩) : wpAny (model prog w) A (call (.type "list") [.ref v]) Q E ⟨h, G, D, tk, O⟩ := by
  obtain ⟨ep, hat⟩ := KdkAt.of hd
  refine kdx_call (s := ⟨h, G, D, tk, O⟩) (knd := strKind prog w) (kvs := kvs) (ep := ep) hh ⟨_, S.at hv, rfl, rfl⟩ (hat.dictAt (S.at hm)) (tot_ok hn) fun h' tk' acc c as hk hS hl hG hacc => ?_
  have ea : acc = (as.map Value.ref).toArray := by rw [← hacc, Array.toArray_toList]
  refine q _ h' tk' (as.map Value.ref) (as.map fun a => (a, (h'.get? a).getD default)) c ⟨by rw [List.length_map, hl], fun j k x hx => ?_⟩ ?_
  · have hj : j < as.length := by rw [hl]; exact (List.getElem?_eq_some_iff.mp hx).1
    obtain ⟨key, k', x', e1, e2, e3⟩ := hG.pairs j as[j] (List.getElem?_eq_getElem hj)
    rw [hx] at e1
    cases e1
    obtain ⟨t, rfl⟩ := Value.isStrOf_shape e2
    refine ⟨as[j], t, by rw [List.getElem?_map, List.getElem?_eq_getElem hj]; rfl, ?_⟩
    refine List.mem_map.mpr ⟨as[j], List.getElem_mem hj, ?_⟩
    rw [e3]
    rfl
  · have S' := S.afterNew (own1 := own) (ks := []) (new := (h.objs.size, listOf (as.map Value.ref).toArray c) :: (as.map fun a => (a, (h'.get? a).getD default))) (fun b o e _ => hk b o e) (fun b hb => nomatch hb) (fun p hp => hk _ _ (S.nw p hp).1) rfl ?_ ?_
    · exact S'
    · intro p hp
      rcases List.mem_cons.mp hp with rfl | hp
      · exact ⟨by rw [← ea]; exact hS, Heap.get?_none_of_le (Nat.le_refl _)⟩
      · obtain ⟨a, ha, rfl⟩ := List.mem_map.mp hp
        obtain ⟨j, hj⟩ := List.mem_iff_getElem?.mp ha
        obtain ⟨_, _, _, _, _, e⟩ := hG.pairs j a hj
        exact ⟨by rw [e]; rfl, Heap.get?_none_of_le (Nat.le_of_lt (hG.above a ha))⟩
    · have e : keys (as.map fun a => (a, (h'.get? a).getD default)) = as := by
        show List.map _ (List.map _ as) = as
        rw [List.map_map]
        exact List.map_id as
      show (h.objs.size :: keys (as.map fun a => (a, (h'.get? a).getD default))).Nodup
      rw [e, List.nodup_cons]
      exact ⟨fun hm => absurd (hG.above _ hm) (Nat.lt_irrefl _), hG.rise.imp fun hab => Nat.ne_of_lt hab⟩
end
end Mine

namespace Mine
open PySem PySem.W PySem.Spec PySem.Calls PyProof.Rows PyProof
section
variable {M : Model} {A : Around} {s : Shared} {bF h0 : Heap} {outer : List Env} {L a e : Addr} {lo : List (Str × Value)} {own own0 : List (Addr × Obj)} {cn : Str} {cs : Scope} {ccd : Value} {cl : List (Str × Addr)} {a0 : Value}
/-- an exception just made is noted by a block of the frame at hand -/
theorem flown_born {X : Value → Shared → Prop} {oe : Obj} {vs : Array Value} (K : Below A bF outer (gOf h0 own0)) (S : St (gOf h0 own0) L s.heap lo ((e, oe) :: own)) (hd : oe.data = .fields vs) (h0' : vs[0]? = some a0) (h1 : vs[1]? = some .none) (hk : cs.kind = .function)
    (q : ∀ h', Flown s.heap (keys ((e, oe) :: own)) (envX cn cs L a ccd cl :: outer) e oe.cls oe.dict a0 (rawInt L) own h' → X (.ref e) { s with heap := h' }) :
    notedBy M (A.deeper (envX cn cs L a ccd cl)) (envX cn cs L a ccd cl) X (.ref e) s := by
  have K' := below_call (own0 := []) (cn := cn) (a := a) (ccd := ccd) (cl := cl) K S (fun _ h => nomatch h) hk
  have he := S.at (.head _)
  have hno := frames_no (cn := cn) (cs := cs) (a := a) (ccd := ccd) (cl := cl) K S
  obtain ⟨m, F, _⟩ := S.fr
  have hgf : ∀ b ∈ frs outer, ∃ o, (gOf h0 own0).get? b = some o ∧ ∀ vs, o.data ≠ .fields vs := fun b hb => frs_g K hb
  unfold notedBy noteFrame
  simp only [show (envX cn cs L a ccd cl).frame = some L from rfl]
  refine wpAny_bind (wpAny_field he hd h1 ?_)
  rw [if_neg (by decide)]
  refine fly_entry (base := hideAll s.heap (e :: frs (envX cn cs L a ccd cl :: outer))) (Around.frames_deeper K.stack) ?_ rfl he (fun b o q => of_hideAll _ q) (hideAll_none _ (.head _)) hd (Array.getElem?_eq_some_iff.mp h1).1 h0' fun h' x y => q h' ⟨⟨_, x, ?_, ?_⟩, ?_, fun p hp => .inr (List.mem_map_of_mem (f := (·.1)) (.tail _ hp)), (S.pick (.cons _ (List.Sublist.refl _))).nd⟩
  · refine funFrames_hide (base := bF) (h := s.heap) ?_ fun env hm b hb => .tail _ (List.mem_filterMap.mpr ⟨env, hm, hb⟩)
    exact K'.frames.of_keeps fun b o q _ => ⟨o, gOf_get q, rfl⟩
  · intro p hp
    have z := S.nw p (.tail _ hp)
    refine hideAll_get _ z.1 fun hm => ?_
    rcases List.mem_cons.mp hm with e1 | hm
    · exact S.apart (b := p.1) (o' := p.2) hp e1.symm
    · rcases List.mem_cons.mp hm with e1 | hm
      · exact z.2.1 e1
      · obtain ⟨o, ho, _⟩ := hgf _ hm
        rw [z.2.2] at ho; cases ho
  · intro b o hb hn hf
    refine hideAll_get _ hb fun hm => ?_
    rcases List.mem_cons.mp hm with e1 | hm
    · exact hn (by rw [e1]; exact .head _)
    · exact hf hm
  · intro b hb o ho
    obtain ⟨o', h3, hn⟩ := hno b hb
    rw [ho] at h3; cases h3
    exact y b o ho hn
end
end Mine

namespace Mine
open PySem PySem.W PySem.Spec PySem.Calls PyProof.Rows PyProof
section
variable {prog : Program} {w : World} {A : Around} {E : Value → Shared → Prop} {g h : Heap} {L l : Addr} {lo : List (Str × Value)} {own : List (Addr × Obj)} {G : Array GenState} {D : Drawn} {tk : Nat} {O : OsState} {vs : List Value} {m : Nat} {t u : Tok} {n : Int}
theorem m_mulList3 {Q : Value → Shared → Prop} {v : Value} (S : St g L h lo own) (hl : (l, listOf ([v] : List Value).toArray m) ∈ own)
    (q : ∀ r h', St g L h' lo ((r, listOf ([v, v, v] : List Value).toArray 0) :: own) → Q (.ref r) ⟨h', G, D, tk, O⟩) : wpAny (model prog w) A (binaryOp .Mult (.ref l) (.int 3 u)) Q E ⟨h, G, D, tk, O⟩ := by
  obtain ⟨k, F, hlo⟩ := S.fr
  refine KMa.mul (ws := [v, v, v]) (s := ⟨h, G, D, tk, O⟩) F S.nw (S.isList hl) (by decide) (by decide) (by show 1 * 3 ≤ 256; decide) rfl fun r h' F' N' hlt => q r h' ⟨⟨k, F', hlo⟩, N', ?_⟩
  rw [List.map_cons, List.nodup_cons]
  refine ⟨fun hm => ?_, S.nd⟩
  obtain ⟨p, hp, e⟩ := List.mem_map.mp hm
  have := hlt p hp
  rw [e] at this
  exact absurd this (Nat.lt_irrefl _)
def lineText (n : Int) : Str := Str.ofString " (file, line " ++ Str.ofString (toString n) ++ Str.ofString ")"
theorem m_modLine {Q : Value → Shared → Prop} (h0 : 0 ≤ n) (h1 : n < 10 ^ 10) (q : ∀ t' tk', Q (.str (lineText n) t') ⟨h, G, D, tk', O⟩) :
    wpAny (model prog w) A (binaryOp .Mod (.str (Str.ofString " (file, line %s)") t) (.int n u)) Q E ⟨h, G, D, tk, O⟩ := by
  refine' KPc.mod_int (T := fun n => Str.ofString " (file, line " ++ Str.ofString (toString n) ++ Str.ofString ")") ?kpcF ?kpcl ?kpch ?kpcm ?_
  case kpcF => kpc_eq
  case kpcl => exact h0
  case kpch => exact h1
  case kpcm => k_dflt kpc_run
  exact fun t' k => q t' k
end
end Mine

namespace Mine
open PySem PySem.W PySem.Spec PySem.Calls PyProof.Rows PyProof
/-- `e.args` of an exception of the script's own class -/
theorem m_excArgs {prog : Program} {w : World} {A : Around} {E : Value → Shared → Prop} {g h : Heap} {L C N e t0 : Addr} {lo : List (Str × Value)} {own : List (Addr × Obj)} {G : Array GenState} {D : Drawn} {tk : Nat} {O : OsState} {K : Frag} {expr : Bool} {Q : Value → Shared → Prop} {oe : Obj} {vs : Array Value} (S : St g L h lo own) (X : K.In g) (XC : ExcK K C N) (hx : (e, oe) ∈ own) (hoc : oe.cls = .ref C) (hof : oe.data = .fields vs) (h0 : vs[0]? = some (.ref t0))
    (hg : nsIn K N "__getattribute__" = some none) (hg2 : nsIn K N "__getattr__" = some none) (hna : nsIn K N "args" = some none)
    (q : ∀ tk', Q (.ref t0) ⟨h, G, D, tk', O⟩) : wpAny (model prog w) A (getAttr (.ref e) "args" expr) Q E ⟨h, G, D, tk, O⟩ := by
  obtain ⟨mm, F, hlo⟩ := S.fr
  have Xh := X.keeps F.keep
  obtain ⟨nm, qn, bs, sn, sub, ab, col, dd, k0, k1, k2, k3, k5, hC'⟩ := XC.obj
  have hC := Xh _ _ hC'
  have hn := Heap.Ns.of_isNs (isNs_of_in Xh XC.ok)
  have FB := PySem.F.attrBase_Exception
  have ho := S.at hx
  have hng := nsMap_none_of_in Xh XC.ok hg
  have hng2 := nsMap_none_of_in Xh XC.ok hg2
  have hnn := nsMap_none_of_in Xh XC.ok hna
  have f3 := FB.ga.bind (.ref e)
  have f5 := PySem.F.typeOf_bexc_args
  have f6 := PySem.F.slot_gs_get.lookup
  have f7 := PySem.F.slot_gs_set.lookup
  have hx0 : (expr && onTheHeap (Value.builtin "BaseException.__getattribute__")) = false := by cases expr <;> rfl
  have hx2 : (Value.builtin "BaseException.__getattribute__" == Value.builtin "object.__getattribute__") = false := by decide +kernel
  have hx1 : (onTheHeap (Value.ref C) && Value.builtin "BaseException.__getattribute__" == Value.builtin "object.__getattribute__") = false := by rw [hx2]; rfl
  have hcB : (Value.ref C :: excBm).contains (.type "BaseException") = true := by rw [List.contains_cons, FB.hasBase, Bool.or_true]
  unfold getAttr getAttrBy
  repeat (any_goals (first | assumption | (with_reducible refine wpAny_loadPart_at ho ?_; rw [hoc]) | (with_reducible refine wpAny_typeLookup_exc hC hn FB.mro FB.ga.lookup ?_; rw [hng]) | (with_reducible refine wpAny_typeLookup_exc hC hn FB.mro FB.noGetattr ?_; rw [hng2]) | wp_step))
  refine codeAny_call_builtin FB.ga.plain PySem.F.entry_bexc_ga (wpAny_check_ga_own FB hC .base ho hoc ?_)
  have hT5 : ∀ s : Shared, s.TypeIs (.builtin "BaseException.args") "getset_descriptor" := fun s => PySem.F.typeOf_bexc_args
  repeat (any_goals (first | assumption | (with_reducible refine wpAny_loadPart_at ho ?_; rw [hoc]) | (with_reducible refine wpAny_typeLookup_exc hC hn FB.mro FB.lkArgs ?_; rw [hnn]) | wp_step))
  refine args_get_own FB hC .base ho hoc hof h0 ?_
  repeat (any_goals (first | assumption | wp_step))
  exact q _
end Mine

namespace Mine
open PySem PySem.W PySem.Spec PySem.Calls PyProof.Rows PyProof
theorem St.sameBut {g h h' : Heap} {L C : Addr} {lo : List (Str × Value)} {own : List (Addr × Obj)} (S : St g L h lo own) (hs : Heap.SameBut C h h') (hLC : L ≠ C) (ho : ∀ p ∈ own, p.1 ≠ C) (hg : g.objs.size ≤ C) : St g L h' lo own := by
  obtain ⟨m, F, hlo⟩ := S.fr
  refine ⟨⟨m, ⟨?_, fun b o e => ?_, F.above⟩, hlo⟩, fun p hp => ⟨(hs.2 _ (ho p hp)).trans (S.nw p hp).1, (S.nw p hp).2⟩, S.nd⟩
  · obtain ⟨o, es, ep, e, r⟩ := F.ns
    exact ⟨o, es, ep, (hs.2 _ hLC).trans e, r⟩
  · exact (hs.2 b (Nat.ne_of_lt (Nat.lt_of_lt_of_le (Heap.lt_size e) hg))).trans (F.keep b o e)
/-- out of the comprehension's frame -/
theorem St.out {g h h2 : Heap} {L C D : Addr} {lo lo2 : List (Str × Value)} {own own2 : List (Addr × Obj)} {oD oL : Obj} (S : St g L h lo own) (hL : h.get? L = some oL) (S2 : St g C h2 lo2 ((D, oD) :: (L, oL) :: own2)) : St g L h2 lo ((D, oD) :: own2) := by
  obtain ⟨m, F, hlo⟩ := S.fr
  obtain ⟨m2, F2, _⟩ := S2.fr
  have nd := S2.nd
  simp only [List.map_cons, List.nodup_cons, List.mem_cons, not_or] at nd
  refine ⟨⟨m, ⟨?_, F2.keep, F.above⟩, hlo⟩, fun p hp => ?_, ?_⟩
  · obtain ⟨o, es, ep, e, r⟩ := F.ns
    rw [hL] at e; cases e
    exact ⟨oL, es, ep, S2.at (.tail _ (.head _)), r⟩
  · rcases List.mem_cons.mp hp with rfl | hp
    · exact ⟨S2.at (.head _), nd.1.1, (S2.nw _ (.head _)).2.2⟩
    · exact ⟨S2.at (.tail _ (.tail _ hp)), fun z => nd.2.1 (z ▸ List.mem_map_of_mem (f := (·.1)) hp), (S2.nw _ (.tail _ (.tail _ hp))).2.2⟩
  · rw [List.map_cons, List.nodup_cons]
    exact ⟨nd.1.2, nd.2.2⟩
/-- a comprehension that is bound at once to a name -/
theorem m_AssignComp {M : Model} {A : Around} {E : Value → Shared → Prop} {s : Shared} {env : Env} {elt target iter : Expr} {ifs : List Expr} {scope : Scope} {y : Str} {py pos spos : Pos} {cl : List (Str × Addr)} {Q : Flow → Shared → Prop}
    (hsw : swapsWith (.ListComp elt [⟨target, iter, ifs, 0⟩] scope pos) (some (.Name y py)) spos.line env = pure true)
    (hclos : closureFor scope env = pure cl) (hkind : scope.kind = .function) (hnames : ∀ x ∈ scope.names, x.2 = .local → scope.names.lookup x.1 = some .local) (hs : ∀ x, foldedSetIterable iter env x = pure x)
    (q : wpAny M A (eval iter env) (fun x s₁ => wpAny M A (pyIter x) (fun it s₂ => wpAny M A (newList []) (fun acc s₃ => wpAny M A (newFunctionEnv scope env.globals cl [] env.qual none .none (some env)) (fun cenv s₄ =>
        codeAny M A (.compStart (.ListComp elt [⟨target, iter, ifs, 0⟩] scope pos) 0 it acc { cenv with scope := relabel scope env }) (compPost M A E (some (assign (.Name y py) env)) (fun _ s' => Q .next s') acc cenv.locals) s₄) E s₃) E s₂) E s₁) E s) :
    wpAny M A (exec (.Assign [.Name y py] (.ListComp elt [⟨target, iter, ifs, 0⟩] scope pos) spos) env) Q E s := by
  rw [exec_Assign_Name_used _ _ _ _ hsw]
  refine wpAny_bind (wpAny_standAt (wpAny_bind ?_))
  show wpAny _ A (do let _ ← comprehension (.ListComp elt [⟨target, iter, ifs, 0⟩] scope pos) scope env _ (newList []) false (eval iter env) (some (assign (.Name y py) env))) _ _ s
  exact wpAny_bind (wpAny_mono (wpAny_comprehension_free (use := some (assign (.Name y py) env)) (Q := fun _ s' => Q .next s') rfl hs hclos hkind hnames q) (fun _ s' hq => wpAny_pure (wpAny_pure hq)) fun _ _ e => e)
theorem m_compEndU {M : Model} {A : Around} {E : Value → Shared → Prop} {g h h2 : Heap} {L C D a : Addr} {lo lo2 : List (Str × Value)} {own own2 : List (Addr × Obj)} {oD oL : Obj} {G : Array GenState} {Dr : Drawn} {tk : Nat} {O : OsState} {cn : Str} {cs : Scope} {ccd : Value} {cl : List (Str × Addr)} {y : Str} {py : Pos} {f : Flow} {Q : Value → Shared → Prop}
    (S : St g L h lo own) (hL : h.get? L = some oL) (S2 : St g C h2 lo2 ((D, oD) :: (L, oL) :: own2)) (hx : (envX cn cs L a ccd cl).kindOf y = some .local) (hk : cs.kind = .function)
    (q : ∀ h3 tk', St g L h3 ((y, .ref D) :: lo) ((D, oD) :: own2) → Q .none ⟨h3, G, Dr, tk', O⟩) : compPost M A E (some (assign (.Name y py) (envX cn cs L a ccd cl))) Q (.ref D) C (.ok f) ⟨h2, G, Dr, tk, O⟩ := by
  have S3 := S.out hL S2
  obtain ⟨m2, F2, _⟩ := S2.fr
  have hLC : L ≠ C := (S2.nw _ (.tail _ (.head _))).2.1
  obtain ⟨m, F, hlo⟩ := S3.fr
  show wpAny M A (assign (.Name y py) (envX cn cs L a ccd cl) (.ref D)) _ _ _
  refine wpAny_assign_Name (wpAny_storeName_local hx F.ns (fun h' hn hs => ?_) (by show (cs.kind == .class || (cs.kind == .module && L != mainGlobals)) = false; rw [hk]; rfl))
  refine ⟨m2, F2.ns.sameBut hs (Ne.symm hLC), fun h4 hs4 => q h4 _ ?_⟩
  refine (S3.set hlo hn hs).sameBut hs4 hLC (fun p hp => ?_) F2.above
  rcases List.mem_cons.mp hp with rfl | hp
  · exact (S2.nw _ (.head _)).2.1
  · exact (S2.nw p (.tail _ (.tail _ hp))).2.1
end Mine

namespace Mine
open PySem PySem.W PySem.Spec PySem.Calls PyProof.Rows PyProof
theorem lt_turn {n a i : Nat} (hn : n = a - i) (h : i < a) : a - (i + 1) < n := by omega
theorem mid_le {a b p : Nat} (h : a + b + a = p) (hp : p ≤ 12) : b ≤ 12 := by omega
theorem le_s20 {k i n m : Nat} (h1 : k ≤ i) (h2 : i < n) (h3 : n ≤ m) : k ≤ m := by omega
theorem le_s21 {k i n m : Nat} (h1 : k ≤ i + 1) (h2 : i < n) (h3 : n ≤ m) : k ≤ m := by omega
theorem left_pos {a i : Nat} (h : i < a) : (0 : Int) < ((a - i : Nat) : Int) := by omega
theorem lt_t1 {n a k : Nat} (hn : n = a - k + 1) (h : k < a) : a - (k + 1) + 1 < n := by omega
theorem lt_t2 {n a k : Nat} (hn : n = a - k + 1) (h : k + 1 < a) : a - (k + 1 + 1) + 1 < n := by omega
theorem lt_t0 {n a k : Nat} (hn : n = a - k + 1) : 0 < n := by omega
theorem le_k1 {a k : Nat} (h : a ≤ k) : a ≤ k + 1 := Nat.le_succ_of_le h
theorem le_k2 {a k : Nat} (h : a ≤ k) : a ≤ k + 1 + 1 := Nat.le_succ_of_le (Nat.le_succ_of_le h)
theorem tok_l1 {x y : Str} {k : Nat} (h : x.length ≤ 8 * k) (h1 : y.length ≤ 8) : (x ++ y).length ≤ 8 * (k + 1) := by rw [Str.length_append]; omega
theorem tok_l2 {x y : Str} {k : Nat} (h : x.length ≤ 8 * k) (h1 : y.length ≤ 8) : (x ++ y).length ≤ 8 * (k + 1 + 1) := by rw [Str.length_append]; omega
theorem left_pred {a i : Nat} (h : i < a) : ((a - i : Nat) : Int) - 1 = ((a - (i + 1) : Nat) : Int) := by omega
theorem nat_succ (i : Nat) : ((i : Nat) : Int) + 1 = ((i + 1 : Nat) : Int) := by omega
theorem take_168 {l : List Nat} {n i : Nat} (h : l.length = n) (hn : n ≤ 14) : 12 * (l.take i).length ≤ 168 := by rw [List.length_take]; omega
theorem le_big {k j n : Nat} (h1 : k ≤ j) (h2 : j < n + 3) (h3 : n ≤ 14) : k ≤ 1000 := by omega
theorem lt_turn2 {n a j : Nat} (hn : n = a - j) (h : j < a) : a - (j + 1 + 1) < n := by omega
theorem le_j3 {k i n : Nat} (h1 : k ≤ i) (h2 : i < n + 3) (h3 : n ≤ 14) : k ≤ 20 := by omega
theorem lt_turn3 {n a i i' : Nat} (hn : n = a - i) (h : i < i') (h2 : i' < a) : a - i' < n := by omega
theorem rng_if (n : Nat) : (if (0 : Int) < (n : Int) then (n : Int) - 0 else 0) = ((n : Nat) : Int) := by split <;> omega
theorem rng_small {n : Nat} (h : n ≤ 20) : Builtin.Range.small 0 (n : Int) 1 = true := small_one (by omega) (by omega) (by omega) (by omega)
theorem nz_of_lt {a b : Nat} (h : a < b) : b ≠ 0 := by omega
theorem nz_of_le {a b c : Nat} (h : a < b) (h2 : b ≤ c) : c ≠ 0 := by omega
theorem nat_nonneg (n : Nat) : (0 : Int) ≤ (n : Int) := by omega
theorem m_execs_one {M : Model} {A : Around} {E : Value → Shared → Prop} {s : Shared} {env : Env} {st : Stmt} {Q : Flow → Shared → Prop} (h : wpAny M A (exec st env) Q E s) : wpAny M A (execs [st] env) Q E s :=
  wpAny_execs_cons (wpAny_mono h (fun f s' hq => match f, hq with
    | .next, hq => wpAny_execs_nil hq
    | .cont, hq => hq
    | .brk, hq => hq
    | .ret _, hq => hq) fun _ _ x => x)
theorem m_cut2 {M : Model} {A : Around} {E : Value → Shared → Prop} {s : Shared} {t : Sem Flow} {Q : Flow → Shared → Prop} (P : Flow → Shared → Prop) (h : ∀ Q' : Flow → Shared → Prop, (∀ f s', P f s' → Q' f s') → wpAny M A t Q' E s) (k : ∀ f s', P f s' → Q f s') : wpAny M A t Q E s := wpAny_mono (h P fun _ _ x => x) k fun _ _ x => x
section
variable {prog : Program} {w : World} {A : Around} {s : Shared} {env : Env}
/-- a for loop; the posts stand for themselves in its turn -/
theorem m_forJ {target : Expr} {it : Value} {body orelse : List Stmt} {Q : Flow → Shared → Prop} {Er : Value → Shared → Prop} (I : Nat → Shared → Prop)
    (turn : ∀ n s, I n s → ∀ (J : Shared → Prop) (Q' : Flow → Shared → Prop) (E : Value → Shared → Prop), (∀ m s', m < n → I m s' → J s') → (∀ f s', Q f s' → Q' f s') → (∀ x s', notedBy (model prog w) A env Er x s' → E x s') →
      wpAny (model prog w) A (pyNext it) (fun r s₁ => match r with
      | none => wpAny (model prog w) A (execs orelse env) Q' E s₁
      | some v => wpAny (model prog w) A (assign target env v) (fun _ s₂ => wpAny (model prog w) A (execs body env) (fun f s₃ => match f with
          | .next | .cont => J s₃
          | .brk => Q' .next s₃
          | .ret v => Q' (.ret v) s₃) E s₂) E s₁) E s)
    (n : Nat) (h : I n s) (ht : ∀ v, letOwnedTupleGo target it v = pure ()) : codeAny (model prog w) A (.forLoop target it body orelse env) (fun r s' => match r with | .ok f => Q f s' | .error e => Er e s') s :=
  codeAny_forLoop I (fun n s hI => turn n s hI _ _ _ (fun m s' hm hI => ⟨m, hm, hI⟩) (fun f s' h => h) (fun x s' h => h)) n h ht
theorem m_whileJ {test : Expr} {body orelse : List Stmt} {Q : Flow → Shared → Prop} {Er : Value → Shared → Prop} (I : Nat → Shared → Prop)
    (turn : ∀ n s, I n s → ∀ (J : Shared → Prop) (Q' : Flow → Shared → Prop) (E : Value → Shared → Prop), (∀ m s', m < n → I m s' → J s') → (∀ f s', Q f s' → Q' f s') → (∀ x s', notedBy (model prog w) A env Er x s' → E x s') →
      wpAny (model prog w) A (isTrue test env (eval test env)) (fun b s₂ =>
        if b then wpAny (model prog w) A (execs body env) (fun f s₃ => match f with
            | .next | .cont => J s₃
            | .brk => Q' .next s₃
            | .ret v => Q' (.ret v) s₃) E s₂
        else wpAny (model prog w) A (execs orelse env) Q' E s₂) E s)
    (n : Nat) (h : I n s) : codeAny (model prog w) A (.whileLoop test body orelse env) (fun r s' => match r with | .ok f => Q f s' | .error e => Er e s') s :=
  codeAny_whileLoop I (fun n s hI => turn n s hI _ _ _ (fun m s' hm hI => ⟨m, hm, hI⟩) (fun f s' h => h) (fun x s' h => h)) n h
/-- a comprehension's loop; the posts stand for themselves in its turn -/
theorem m_compJ {elt target iter : Expr} {ifs : List Expr} {scope : Scope} {pos : Pos} {it acc : Value} {R : Result → Shared → Prop} (I : Nat → Shared → Prop)
    (turn : ∀ n s, I n s → ∀ (J N : Shared → Prop) (E : Value → Shared → Prop), (∀ m s', m < n → I m s' → J s') → (∀ s', R (.ok .next) s' → N s') →
      wpAny (model prog w) A (pyNext it) (fun r s₁ => match r with
      | none => N s₁
      | some v => wpAny (model prog w) A (assign target env v) (fun _ s₂ =>
          wpAny (model prog w) A (forIn ifs true fun c r => if r = true then do let ok ← isTrue c env (eval c env); pure (ForInStep.yield ok) else pure (ForInStep.yield r)) (fun ok s₃ =>
            if ok = true then wpAny (model prog w) A (eval elt env) (fun x s₄ =>
              wpAny (model prog w) A (call (.builtin "list.append") [acc, x]) (fun _ s₅ => J s₅) E s₄) E s₃
            else J s₃) E s₂) E s₁) E s)
    (n : Nat) (h : I n s) (ht : ∀ v, letOwnedTupleGo target it v = pure ()) :
    codeAny (model prog w) A (.compLoop (.ListComp elt [⟨target, iter, ifs, 0⟩] scope pos) 0 it acc env) R s :=
  codeAny_compLoop_tests I (fun n s hI => turn n s hI _ _ _ (fun m s' hm hI => ⟨m, hm, hI⟩) (fun s' h => h)) n h ht
end
end Mine

namespace Mine
open PySem PySem.W PySem.Spec PySem.Calls PyProof.Rows

theorem nsOk38 (P : Params) : nsOkIn (hd2.heap_39 P) 38 = true := by
  unfold nsOkIn
  have e : (hd2.heap_39 P).lookup 38 = some _ := rfl
  rw [e]
  dsimp only
  rw [← Array.all_toList]
  rfl
theorem excK1 (P : Params) : ExcK (hd2.heap_39 P) 39 38 := ⟨⟨_, _, _, _, _, _, _, _, _, _, _, _, _, rfl⟩, nsOk38 P⟩

def netMap (msg fn ln : Value) : Str → Option Value := fun y => if y = "msg" then some msg else if y = "lineno" then some ln else if y = "filename" then some fn else none

theorem net_init {w : World} {b0 : Heap} {p : Program} {loose : List Str} {mg mb : Str → Option Value} {mean : ExcName → Option Value} (X0 : (hd2.heap_39 w.params).In b0) (T0 : Top p loose mean mg mb b0) {A : Around} (hroom : A.depth < 500)
    {h : Heap} {G : Array GenState} {D : Drawn} {tk : Nat} {O : OsState} {e t : Addr} {msg : Str} {tm : Tok} {fn ln : Value} (he : h.get? e = some (excOf 39 none t)) (hb : b0.StaysIn (gOf h [(e, excOf 39 none t)])) {R : Result → Shared → Prop}
    (q : ∀ h' tk' d od t', DictMap od (netMap (.str msg tm) fn ln) → h'.get? e = some (excOf 39 (some d) t') → (∀ p ∈ [(d, od), (t', tupOf [.str msg tm])], h'.get? p.1 = some p.2 ∧ h.get? p.1 = none) → d ≠ t' →
      (∀ b o, h.get? b = some o → b ∉ [e] → h'.get? b = some o) → R (.ok (.ret .none)) ⟨h', G, D, tk', O⟩) :
    codeAny (model PySem.Challenge.rw_km0063_02.row.prog w) A (.call (.ref 29) ⟨[.ref e, .str msg tm, fn, ln], []⟩) R ⟨h, G, D, tk, O⟩ := by
  have hb' : b0.StaysIn h := fun b o e => gOf_get (hb b o e)
  have _kf : (hd2.heap_39 w.params).In b0 ∧ PySem.Challenge.rw_km0063_02 = PySem.Challenge.rw_km0063_02 := by (k_fill; exact ⟨X0, rfl⟩)
  clear _kf
  refine' m_enter (own := [(e, excOf 39 none t)]) X0 T0.nolimit hb' ?_ ?_ ?ho ?hcd ?hr ?hbind ?hloc ?hcell ?hco ?hgen ?hk ?_
  case ho => k_is
  case hcd => k_is
  case hr => have : (500:Nat) < recursionLimit := by decide
             omega
  case hbind => exact kp_binds (binds := [("self", .ref e), ("msg", .str msg tm), ("filename", fn), ("lineno", ln)]) (X0.keeps hb') (fun _ => rfl)
  case hloc => exact locs rfl
  case hcell => decide
  case hco => rfl
  case hgen => rfl
  case hk => rfl
  · intro p hp
    rcases List.mem_singleton.mp hp with rfl
    exact he
  · simp
  intro L h₁ tk₁ hL hk S
  have X := X0.keeps hb
  have T := topRead_of (T0.keeps hb)
  replace S := S.low (lo' := [("self", .ref e), ("msg", .str msg tm), ("filename", fn), ("lineno", ln)]) (lo_cons rfl (lo_cons rfl (lo_cons rfl (lo_cons rfl lo_nil))))
  have XC : ExcK (hd2.heap_39 w.params) 39 38 := excK1 _
  clear hL
  generalize hg : gOf h [(e, excOf 39 none t)] = g at S X T
  repeat (walk_at "m")
  refine' m_setExc0 (by assumption) X XC ?hsa ?hna ?hB ?_
  case hsa => k_is
  case hna => k_is
  case hB => rw [typeLookup_type, builtinLookup_eq_fast]; kernel_rfl
  clear S
  intro h tk d od hd S
  repeat (walk_at "m")
  refine' m_setExc1 (by assumption) X XC ?hsa ?hna ?hB hd (.cons _ _ .nil) (by size_fits) ?_
  case hsa => k_is
  case hna => k_is
  case hB => rw [typeLookup_type, builtinLookup_eq_fast]; kernel_rfl
  clear S
  intro h tk od hd S
  repeat (walk_at "m")
  refine' m_setExc1 (by assumption) X XC ?hsa ?hna ?hB hd (.cons _ _ (.cons _ _ .nil)) (by size_fits) ?_
  case hsa => k_is
  case hna => k_is
  case hB => rw [typeLookup_type, builtinLookup_eq_fast]; kernel_rfl
  clear S
  intro h tk od hd S
  repeat (walk_at "m")
  refine' m_blt (by assumption) ?hx ?hk ?hd ?hn X T ?e PyProof.Rows.Boot.«Exception» ?_
  case hx => with_unfolding_all rfl
  case hk => with_unfolding_all rfl
  case hd => decide +kernel
  case hn => decide +kernel
  case e => k_is
  refine' m_typeInit (by assumption) X ?ht ?hs ?e ?_
  case ht => rfl
  case hs => decide +kernel
  case e => k_is
  intro tk
  dsimp only
  refine' m_cw_method0 ?hs ?hp ?_
  case hs => with_unfolding_all rfl
  case hp => with_unfolding_all rfl
  repeat (walk_at "m")
  refine' m_excInit (by assumption) X XC (by size_fits) ?_
  clear S
  intro h t' S
  repeat (walk_at "m")
  subst hg
  refine q h _ d od t' hd (S.at (.head _)) (fun p hp => ?_) ?_ S.keptBut
  · rcases List.mem_cons.mp hp with rfl | hp
    · exact S.made (.tail _ (.tail _ (.head _))) (fun z => by rcases List.mem_singleton.mp z with z; exact S.apart (.tail _ (.head _)) z.symm)
    · rcases List.mem_singleton.mp hp with rfl
      exact S.made (.tail _ (.head _)) (fun z => by rcases List.mem_singleton.mp z with z; exact S.apart (.head _) z.symm)
  · have nd := S.nd
    simp only [List.map_cons, List.nodup_cons, List.mem_cons, not_or] at nd
    exact fun z => nd.2.1.1 z.symm
end Mine

namespace Mine
open PySem PySem.W PySem.Spec PySem.Calls PyProof.Rows

def netText (msg : Str) (ln : Int) : Str := msg ++ Str.ofString " (" ++ Str.ofString "file" ++ Str.ofString ", line " ++ Str.ofString (toString ln) ++ Str.ofString ")"
theorem net_str {w : World} {b0 : Heap} {p : Program} {loose : List Str} {mg mb : Str → Option Value} {mean : ExcName → Option Value} (X0 : (hd2.heap_39 w.params).In b0) (T0 : Top p loose mean mg mb b0) {A : Around} (hroom : A.depth < 500)
    {h : Heap} {G : Array GenState} {D : Drawn} {tk : Nat} {O : OsState} {e d : Addr} {oe od : Obj} {tm tf tl : Tok} {msg : Str} (hmsg : msg.length ≤ 60) {ln : Int} (hl0 : 0 ≤ ln) (hl1 : ln < 100) (hown : ∀ p ∈ [(e, oe), (d, od)], h.get? p.1 = some p.2) (hne : e ≠ d) (hoc : oe.cls = .ref 39) (hod : oe.dict = some d) (hof : ∃ fs, oe.data = .fields fs)
    (hdm : DictMap od (netMap (.str msg tm) (.str "file" tf) (.int ln tl))) (hb : b0.StaysIn (gOf h [(e, oe), (d, od)])) {R : Result → Shared → Prop}
    (q : ∀ h' tk' t, (∀ b o, h.get? b = some o → h'.get? b = some o) → R (.ok (.ret (.str (netText msg ln) t))) ⟨h', G, D, tk', O⟩) :
    codeAny (model PySem.Challenge.rw_km0063_02.row.prog w) A (.call (.ref 36) ⟨[.ref e], []⟩) R ⟨h, G, D, tk, O⟩ := by
  have hb' : b0.StaysIn h := fun b o e => gOf_get (hb b o e)
  have _kf : (hd2.heap_39 w.params).In b0 ∧ PySem.Challenge.rw_km0063_02 = PySem.Challenge.rw_km0063_02 := by (k_fill; exact ⟨X0, rfl⟩)
  clear _kf
  refine' m_enter (own := [(e, oe), (d, od)]) X0 T0.nolimit hb' hown ?_ ?ho ?hcd ?hr ?hbind ?hloc ?hcell ?hco ?hgen ?hk ?_
  case ho => k_is
  case hcd => k_is
  case hr => have : (500:Nat) < recursionLimit := by decide
             omega
  case hbind => exact BindsTo.of_eq rfl
  case hloc => exact locs rfl
  case hcell => decide
  case hco => rfl
  case hgen => rfl
  case hk => rfl
  · simp [hne]
  intro L h₁ tk₁ hL hk S
  have X := X0.keeps hb
  have T := topRead_of (T0.keeps hb)
  replace S := S.low (lo' := [("self", .ref e)]) (lo_cons rfl lo_nil)
  clear hL
  generalize hg : gOf h [(e, oe), (d, od)] = g at S X T
  have e1 : (Str.ofString "file").length = 4 := by decide +kernel
  have e2 : (Str.ofString " (").length = 2 := by decide +kernel
  have e3 : (Str.ofString ", line ").length = 7 := by decide +kernel
  have e4 : (Str.ofString ")").length = 1 := by decide +kernel
  have e5 : Str.empty.length = 0 := rfl
  have e7 := figs_len hl0 hl1
  repeat (walk_at "m")
  refine' m_getExc (by assumption) X (excK1 w.params) (by walk_at "mem") hoc hod hof (by walk_at "mem") hdm ?hv ?hg1 ?hg2 ?hna ?hB ?hh2 ?_
  case hv => rfl
  case hg1 => k_is
  case hg2 => k_is
  case hna => k_is
  case hB => rw [typeLookup_type, builtinLookup_eq_fast]; kernel_rfl
  case hh2 => rfl
  intro tk
  repeat (walk_at "m")
  refine' m_getExc (by assumption) X (excK1 w.params) (by walk_at "mem") hoc hod hof (by walk_at "mem") hdm ?hv ?hg1 ?hg2 ?hna ?hB ?hh2 ?_
  case hv => rfl
  case hg1 => k_is
  case hg2 => k_is
  case hna => k_is
  case hB => rw [typeLookup_type, builtinLookup_eq_fast]; kernel_rfl
  case hh2 => rfl
  intro tk
  repeat (walk_at "m")
  refine' m_getExc (by assumption) X (excK1 w.params) (by walk_at "mem") hoc hod hof (by walk_at "mem") hdm ?hv ?hg1 ?hg2 ?hna ?hB ?hh2 ?_
  case hv => rfl
  case hg1 => k_is
  case hg2 => k_is
  case hna => k_is
  case hB => rw [typeLookup_type, builtinLookup_eq_fast]; kernel_rfl
  case hh2 => rfl
  intro tk
  repeat (walk_at "m")
  subst hg
  rw [Str.empty_append]
  exact q _ _ _ (S.back (fun p hp => hp) hown)
end Mine

namespace Mine
open PySem PySem.W PySem.Spec PySem.Calls PyProof.Rows

abbrev lexEs (w : World) (k1 k2 k3 k4 : Tok) (ln : Int) (tl : Tok) (fp : Value) (tw : Tok) (lP : Addr) : List DictEntry :=
  [⟨PyData.keyHash w.params "lineno", .str "lineno" k1, .int ln tl⟩, ⟨PyData.keyHash w.params "instream", .str "instream" k2, fp⟩, ⟨PyData.keyHash w.params "whitespace", .str "whitespace" k3, .str "\n\t\r " tw⟩, ⟨PyData.keyHash w.params "pushback", .str "pushback" k4, .ref lP⟩]

theorem lex_init {w : World} {b0 : Heap} {p : Program} {loose : List Str} {mg mb : Str → Option Value} {mean : ExcName → Option Value} (X0 : (hd2.heap_39 w.params).In b0) (T0 : Top p loose mean mg mb b0) {A : Around} (hroom : A.depth < 500)
    {h : Heap} {G : Array GenState} {D : Drawn} {tk : Nat} {O : OsState} {x dx : Addr} {fp : Value} (hown : ∀ p ∈ [(x, instObj 80 dx), (dx, dictOf [] 0)], h.get? p.1 = some p.2) (hne : x ≠ dx) (hb : b0.StaysIn (gOf h [(x, instObj 80 dx), (dx, dictOf [] 0)])) {R : Result → Shared → Prop}
    (q : ∀ h' tk' k1 k2 k3 k4 tl tw lP, (∀ b o, h.get? b = some o → b ∉ [dx] → h'.get? b = some o) → h'.get? dx = some (dictOf (lexEs w k1 k2 k3 k4 1 tl fp tw lP) 4) → h'.get? lP = some (listOf ([] : List Value).toArray 0) → h.get? lP = none → R (.ok (.ret .none)) ⟨h', G, D, tk', O⟩) :
    codeAny (model PySem.Challenge.rw_km0063_02.row.prog w) A (.call (.ref 56) ⟨[.ref x, fp], []⟩) R ⟨h, G, D, tk, O⟩ := by
  have hb' : b0.StaysIn h := fun b o e => gOf_get (hb b o e)
  have _kf : (hd2.heap_39 w.params).In b0 ∧ PySem.Challenge.rw_km0063_02 = PySem.Challenge.rw_km0063_02 := by (k_fill; exact ⟨X0, rfl⟩)
  clear _kf
  refine' m_enter (own := [(x, instObj 80 dx), (dx, dictOf [] 0)]) X0 T0.nolimit hb' hown ?_ ?ho ?hcd ?hr ?hbind ?hloc ?hcell ?hco ?hgen ?hk ?_
  case ho => k_is
  case hcd => k_is
  case hr => have : (500:Nat) < recursionLimit := by decide
             omega
  case hbind => exact BindsTo.of_eq rfl
  case hloc => exact locs rfl
  case hcell => decide
  case hco => rfl
  case hgen => rfl
  case hk => rfl
  · simp [hne]
  intro L h₁ tk₁ hL hk S
  have X := X0.keeps hb
  have T := topRead_of (T0.keeps hb)
  replace S := S.low (lo' := [("self", .ref x), ("fp", fp)]) (lo_cons rfl (lo_cons rfl lo_nil))
  clear hL
  generalize hg : gOf h [(x, instObj 80 dx), (dx, dictOf [] 0)] = g at S X T
  repeat (walk_at "m")
  refine' m_setOwn (by assumption) X ?hx ?U ?hs ?hp ?ht ?hh ?hl ?hz ?_
  case hx => walk_at "mem"
  case U => walk_at "at"
  case hs => k_is
  case hp => k_is
  case ht => k_is
  case hh => k_is
  case hl => rfl
  case hz => exact Nat.le_of_ble_eq_true rfl
  clear S
  intro h tk1 S
  have S := (show St g L h [("self", .ref x), ("fp", fp)] [(x, instObj 80 dx), (dx, dictOf [⟨PyData.keyHash w.params "lineno", .str "lineno" _, .int 1 _⟩] 1)] from S)
  repeat (walk_at "m")
  refine' m_setOwn (by assumption) X ?hx ?U ?hs ?hp ?ht ?hh ?hl ?hz ?_
  case hx => walk_at "mem"
  case U => walk_at "at"
  case hs => k_is
  case hp => k_is
  case ht => k_is
  case hh => k_is
  case hl => rfl
  case hz => exact Nat.le_of_ble_eq_true rfl
  clear S
  intro h tk2 S
  have S := (show St g L h [("self", .ref x), ("fp", fp)] [(x, instObj 80 dx), (dx, dictOf [⟨PyData.keyHash w.params "lineno", .str "lineno" _, .int 1 _⟩, ⟨PyData.keyHash w.params "instream", .str "instream" _, fp⟩] 2)] from S)
  repeat (walk_at "m")
  refine' m_setOwn (by assumption) X ?hx ?U ?hs ?hp ?ht ?hh ?hl ?hz ?_
  case hx => walk_at "mem"
  case U => walk_at "at"
  case hs => k_is
  case hp => k_is
  case ht => k_is
  case hh => k_is
  case hl => rfl
  case hz => exact Nat.le_of_ble_eq_true rfl
  clear S
  intro h tk3 S
  have S := (show St g L h [("self", .ref x), ("fp", fp)] [(x, instObj 80 dx), (dx, dictOf [⟨PyData.keyHash w.params "lineno", .str "lineno" _, .int 1 _⟩, ⟨PyData.keyHash w.params "instream", .str "instream" _, fp⟩, ⟨PyData.keyHash w.params "whitespace", .str "whitespace" _, .str "\n\t\r " _⟩] 3)] from S)
  repeat (walk_at "m")
  refine' m_setOwn (by assumption) X ?hx ?U ?hs ?hp ?ht ?hh ?hl ?hz ?_
  case hx => walk_at "mem"
  case U => walk_at "at"
  case hs => k_is
  case hp => k_is
  case ht => k_is
  case hh => k_is
  case hl => rfl
  case hz => exact Nat.le_of_ble_eq_true rfl
  clear S
  intro h tk4 S
  repeat (walk_at "m")
  subst hg
  have hd : _ = some (dictOf (lexEs w _ _ _ _ 1 _ fp _ l) 4) := S.at (.tail _ (.tail _ (.head _)))
  have hlP := S.made (p := (l, listOf ([] : List Value).toArray 0)) (.head _) (fun z => by
    rcases List.mem_cons.mp z with z | z
    · exact S.apart (.head _) z
    · exact S.apart (.tail _ (.head _)) (List.mem_singleton.mp z))
  refine q _ _ _ _ _ _ _ _ l (fun b o hbo hn => ?_) hd hlP.1 hlP.2
  by_cases z : b = x
  · subst z
    have z0 := hown (b, instObj 80 dx) (.head _)
    dsimp only at z0
    rw [z0] at hbo; cases hbo
    exact S.at (.tail _ (.head _))
  · exact S.keptBut b o hbo (fun hm => by
      rcases List.mem_cons.mp hm with z2 | z2
      · exact z z2
      · exact hn z2)
end Mine

namespace Mine
open PySem PySem.W PySem.Spec PySem.Calls PyProof.Rows

def defOf : Option Stmt → Option (Arguments × List Stmt × Scope)
  | some (.FunctionDef _ a b _ _ _ sc _ _ _) => some (a, b, sc)
  | _ => none
def firstDef : List Stmt → Option Stmt
  | [] => none
  | .FunctionDef n a b d r t sc ts bi p :: _ => some (.FunctionDef n a b d r t sc ts bi p)
  | _ :: r => firstDef r
def bodyOf (d : Option (Arguments × List Stmt × Scope)) : List Stmt := match d with
  | some x => x.2.1
  | none => []
def scopeOf (d : Option (Arguments × List Stmt × Scope)) : Scope := match d with
  | some x => x.2.2
  | none => default
def lawDef : Option (Arguments × List Stmt × Scope) := defOf PySem.Challenge.rw_km0063_02.row.prog.main.body.getLast?
def streamDef : Option (Arguments × List Stmt × Scope) := defOf (PySem.Challenge.rw_km0063_02.row.prog.main.body.reverse[3]?)
def giveDef : Option (Arguments × List Stmt × Scope) := defOf (firstDef (bodyOf streamDef))
def gA : Arguments := match giveDef with
  | some x => x.1
  | none => default
def gB : List Stmt := bodyOf giveDef
def gS : Scope := scopeOf giveDef

set_option genInjectivity false in
set_option genSizeOf false in
/-- the stream, the lexer and what hangs on them -/
structure Rig where
  (lA cA cT xS dS xL dL lP fG cd : Addr)
  text : Str
  tT : Tok
  pb : List (Str × Tok)
  (nA nP nS nL : Nat)
  (oA oT oc : Obj)
  esS : List DictEntry
  esL : Int → Tok → List DictEntry
  (doc pm ctv : Value)
  cl : List (Str × Addr)
abbrev Rig.own (r : Rig) (k : Int) (tA : Tok) (ln : Int) (tL : Tok) : List (Addr × Obj) :=
  [(r.lA, listOf [.int k tA].toArray r.nA), (r.dL, dictOf (r.esL ln tL) r.nL), (r.lP, listOf (strValues r.pb).toArray r.nP), (r.cA, r.oA), (r.cT, r.oT), (r.xS, instObj 80 r.dS), (r.dS, dictOf r.esS r.nS), (r.xL, instObj 80 r.dL),
    (r.fG, fnMade "_law_give" "_law_stream.<locals>._law_give" gA gB gS r.cl r.doc r.pm r.cd r.ctv), (r.cd, r.oc)]
structure RigOk (r : Rig) : Prop where
  a : r.oA.data = .cell (some (.ref r.lA))
  t : r.oT.data = .cell (some (.str r.text r.tT))
  cdf : ∃ vs t, r.oc.data = .fields vs ∧ vs[1]? = some (.str "_law_stream.<locals>._law_give" t)
  cla : r.cl.lookup ("at" : Str) = some r.cA
  clt : r.cl.lookup ("text" : Str) = some r.cT
  ln : ∀ ln tL, getL "lineno" (r.esL ln tL) = some (some (.int ln tL))
  ins : ∀ ln tL, getL "instream" (r.esL ln tL) = some (some (.ref r.xS))
  psh : ∀ ln tL, getL "pushback" (r.esL ln tL) = some (some (.ref r.lP))
  wsp : ∃ t, ∀ ln tL, getL "whitespace" (r.esL ln tL) = some (some (.str "\n\t\r " t))
  rc : ∀ ln tL, getL "_read_char" (r.esL ln tL) = some none
  gt : ∀ ln tL, getL "get_token" (r.esL ln tL) = some none
  pt : ∀ ln tL, getL "push_token" (r.esL ln tL) = some none
  rd : getL "read" r.esS = some (some (.ref r.fG))
  put : ∀ hsh key ln tL ln' tL', putL "lineno" hsh key (.int ln' tL') (r.esL ln tL) = r.esL ln' tL'
  putn : ∀ ln tL, putN "lineno" (r.esL ln tL) r.nL = r.nL
  esz : ∀ ln tL, (r.esL ln tL).length ≤ 100
  len : r.text.length ≤ 900
theorem RigOk.push {r : Rig} (ok : RigOk r) (pb : List (Str × Tok)) (nP : Nat) : RigOk { r with pb := pb, nP := nP } :=
  ⟨ok.a, ok.t, ok.cdf, ok.cla, ok.clt, ok.ln, ok.ins, ok.psh, ok.wsp, ok.rc, ok.gt, ok.pt, ok.rd, ok.put, ok.putn, ok.esz, ok.len⟩

/-- what a read of one sign gives -/
structure GiveQ (r : Rig) (k : Nat) (ln : Int) (tL : Tok) (ks : List Addr) (h : Heap) (G : Array GenState) (D : Drawn) (O : OsState) (R : Result → Shared → Prop) : Prop where
  fin : (signs r.text)[k]? = none → ∀ t h' tk' tA', (∀ b o, h.get? b = some o → b ∉ ks → h'.get? b = some o) → (∀ p ∈ r.own k tA' ln tL, h'.get? p.1 = some p.2) → R (.ok (.ret (.str Str.empty t))) ⟨h', G, D, tk', O⟩
  one : ∀ c, (signs r.text)[k]? = some c → ∀ t h' tk' tA', (∀ b o, h.get? b = some o → b ∉ ks → h'.get? b = some o) → (∀ p ∈ r.own (k + 1 : Nat) tA' ln tL, h'.get? p.1 = some p.2) → R (.ok (.ret (.str c t))) ⟨h', G, D, tk', O⟩

theorem law_give {w : World} {b0 : Heap} {p : Program} {loose : List Str} {mg mb : Str → Option Value} {mean : ExcName → Option Value} (X0 : (hd2.heap_39 w.params).In b0) (T0 : Top p loose mean mg mb b0) {A : Around} (hroom : A.depth < 400)
    {h : Heap} {G : Array GenState} {D : Drawn} {tk : Nat} {O : OsState} {r : Rig} (ok : RigOk r) {k : Nat} {tA : Tok} {ln : Int} {tL : Tok} {u : Tok} (hle : k ≤ r.text.length) (hown : ∀ p ∈ r.own k tA ln tL, h.get? p.1 = some p.2) (hnd : (keys (r.own k tA ln tL)).Nodup)
    (hb : b0.StaysIn (gOf h (r.own k tA ln tL))) {R : Result → Shared → Prop} (q : GiveQ r k ln tL (keys (r.own k tA ln tL)) h G D O R) :
    codeAny (model PySem.Challenge.rw_km0063_02.row.prog w) A (.call (.ref r.fG) ⟨[.int 1 u], []⟩) R ⟨h, G, D, tk, O⟩ := by
  have hb' : b0.StaysIn h := fun b o e => gOf_get (hb b o e)
  have _kf : (hd2.heap_39 w.params).In b0 ∧ PySem.Challenge.rw_km0063_02 = PySem.Challenge.rw_km0063_02 := by (k_fill; exact ⟨X0, rfl⟩)
  clear _kf
  refine' m_enterOwn (own := r.own k tA ln tL) X0 T0.nolimit hb' hown hnd ?ho ?hcd ?hr ?hbind ?hloc ?hcell ?hco ?hgen ?hk ?_
  case ho => walk_at "mem"
  case hcd => 
    obtain ⟨vs, t, h1, h2⟩ := ok.cdf
    exact ⟨r.cd, r.oc, vs, t, rfl, hown (r.cd, r.oc) (by walk_at "mem"), h1, h2⟩
  case hr => have : (500:Nat) < recursionLimit := by decide
             omega
  case hbind => exact BindsTo.of_eq rfl
  case hloc => exact locs rfl
  case hcell => decide
  case hco => rfl
  case hgen => rfl
  case hk => rfl
  intro L h₁ tk₁ hL hk S
  have X := X0.keeps hb
  have T := topRead_of (T0.keeps hb)
  replace S := S.low (lo' := [("size", .int 1 u)]) (lo_cons rfl lo_nil)
  clear hL
  generalize hg : gOf h (r.own k tA ln tL) = g at S X T
  have oka := ok.a
  have okt := ok.t
  have cla := ok.cla
  have clt := ok.clt
  have oklen := ok.len
  clear ok
  with_unfolding_all refine' m_execs_cons ?_
  repeat (walk_at "m")
  refine' m_idx (by assumption) ?hm ?hz ?h0 ?hx ?hs ?_
  case hm => walk_at "mem"
  case hz => walk_at "sz"
  case h0 => decide
  case hx => rfl
  case hs => with_unfolding_all rfl
  repeat (walk_at "m")
  refine' m_idx (by assumption) ?hm ?hz ?h0 ?hx ?hs ?_
  case hm => walk_at "mem"
  case hz => walk_at "sz"
  case h0 => decide
  case hx => rfl
  case hs => with_unfolding_all rfl
  repeat (walk_at "m")
  refine' m_cutS S ?hs2 ?hz2 ?he2 ?_
  case hs2 => walk_at "mem"
  case hz2 => exact tot_ok (by omega)
  case he2 => with_unfolding_all rfl
  intro t2 tk
  repeat (walk_at "m")
  have hcl : (Txt.slice r.text (some (k : Int)) (some ((k : Int) + 1))).length ≤ 900 := Nat.le_trans (Txt.slice_le _ _ _) oklen
  obtain ⟨piece, hpc⟩ : ∃ x, x = Txt.slice r.text (some (k : Int)) (some ((k : Int) + 1)) := ⟨_, rfl⟩
  rw [← hpc] at S hcl
  refine' m_AugSub ?hs ?_
  case hs => intros; rfl
  repeat (walk_at "m")
  refine' m_getItem_list (by assumption) ?hm ?hz ?h0 ?hx ?_
  case hm => walk_at "mem"
  case hz => walk_at "sz"
  case h0 => decide
  case hx => rfl
  repeat (walk_at "m")
  refine' m_setItem0 (by assumption) ?U ?h0 ?hk2 ?hz ?_
  case U => walk_at "at"
  case h0 => decide
  case hk2 => show (0:Int) < 1; decide
  case hz => walk_at "sz"
  clear S
  intro h S
  rw [show (0:Int).toNat = 0 from rfl] at S
  simp only [List.set_cons_zero] at S
  obtain ⟨tN, rfl⟩ : ∃ x, x = t := ⟨t, rfl⟩
  repeat (walk_at "m")
  subst hg
  cases hc : (signs r.text)[k]? with
  | none =>
    have hge : r.text.length ≤ k := by rw [List.getElem?_eq_none_iff, signs_length] at hc; exact hc
    obtain rfl : piece = Str.empty := by rw [hpc]; exact slice_end hge
    rw [show (k : Int) + (Str.empty.length : Int) = k from by show (k : Int) + 0 = k; omega] at S
    exact q.fin hc _ _ _ _ S.keptBut (fun p hp => (S.nw p (.tail _ hp)).1)
  | some c =>
    obtain rfl : piece = c := by rw [hpc]; exact slice_one hc
    have hl1 : piece.length = 1 := by
      rw [signs_get] at hc
      obtain ⟨n, _, rfl⟩ := Option.map_eq_some_iff.mp hc
      rfl
    rw [show (k : Int) + (piece.length : Int) = ((k + 1 : Nat) : Int) by rw [hl1]; simp] at S
    exact q.one _ hc _ _ _ _ S.keptBut (fun p hp => (S.nw p (.tail _ hp)).1)
end Mine

namespace Mine
open PySem PySem.W PySem.Spec PySem.Calls PyProof.Rows

def nlS : Str := "\n"
def lnOf (c : Str) (ln : Int) : Int := if c == nlS then ln + 1 else ln
structure ReadQ (r : Rig) (k : Nat) (ln : Int) (ks : List Addr) (h : Heap) (G : Array GenState) (D : Drawn) (O : OsState) (R : Result → Shared → Prop) : Prop where
  fin : (signs r.text)[k]? = none → ∀ t h' tk' tA' tL', (∀ b o, h.get? b = some o → b ∉ ks → h'.get? b = some o) → (∀ p ∈ r.own k tA' ln tL', h'.get? p.1 = some p.2) → R (.ok (.ret (.str Str.empty t))) ⟨h', G, D, tk', O⟩
  one : ∀ c, (signs r.text)[k]? = some c → ∀ t h' tk' tA' tL', (∀ b o, h.get? b = some o → b ∉ ks → h'.get? b = some o) → (∀ p ∈ r.own (k + 1 : Nat) tA' (lnOf c ln) tL', h'.get? p.1 = some p.2) → R (.ok (.ret (.str c t))) ⟨h', G, D, tk', O⟩

theorem read_char {w : World} {b0 : Heap} {p : Program} {loose : List Str} {mg mb : Str → Option Value} {mean : ExcName → Option Value} (X0 : (hd2.heap_39 w.params).In b0) (T0 : Top p loose mean mg mb b0) {A : Around} (hroom : A.depth < 390)
    {h : Heap} {G : Array GenState} {D : Drawn} {tk : Nat} {O : OsState} {r : Rig} (ok : RigOk r) {k : Nat} {tA : Tok} {ln : Int} {tL : Tok} (hle : k ≤ r.text.length) (hown : ∀ p ∈ r.own k tA ln tL, h.get? p.1 = some p.2) (hnd : (keys (r.own k tA ln tL)).Nodup)
    (hb : b0.StaysIn (gOf h (r.own k tA ln tL))) {R : Result → Shared → Prop} (q : ReadQ r k ln (keys (r.own k tA ln tL)) h G D O R) :
    codeAny (model PySem.Challenge.rw_km0063_02.row.prog w) A (.call (.ref 63) ⟨[.ref r.xL], []⟩) R ⟨h, G, D, tk, O⟩ := by
  have hb' : b0.StaysIn h := fun b o e => gOf_get (hb b o e)
  have _kf : (hd2.heap_39 w.params).In b0 ∧ PySem.Challenge.rw_km0063_02 = PySem.Challenge.rw_km0063_02 := by (k_fill; exact ⟨X0, rfl⟩)
  clear _kf
  refine' m_enter (own := r.own k tA ln tL) X0 T0.nolimit hb' hown hnd ?ho ?hcd ?hr ?hbind ?hloc ?hcell ?hco ?hgen ?hk ?_
  case ho => k_is
  case hcd => k_is
  case hr => have : (500:Nat) < recursionLimit := by decide
             omega
  case hbind => exact BindsTo.of_eq rfl
  case hloc => exact locs rfl
  case hcell => decide
  case hco => rfl
  case hgen => rfl
  case hk => rfl
  intro L h₁ tk₁ hL hk S
  have X := X0.keeps hb
  have T := topRead_of (T0.keeps hb)
  replace S := S.low (lo' := [("self", .ref r.xL)]) (lo_cons rfl lo_nil)
  clear hL
  generalize hg : gOf h (r.own k tA ln tL) = g at S X T
  repeat (walk_at "m")
  refine' m_getOwn (by assumption) X ?hx ?hd ?hg2 ?hh2 ?ha ?hn ?hl ?hv ?_
  case hx => walk_at "mem"
  case hd => walk_at "mem"
  case hg2 => k_is
  case hh2 => k_is
  case ha => k_is
  case hn => first | rfl | k_is
  case hl => exact ok.ins ln tL
  case hv => rfl
  intro tk
  repeat (walk_at "m")
  refine' m_methOwn (by assumption) X ?hx ?hd ?hg2 ?hh2 ?ha ?hl ?hv ?_
  case hx => walk_at "mem"
  case hd => walk_at "mem"
  case hg2 => k_is
  case hh2 => k_is
  case ha => k_is
  case hl => exact ok.rd
  case hv => rfl
  intro tk
  dsimp only
  have hfn : FnAt r.fG h₁ := fnAt_own S (by walk_at "mem")
  refine' m_cwK hfn ?hs ?hp ?_
  case hs => with_unfolding_all rfl
  case hp => with_unfolding_all rfl
  repeat (walk_at "m")
  refine' and_K hfn ?_
  refine' m_callF ?_
  refine' law_give (A := A.deeper _) X0 T0 ?hr ok hle (fun p hp => S.at (a := p.1) (o := p.2) hp) hnd (S.stays (hg ▸ hb) (fun p hp => hp)) ?_
  case hr => show A.depth + 1 < 400; omega
  refine ⟨fun hc t h' tk' tA' hk2 hm2 => ?_, fun c hc t h' tk' tA' hk2 hm2 => ?_⟩
  · replace S := S.after hk2 (fun b hb => hb) hm2 rfl
    repeat (walk_at "m")
    rw [show (Str.empty == Str.ofString "\n") = false by decide +kernel]
    repeat (walk_at "m")
    subst hg
    exact q.fin hc _ _ _ tA' tL S.keptBut (fun p hp => (S.nw p hp).1)
  · replace S := S.after hk2 (fun b hb => hb) hm2 rfl
    repeat (walk_at "m")
    apply m_ifb <;> intro hnl
    · repeat (walk_at "m")
      refine' m_getOwn (by assumption) X ?hx ?hd ?hg2 ?hh2 ?ha ?hn ?hl ?hv ?_
      case hx => walk_at "mem"
      case hd => walk_at "mem"
      case hg2 => k_is
      case hh2 => k_is
      case ha => k_is
      case hn => first | rfl | k_is
      case hl => exact ok.ln ln tL
      case hv => rfl
      intro tk
      repeat (walk_at "m")
      obtain ⟨tN, rfl⟩ : ∃ x, x = t := ⟨t, rfl⟩
      refine' m_reOwn (es' := r.esL (ln + 1) tN) (by assumption) X ?hx ?U ?hp' ?hn ?hs ?hp ?ht ?hh ?hl ?hz ?_
      case hx => walk_at "mem"
      case U => walk_at "at"
      case hp' => exact fun hsh key => ok.put hsh key ln tL (ln + 1) tN
      case hn => exact ok.putn ln tL
      case hs => k_is
      case hp => k_is
      case ht => k_is
      case hh => k_is
      case hl => rw [ok.ln ln tL]; rfl
      case hz => exact Nat.le_trans (ok.esz ln tL) (by decide)
      clear S
      intro h tk S
      repeat (walk_at "m")
      subst hg
      have e2 : lnOf c ln = ln + 1 := by unfold lnOf; rw [show (c == nlS) = true from hnl]; rfl
      exact q.one c hc _ _ _ tA' tN S.keptBut (fun p hp => by rw [e2] at hp; exact (S.nw p hp).1)
    · repeat (walk_at "m")
      subst hg
      have e2 : lnOf c ln = ln := by unfold lnOf; rw [show (c == nlS) = false from hnl]; rfl
      exact q.one c hc _ _ _ tA' tL S.keptBut (fun p hp => by rw [e2] at hp; exact (S.nw p hp).1)
end Mine

namespace Mine
open PySem PySem.W PySem.Spec PySem.Calls PyProof.Rows

section
variable {w : World} {b0 : Heap} {p : Program} {loose : List Str} {mg mb : Str → Option Value} {mean : ExcName → Option Value} {A : Around}
  {g0 g h : Heap} {G : Array GenState} {D : Drawn} {tk : Nat} {O : OsState} {r : Rig} {k : Nat} {tA : Tok} {ln : Int} {tL u : Tok} {L a bm it : Addr} {lo : List (Str × Value)} {rest : List (Addr × Obj)} {oit : Obj}
  {cn : Str} {cs : Scope} {ccd : Value} {cl : List (Str × Addr)} {E : Value → Shared → Prop}

abbrev bmOf (r : Rig) : Obj := methodObj (.ref 63) (.ref r.xL)

theorem st_back {own own' : List (Addr × Obj)} {x y : Addr × Obj} {h' : Heap} (S : St g L h lo (x :: y :: own)) (hk2 : ∀ b o, h.get? b = some o → b ∉ keys own → h'.get? b = some o) (hm2 : ∀ p ∈ own', h'.get? p.1 = some p.2) (hkk : keys own' = keys own) : St g L h' lo (x :: y :: own') := by
  have S2 : St g L h lo ([x, y] ++ (own ++ [])) := by rw [List.append_nil]; exact S
  have S3 := St.around (mid' := own') S2 hk2 hm2 hkk
  rw [List.append_nil] at S3
  exact S3

/-- the next sign by the callable iterator -/
theorem next_char (X0 : (hd2.heap_39 w.params).In b0) (T0 : Top p loose mean mg mb b0) (hroom : A.depth < 380) (hh : A.handled = none)
    (hb : b0.StaysIn g) (ok : RigOk r) (hle : k ≤ r.text.length) {Q : Option Value → Shared → Prop}
    (S : St g L h lo ((it, citOf (.ref bm) (.str Str.empty u)) :: (bm, bmOf r) :: (r.own k tA ln tL)))
    (qf : (signs r.text)[k]? = none → ∀ h' tk' tA' tL', St g L h' lo ((it, citEnd) :: (bm, bmOf r) :: r.own k tA' ln tL') → Q none ⟨h', G, D, tk', O⟩)
    (qo : ∀ c, (signs r.text)[k]? = some c → ∀ t h' tk' tA' tL', St g L h' lo ((it, citOf (.ref bm) (.str Str.empty u)) :: (bm, bmOf r) :: r.own (k + 1 : Nat) tA' (lnOf c ln) tL') → Q (some (.str c t)) ⟨h', G, D, tk', O⟩) :
    wpAny (model PySem.Challenge.rw_km0063_02.row.prog w) (A.deeper (envX cn cs L a ccd cl)) (pyNext (.ref it)) Q E ⟨h, G, D, tk, O⟩ := by
  have X := X0.keeps hb
  have hnd : (keys (r.own k tA ln tL)).Nodup := (S.pick (.cons _ (.cons _ (List.Sublist.refl _)))).nd
  obtain ⟨fo, fd, hfo, hfd⟩ : ∃ fo fd, (hd2.heap_39 w.params).lookup 63 = some fo ∧ fo.data = .func fd := ⟨_, _, rfl, rfl⟩
  have g70 : g.get? 63 = some fo := X _ _ hfo
  have n70 : 63 ∉ keys (r.own k tA ln tL) := fun hm => by
    obtain ⟨q, hq, e⟩ := List.mem_map.mp hm
    have := (S.nw q (.tail _ (.tail _ hq))).2.2
    rw [e, g70] at this; cases this
  refine' m_itNext (f := 63) hh (S.at (.head _)) (S.at (.tail _ (.head _))) (S.gkeep _ _ g70) hfd ?_
  refine' read_char (A := (A.deeper _).in1) X0 T0 ?hr ok hle (fun p hp => S.at (a := p.1) (o := p.2) (.tail _ (.tail _ hp))) hnd (S.stays hb (fun p hp => .tail _ (.tail _ hp))) ?_
  case hr => show A.depth + 1 < 390; omega
  refine ⟨fun hc t h' tk' tA' tL' hk2 hm2 => ?_, fun c hc t h' tk' tA' tL' hk2 hm2 => ?_⟩
  · have S' := st_back S hk2 hm2 rfl
    refine ⟨S'.at (.tail _ (.head _)), hk2 _ _ (S.gkeep _ _ g70) n70, ⟨u, S'.at (.head _)⟩, ?_⟩
    rw [if_pos (by decide +kernel)]
    intro h2 hx he
    refine qf hc h2 tk' tA' tL' (S'.upd (a := it) .here hx he)
  · have S' := st_back S hk2 hm2 rfl
    refine ⟨S'.at (.tail _ (.head _)), hk2 _ _ (S.gkeep _ _ g70) n70, ⟨u, S'.at (.head _)⟩, ?_⟩
    have hne : (c == Str.empty) = false := by
      rw [signs_get] at hc
      obtain ⟨n, _, rfl⟩ := Option.map_eq_some_iff.mp hc
      exact beq_eq_false_iff_ne.mpr (fun e => by cases e)
    rw [hne, if_neg (by decide)]
    exact qo c hc t h' tk' tA' tL' S'

/-- a sign read at once -/
theorem call_rc (X0 : (hd2.heap_39 w.params).In b0) (T0 : Top p loose mean mg mb b0) (hroom : A.depth < 380)
    (hb : b0.StaysIn g) (ok : RigOk r) (hle : k ≤ r.text.length) {Q : Value → Shared → Prop}
    (S : St g L h lo ((it, oit) :: (bm, bmOf r) :: (r.own k tA ln tL)))
    (qf : (signs r.text)[k]? = none → ∀ t h' tk' tA' tL', St g L h' lo ((it, oit) :: (bm, bmOf r) :: r.own k tA' ln tL') → Q (.str Str.empty t) ⟨h', G, D, tk', O⟩)
    (qo : ∀ c, (signs r.text)[k]? = some c → ∀ t h' tk' tA' tL', St g L h' lo ((it, oit) :: (bm, bmOf r) :: r.own (k + 1 : Nat) tA' (lnOf c ln) tL') → Q (.str c t) ⟨h', G, D, tk', O⟩) :
    wpAny (model PySem.Challenge.rw_km0063_02.row.prog w) (A.deeper (envX cn cs L a ccd cl)) (call (.ref 63) [.ref r.xL]) Q E ⟨h, G, D, tk, O⟩ := by
  have hnd : (keys (r.own k tA ln tL)).Nodup := (S.pick (.cons _ (.cons _ (List.Sublist.refl _)))).nd
  refine' m_callF ?_
  refine' read_char (A := (A.deeper _)) X0 T0 ?hr ok hle (fun p hp => S.at (a := p.1) (o := p.2) (.tail _ (.tail _ hp))) hnd (S.stays hb (fun p hp => .tail _ (.tail _ hp))) ?_
  case hr => show A.depth + 1 < 390; omega
  exact ⟨fun hc t h' tk' tA' tL' hk2 hm2 => qf hc t h' tk' tA' tL' (st_back S hk2 hm2 rfl), fun c hc t h' tk' tA' tL' hk2 hm2 => qo c hc t h' tk' tA' tL' (st_back S hk2 hm2 rfl)⟩
end
end Mine

namespace Mine
open PySem PySem.W PySem.Spec PySem.Calls PyProof.Rows
set_option hygiene false in
local macro_rules | `(tactic| walk_at "m1") => `(tactic| (with_reducible refine' m_execs_one ?_))

def wsP : Str := "\n\t\r "
inductive Mode | skip | quoted | plain
inductive Out
  | tok (s : Str) (k : Nat) (ln : Int)
def run : List Str → Mode → Bool → Str → Nat → Int → Out
  | [], _, _, tok, k, ln => .tok tok k ln
  | c :: r, m, esc, tok, k, ln =>
    if esc then run r m false (tok ++ c) (k + 1) (lnOf c ln) else
    match m with
    | .skip => if inS wsP c then run r .skip false tok (k + 1) (lnOf c ln) else if c == qt then run r .quoted false tok (k + 1) (lnOf c ln) else if c == bs then run r .plain true tok (k + 1) (lnOf c ln) else run r .plain false (tok ++ c) (k + 1) (lnOf c ln)
    | .quoted => if c == qt then .tok tok (k + 1) (lnOf c ln) else if c == bs then run r .quoted true tok (k + 1) (lnOf c ln) else run r .quoted false (tok ++ c) (k + 1) (lnOf c ln)
    | .plain => if inS wsP c then .tok tok (k + 1) (lnOf c ln) else if c == bs then run r .plain true tok (k + 1) (lnOf c ln) else run r .plain false (tok ++ c) (k + 1) (lnOf c ln)

theorem str_app_nil (x : Str) : x ++ Str.empty = x := by
  obtain ⟨c⟩ := x
  show Str.mk (c ++ #[]) = Str.mk c
  rw [Array.append_empty]
theorem drop_some {cs : List Str} {k : Nat} {c : Str} (h : cs[k]? = some c) : cs.drop k = c :: cs.drop (k + 1) := by
  obtain ⟨hx, e⟩ := List.getElem?_eq_some_iff.mp h
  rw [List.drop_eq_getElem_cons hx, e]
theorem drop_none {cs : List Str} {k : Nat} (h : cs[k]? = none) : cs.drop k = [] := by
  rw [List.getElem?_eq_none_iff] at h
  exact List.drop_of_length_le h
theorem lt_some {x : Str} {k : Nat} {c : Str} (h : (signs x)[k]? = some c) : k < x.length := by
  have := (List.getElem?_eq_some_iff.mp h).1
  rwa [signs_length] at this
theorem one_len {x : Str} {k : Nat} {c : Str} (h : (signs x)[k]? = some c) : c.length ≤ 8 := by
  rw [signs_get] at h
  obtain ⟨n, _, rfl⟩ := Option.map_eq_some_iff.mp h
  show 1 ≤ 8
  decide
theorem run_nil (m : Mode) (e : Bool) (tok : Str) (k : Nat) (ln : Int) : run [] m e tok k ln = .tok tok k ln := by simp [run]
theorem run_esc {c : Str} (r : List Str) (m : Mode) (tok : Str) (k : Nat) (ln : Int) : run (c :: r) m true tok k ln = run r m false (tok ++ c) (k + 1) (lnOf c ln) := by simp [run]
theorem run_skip {c : Str} (r : List Str) (tok : Str) (k : Nat) (ln : Int) : run (c :: r) .skip false tok k ln = if inS wsP c then run r .skip false tok (k + 1) (lnOf c ln) else if c == qt then run r .quoted false tok (k + 1) (lnOf c ln) else if c == bs then run r .plain true tok (k + 1) (lnOf c ln) else run r .plain false (tok ++ c) (k + 1) (lnOf c ln) := by simp [run]
theorem run_quoted {c : Str} (r : List Str) (tok : Str) (k : Nat) (ln : Int) : run (c :: r) .quoted false tok k ln = if c == qt then .tok tok (k + 1) (lnOf c ln) else if c == bs then run r .quoted true tok (k + 1) (lnOf c ln) else run r .quoted false (tok ++ c) (k + 1) (lnOf c ln) := by simp [run]
theorem run_plain {c : Str} (r : List Str) (tok : Str) (k : Nat) (ln : Int) : run (c :: r) .plain false tok k ln = if inS wsP c then .tok tok (k + 1) (lnOf c ln) else if c == bs then run r .plain true tok (k + 1) (lnOf c ln) else run r .plain false (tok ++ c) (k + 1) (lnOf c ln) := by simp [run]

structure TokQ (r : Rig) (out : Out) (ks : List Addr) (h : Heap) (G : Array GenState) (D : Drawn) (O : OsState) (R : Result → Shared → Prop) : Prop where
  tok : ∀ s k' ln', out = .tok s k' ln' → ∀ t h' tk' tA' tL', (∀ b o, h.get? b = some o → b ∉ ks → h'.get? b = some o) → (∀ p ∈ r.own k' tA' ln' tL', h'.get? p.1 = some p.2) → R (.ok (.ret (.str s t))) ⟨h', G, D, tk', O⟩

theorem get_token {w : World} {b0 : Heap} {p : Program} {loose : List Str} {mg mb : Str → Option Value} {mean : ExcName → Option Value} (X0 : (hd2.heap_39 w.params).In b0) (T0 : Top p loose mean mg mb b0) {A : Around} (hroom : A.depth < 370) (hh : A.handled = none)
    {h : Heap} {G : Array GenState} {D : Drawn} {tk : Nat} {O : OsState} {r : Rig} (ok : RigOk r) {k : Nat} {tA : Tok} {ln : Int} {tL : Tok} (hle : k ≤ r.text.length) (hown : ∀ p ∈ r.own k tA ln tL, h.get? p.1 = some p.2) (hnd : (keys (r.own k tA ln tL)).Nodup)
    (hpb : r.pb = []) (hb : b0.StaysIn (gOf h (r.own k tA ln tL))) {R : Result → Shared → Prop} (q : TokQ r (run ((signs r.text).drop k) .skip false Str.empty k ln) (keys (r.own k tA ln tL)) h G D O R) :
    codeAny (model PySem.Challenge.rw_km0063_02.row.prog w) A (.call (.ref 70) ⟨[.ref r.xL], []⟩) R ⟨h, G, D, tk, O⟩ := by
  have hb' : b0.StaysIn h := fun b o e => gOf_get (hb b o e)
  have _kf : (hd2.heap_39 w.params).In b0 ∧ PySem.Challenge.rw_km0063_02 = PySem.Challenge.rw_km0063_02 := by (k_fill; exact ⟨X0, rfl⟩)
  clear _kf
  refine' m_enter (own := r.own k tA ln tL) X0 T0.nolimit hb' hown hnd ?ho ?hcd ?hr ?hbind ?hloc ?hcell ?hco ?hgen ?hk ?_
  case ho => k_is
  case hcd => k_is
  case hr => have : (500:Nat) < recursionLimit := by decide
             omega
  case hbind => exact BindsTo.of_eq rfl
  case hloc => exact locs rfl
  case hcell => decide
  case hco => rfl
  case hgen => rfl
  case hk => rfl
  intro L h₁ tk₁ hL hk S
  have X := X0.keeps hb
  have T := topRead_of (T0.keeps hb)
  replace S := S.low (lo' := [("self", .ref r.xL)]) (lo_cons rfl lo_nil)
  clear hL
  generalize hg : gOf h (r.own k tA ln tL) = g at S X T
  repeat (walk_at "m")
  refine' m_getOwn (by assumption) X ?hx ?hd ?hg2 ?hh2 ?ha ?hn ?hl ?hv ?_
  case hx => walk_at "mem"
  case hd => walk_at "mem"
  case hg2 => k_is
  case hh2 => k_is
  case ha => k_is
  case hn => first | rfl | k_is
  case hl => exact ok.psh ln tL
  case hv => rfl
  intro tk
  refine' m_truthy_list (by assumption) ?hm ?hz ?_
  case hm => walk_at "mem"
  case hz => rw [hpb]; exact Nat.zero_le _
  intro tk
  rw [show (!(strValues r.pb).isEmpty) = false by rw [hpb]; rfl]
  refine' m_iff ?_
  repeat (walk_at "m")
  refine' m_bound (by assumption) X ?hx ?hd ?hg2 ?hh2 ?ha ?hf ?hgf ?ht ?hc ?hl ?_
  case hx => walk_at "mem"
  case hd => walk_at "mem"
  case hg2 => k_is
  case hh2 => k_is
  case ha => k_is
  case hf => k_is
  case hgf => k_is
  case ht => k_is
  case hc => decide +kernel
  case hl => exact ok.rc ln tL
  clear S
  intro bm h tk S
  repeat (walk_at "m")
  refine' m_iter2 (by assumption) ?hm ?_
  case hm => walk_at "mem"
  clear S
  intro it h S
  repeat (walk_at "m")
  rw [show Str.ofString "" = Str.empty by decide +kernel] at S
  obtain ⟨u, hu2⟩ : ∃ u, u = t := ⟨t, rfl⟩
  rw [← hu2] at S
  clear hu2
  refine' wpAny_For ?_ ?hfs
  case hfs => intro _; rfl
  repeat (walk_at "m")
  refine' m_citIter (S.at (.head _)) ?_
  obtain ⟨out, hout⟩ : ∃ out, out = run ((signs r.text).drop k) .skip false Str.empty k ln := ⟨_, rfl⟩
  rw [← hout] at q
  refine' m_forJ (fun n s' => ∃ (h : Heap) (tk k : Nat) (tA : Tok) (ln : Int) (tL : Tok), s' = ⟨h, G, D, tk, O⟩ ∧ k ≤ r.text.length ∧
    ((∃ t, n = r.text.length - k + 1 ∧ St g L h [("fiter", .ref it), ("token", .str Str.empty t), ("self", .ref r.xL)] ((it, citOf (.ref bm) (.str Str.empty u)) :: (bm, bmOf r) :: r.own k tA ln tL) ∧ out = run ((signs r.text).drop k) .skip false Str.empty k ln) ∨
     (∃ sx t, n = 0 ∧ St g L h [("fiter", .ref it), ("token", .str sx t), ("self", .ref r.xL)] ((it, citEnd) :: (bm, bmOf r) :: r.own k tA ln tL) ∧ out = .tok sx k ln))) ?turn (r.text.length - k + 1) ?init ?ht
  case ht => intro _; rfl
  case init => exact ⟨h, tk, k, tA, ln, tL, rfl, hle, .inl ⟨_, rfl, S, hout⟩⟩
  clear S hout hown hnd hle hk
  obtain ⟨tws, hws⟩ := ok.wsp
  have hlen64 := ok.len
  have hez : Str.empty.length = 0 := rfl
  rintro n s' ⟨h, tk, k, tA, ln, tL, rfl, hle, ⟨t, hn, S, hout⟩ | ⟨sx, t, hn, S, hout⟩⟩ J Q1 E1 hJ hQ1 hE1
  all_goals clear hE1
  · have hbg : b0.StaysIn g := hg ▸ hb
    refine' next_char X0 T0 ?hr ?hh hbg ok hle S ?qf ?qo
    case hr => exact Nat.lt_of_lt_of_le hroom (by decide)
    case hh => exact hh
    case qf =>
      clear S
      intro hc h' tk' tA' tL' S
      repeat (walk_at "m")
      refine' hQ1 _ _ ?_
      repeat (walk_at "m")
      subst hg
      rw [drop_none hc, run_nil] at hout
      exact q.tok _ _ _ hout _ _ _ tA' tL' S.keptBut (fun p hp => (S.nw p (.tail _ (.tail _ hp))).1)
    case qo =>
      clear S
      intro c hc tc h' tk' tA' tL' S
      rw [drop_some hc, run_skip _ _ _ _] at hout
      have hlt := lt_some hc
      repeat (walk_at "m")
      refine' m_getOwn (by assumption) X ?hx ?hd ?hg2 ?hh2 ?ha ?hn ?hl ?hv ?_
      case hx => walk_at "mem"
      case hd => walk_at "mem"
      case hg2 => k_is
      case hh2 => k_is
      case ha => k_is
      case hn => first | rfl | k_is
      case hl => exact hws _ _
      case hv => rfl
      intro tk
      repeat (walk_at "m")
      apply m_ifb <;> intro hw
      · repeat (walk_at "m")
        rw [if_pos (show inS wsP c = true from hw)] at hout
        exact hJ (r.text.length - (k + 1) + 1) _ (lt_t1 hn hlt) ⟨_, _, k + 1, tA', lnOf c ln, tL', rfl, hlt, .inl ⟨t, rfl, S.low (lo_cons rfl (lo_cons rfl (lo_cons rfl lo_nil))), hout⟩⟩
      · repeat (walk_at "m")
        rw [if_neg (show ¬ (inS wsP c = true) by intro z; have : inS wsP c = false := hw; rw [this] at z; cases z)] at hout
        apply m_ifb <;> intro hq
        · rw [if_pos (show (c == qt) = true from hq)] at hout
          repeat (walk_at "m")
          obtain ⟨k1, hk1e⟩ : ∃ k1, k1 = k + 1 := ⟨_, rfl⟩
          rw [← hk1e] at S hout
          have hk1 : k + 1 ≤ k1 := by omega
          have hk1l : k1 ≤ r.text.length := by omega
          have htk1 : Str.empty.length ≤ 8 * k1 := Nat.zero_le _
          refine' wpAny_For ?_ ?hfsquoted
          case hfsquoted => intro _; rfl
          repeat (walk_at "m")
          refine' m_citIter (S.at (.head _)) ?_
          refine' m_forJ (fun n2 s' => ∃ (h : Heap) (tk k2 : Nat) (tA : Tok) (ln : Int) (tL : Tok) (tok2 : Str) (t2 : Tok), s' = ⟨h, G, D, tk, O⟩ ∧ k + 1 ≤ k2 ∧ k2 ≤ r.text.length ∧ n2 = r.text.length - k2 + 1 ∧ tok2.length ≤ 8 * k2 ∧
              St g L h [("fiter", .ref it), ("token", .str tok2 t2), ("self", .ref r.xL)] ((it, citOf (.ref bm) (.str Str.empty u)) :: (bm, bmOf r) :: r.own k2 tA ln tL) ∧ out = run ((signs r.text).drop k2) .quoted false tok2 k2 ln) ?turn2quoted (r.text.length - k1 + 1) ?init2quoted ?ht2quoted
          case ht2quoted => intro _; rfl
          case init2quoted => exact ⟨h, _, k1, _, _, _, _, _, rfl, hk1, hk1l, rfl, htk1, S.low (lo_cons rfl (lo_cons rfl (lo_cons rfl lo_nil))), hout⟩
          clear S hout
          rintro n2 s' ⟨h, tk, k2, tA, ln, tL, tok2, t2, rfl, hk2, hk2l, hn2, htl, S, hout⟩ J2 Q2 E2 hJ2 hQ2 hE2
          clear hE2
          refine' next_char X0 T0 ?hr ?hh hbg ok hk2l S ?qfIquoted ?qoIquoted
          case hr => exact Nat.lt_of_lt_of_le hroom (by decide)
          case hh => exact hh
          case qfIquoted =>
            clear S
            intro hc2 h' tk' tA' tL' S
            repeat (walk_at "m")
            rw [drop_none hc2, run_nil] at hout
            refine' hQ2 _ _ ?_
            repeat (walk_at "m")
            exact hJ 0 _ (lt_t0 hn) ⟨_, _, k2, tA', ln, tL', rfl, hk2l, .inr ⟨tok2, t2, rfl, S.low (lo_cons rfl (lo_cons rfl (lo_cons rfl lo_nil))), hout⟩⟩
          case qoIquoted =>
            clear S
            intro c2 hc2 tc2 h' tk' tA' tL' S
            rw [drop_some hc2, run_quoted _ _ _ _] at hout
            have hlt2 := lt_some hc2
            have hl82 := (one_len hc2)
            repeat (walk_at "m")
            apply m_ifb <;> intro hw
            · rw [if_pos (show (c2 == qt) = true from hw)] at hout
              repeat (walk_at "m")
              refine' hQ2 _ _ ?_
              dsimp only
              refine' hQ1 _ _ ?_
              subst hg
              exact q.tok _ _ _ hout _ _ _ tA' tL' S.keptBut (fun p hp => (S.nw p (.tail _ (.tail _ hp))).1)
            · rw [if_neg (show ¬ ((c2 == qt) = true) by intro z; have : (c2 == qt) = false := hw; rw [this] at z; cases z)] at hout
              repeat (walk_at "m")
              apply m_ifb <;> intro hb2
              · rw [if_pos (show (c2 == bs) = true from hb2)] at hout
                repeat (walk_at "m")
                refine' m_methInst (by assumption) X ?hx ?hd ?hg2 ?hf ?ht ?hl ?_
                case hx => walk_at "mem"
                case hd => walk_at "mem"
                case hg2 => k_is
                case hf => k_is
                case ht => k_is
                case hl => exact ok.rc _ _
                dsimp only
                refine' m_cwK0 (fnAt_K X S ?hlk) ?_
                case hlk => rfl
                refine' call_rc X0 T0 ?hr hbg ok hlt2 S ?qfJquoted ?qoJquoted
                case hr => exact Nat.lt_of_lt_of_le hroom (by decide)
                case qfJquoted =>
                  clear S
                  intro hc3 tc3 h' tk' tA' tL' S
                  repeat (walk_at "m")
                  exact hJ2 (r.text.length - (k2 + 1) + 1) _ (lt_t1 hn2 hlt2) ⟨_, _, k2 + 1, _, _, _, tok2 ++ Str.empty, _, rfl, le_k1 hk2, hlt2, rfl, by rw [str_app_nil]; exact Nat.le_trans htl (Nat.mul_le_mul_left 8 (Nat.le_succ _)), S.low (lo_cons rfl (lo_cons rfl (lo_cons rfl lo_nil))), by rw [drop_none hc3, run_nil] at hout; rw [drop_none hc3, run_nil, str_app_nil]; exact hout⟩
                case qoJquoted =>
                  clear S
                  intro c3 hc3 tc3 h' tk' tA' tL' S
                  have hlt3 := lt_some hc3
                  have hl83 := (one_len hc3)
                  repeat (walk_at "m")
                  exact hJ2 (r.text.length - (k2 + 1 + 1) + 1) _ (lt_t2 hn2 hlt3) ⟨_, _, k2 + 1 + 1, _, _, _, tok2 ++ c3, _, rfl, le_k2 hk2, hlt3, rfl, tok_l2 htl hl83, S.low (lo_cons rfl (lo_cons rfl (lo_cons rfl lo_nil))), by rw [drop_some hc3, run_esc _ _ _ _ _] at hout; exact hout⟩
              · rw [if_neg (show ¬ ((c2 == bs) = true) by intro z; have : (c2 == bs) = false := hb2; rw [this] at z; cases z)] at hout
                repeat (walk_at "m")
                exact hJ2 (r.text.length - (k2 + 1) + 1) _ (lt_t1 hn2 hlt2) ⟨_, _, k2 + 1, _, _, _, tok2 ++ c2, _, rfl, le_k1 hk2, hlt2, rfl, tok_l1 htl hl82, S.low (lo_cons rfl (lo_cons rfl (lo_cons rfl lo_nil))), hout⟩
        · rw [if_neg (show ¬ ((c == qt) = true) by intro z; have : (c == qt) = false := hq; rw [this] at z; cases z)] at hout
          walk_at "m"
          refine' m_cut2 (fun f s' => ∃ (h : Heap) (tk k1 : Nat) (tA : Tok) (ln : Int) (tL : Tok) (ch : Str) (tc t : Tok), f = .next ∧ s' = ⟨h, G, D, tk, O⟩ ∧ k + 1 ≤ k1 ∧ k1 ≤ r.text.length ∧ ch.length ≤ 8 ∧
            St g L h [("ch", .str ch tc), ("fiter", .ref it), ("token", .str Str.empty t), ("self", .ref r.xL)] ((it, citOf (.ref bm) (.str Str.empty u)) :: (bm, bmOf r) :: r.own k1 tA ln tL) ∧ out = run ((signs r.text).drop k1) .plain false (Str.empty ++ ch) k1 ln) ?if1 ?rest1
          case if1 =>
            intro Q3 hQ3
            have hl8 := (one_len hc)
            repeat (walk_at "m")
            apply m_ifb <;> intro hb2
            · rw [if_pos (show (c == bs) = true from hb2)] at hout
              repeat (walk_at "m")
              refine' m_methInst (by assumption) X ?hx ?hd ?hg2 ?hf ?ht ?hl ?_
              case hx => walk_at "mem"
              case hd => walk_at "mem"
              case hg2 => k_is
              case hf => k_is
              case ht => k_is
              case hl => exact ok.rc _ _
              dsimp only
              refine' m_cwK0 (fnAt_K X S ?hlk) ?_
              case hlk => rfl
              refine' call_rc X0 T0 ?hr hbg ok hlt S ?qfP ?qoP
              case hr => exact Nat.lt_of_lt_of_le hroom (by decide)
              case qfP =>
                clear S
                intro hc2 tc2 h' tk' tA' tL' S
                repeat (walk_at "m")
                exact hQ3 _ _ ⟨_, _, k + 1, _, _, _, _, _, _, rfl, rfl, Nat.le_refl _, hlt, by decide, S.low (lo_cons rfl (lo_cons rfl (lo_cons rfl (lo_cons rfl lo_nil)))), by rw [drop_none hc2, run_nil] at hout; rw [drop_none hc2, run_nil]; exact hout⟩
              case qoP =>
                clear S
                intro c2 hc2 tc2 h' tk' tA' tL' S
                have hlt2 := lt_some hc2
                have hl82 := (one_len hc2)
                repeat (walk_at "m")
                exact hQ3 _ _ ⟨_, _, k + 1 + 1, _, _, _, _, _, _, rfl, rfl, Nat.le_succ _, hlt2, hl82, S.low (lo_cons rfl (lo_cons rfl (lo_cons rfl (lo_cons rfl lo_nil)))), by rw [drop_some hc2, run_esc _ _ _ _ _] at hout; exact hout⟩
            · rw [if_neg (show ¬ ((c == bs) = true) by intro z; have : (c == bs) = false := hb2; rw [this] at z; cases z)] at hout
              repeat (walk_at "m")
              exact hQ3 _ _ ⟨_, _, k + 1, _, _, _, _, _, _, rfl, rfl, Nat.le_refl _, hlt, hl8, S.low (lo_cons rfl (lo_cons rfl (lo_cons rfl (lo_cons rfl lo_nil)))), hout⟩
          case rest1 =>
            clear S hout
            rintro f s' ⟨h, tk, k1, tA, ln, tL, ch, tc, t, rfl, rfl, hk1, hk1l, hch, S, hout⟩
            repeat (walk_at "m")
            have htk1 : (Str.empty ++ ch).length ≤ 8 * k1 := by rw [Str.length_append]; omega
            refine' wpAny_For ?_ ?hfsplain
            case hfsplain => intro _; rfl
            repeat (walk_at "m")
            refine' m_citIter (S.at (.head _)) ?_
            refine' m_forJ (fun n2 s' => ∃ (h : Heap) (tk k2 : Nat) (tA : Tok) (ln : Int) (tL : Tok) (tok2 : Str) (t2 : Tok), s' = ⟨h, G, D, tk, O⟩ ∧ k + 1 ≤ k2 ∧ k2 ≤ r.text.length ∧ n2 = r.text.length - k2 + 1 ∧ tok2.length ≤ 8 * k2 ∧
                St g L h [("fiter", .ref it), ("token", .str tok2 t2), ("self", .ref r.xL)] ((it, citOf (.ref bm) (.str Str.empty u)) :: (bm, bmOf r) :: r.own k2 tA ln tL) ∧ out = run ((signs r.text).drop k2) .plain false tok2 k2 ln) ?turn2plain (r.text.length - k1 + 1) ?init2plain ?ht2plain
            case ht2plain => intro _; rfl
            case init2plain => exact ⟨h, _, k1, _, _, _, _, _, rfl, hk1, hk1l, rfl, htk1, S.low (lo_cons rfl (lo_cons rfl (lo_cons rfl lo_nil))), hout⟩
            clear S hout
            rintro n2 s' ⟨h, tk, k2, tA, ln, tL, tok2, t2, rfl, hk2, hk2l, hn2, htl, S, hout⟩ J2 Q2 E2 hJ2 hQ2 hE2
            clear hE2
            refine' next_char X0 T0 ?hr ?hh hbg ok hk2l S ?qfIplain ?qoIplain
            case hr => exact Nat.lt_of_lt_of_le hroom (by decide)
            case hh => exact hh
            case qfIplain =>
              clear S
              intro hc2 h' tk' tA' tL' S
              repeat (walk_at "m")
              rw [drop_none hc2, run_nil] at hout
              refine' hQ2 _ _ ?_
              repeat (walk_at "m")
              exact hJ 0 _ (lt_t0 hn) ⟨_, _, k2, tA', ln, tL', rfl, hk2l, .inr ⟨tok2, t2, rfl, S.low (lo_cons rfl (lo_cons rfl (lo_cons rfl lo_nil))), hout⟩⟩
            case qoIplain =>
              clear S
              intro c2 hc2 tc2 h' tk' tA' tL' S
              rw [drop_some hc2, run_plain _ _ _ _] at hout
              have hlt2 := lt_some hc2
              have hl82 := (one_len hc2)
              repeat (walk_at "m")
              refine' m_getOwn (by assumption) X ?hx ?hd ?hg2 ?hh2 ?ha ?hn ?hl ?hv ?_
              case hx => walk_at "mem"
              case hd => walk_at "mem"
              case hg2 => k_is
              case hh2 => k_is
              case ha => k_is
              case hn => first | rfl | k_is
              case hl => exact hws _ _
              case hv => rfl
              intro tk
              repeat (walk_at "m")
              apply m_ifb <;> intro hw
              · rw [if_pos (show inS wsP c2 = true from hw)] at hout
                repeat (walk_at "m")
                refine' hQ2 _ _ ?_
                dsimp only
                refine' hQ1 _ _ ?_
                subst hg
                exact q.tok _ _ _ hout _ _ _ tA' tL' S.keptBut (fun p hp => (S.nw p (.tail _ (.tail _ hp))).1)
              · rw [if_neg (show ¬ (inS wsP c2 = true) by intro z; have : inS wsP c2 = false := hw; rw [this] at z; cases z)] at hout
                repeat (walk_at "m")
                apply m_ifb <;> intro hb2
                · rw [if_pos (show (c2 == bs) = true from hb2)] at hout
                  repeat (walk_at "m")
                  refine' m_methInst (by assumption) X ?hx ?hd ?hg2 ?hf ?ht ?hl ?_
                  case hx => walk_at "mem"
                  case hd => walk_at "mem"
                  case hg2 => k_is
                  case hf => k_is
                  case ht => k_is
                  case hl => exact ok.rc _ _
                  dsimp only
                  refine' m_cwK0 (fnAt_K X S ?hlk) ?_
                  case hlk => rfl
                  refine' call_rc X0 T0 ?hr hbg ok hlt2 S ?qfJplain ?qoJplain
                  case hr => exact Nat.lt_of_lt_of_le hroom (by decide)
                  case qfJplain =>
                    clear S
                    intro hc3 tc3 h' tk' tA' tL' S
                    repeat (walk_at "m")
                    exact hJ2 (r.text.length - (k2 + 1) + 1) _ (lt_t1 hn2 hlt2) ⟨_, _, k2 + 1, _, _, _, tok2 ++ Str.empty, _, rfl, le_k1 hk2, hlt2, rfl, by rw [str_app_nil]; exact Nat.le_trans htl (Nat.mul_le_mul_left 8 (Nat.le_succ _)), S.low (lo_cons rfl (lo_cons rfl (lo_cons rfl lo_nil))), by rw [drop_none hc3, run_nil] at hout; rw [drop_none hc3, run_nil, str_app_nil]; exact hout⟩
                  case qoJplain =>
                    clear S
                    intro c3 hc3 tc3 h' tk' tA' tL' S
                    have hlt3 := lt_some hc3
                    have hl83 := (one_len hc3)
                    repeat (walk_at "m")
                    exact hJ2 (r.text.length - (k2 + 1 + 1) + 1) _ (lt_t2 hn2 hlt3) ⟨_, _, k2 + 1 + 1, _, _, _, tok2 ++ c3, _, rfl, le_k2 hk2, hlt3, rfl, tok_l2 htl hl83, S.low (lo_cons rfl (lo_cons rfl (lo_cons rfl lo_nil))), by rw [drop_some hc3, run_esc _ _ _ _ _] at hout; exact hout⟩
                · rw [if_neg (show ¬ ((c2 == bs) = true) by intro z; have : (c2 == bs) = false := hb2; rw [this] at z; cases z)] at hout
                  repeat (walk_at "m")
                  exact hJ2 (r.text.length - (k2 + 1) + 1) _ (lt_t1 hn2 hlt2) ⟨_, _, k2 + 1, _, _, _, tok2 ++ c2, _, rfl, le_k1 hk2, hlt2, rfl, tok_l1 htl hl82, S.low (lo_cons rfl (lo_cons rfl (lo_cons rfl lo_nil))), hout⟩
  · refine' m_itNextEnded hh (S.at (.head _)) ?_
    intro h' hk'
    replace S := S.keeps hk'
    repeat (walk_at "m")
    refine' hQ1 _ _ ?_
    repeat (walk_at "m")
    subst hg
    exact q.tok _ _ _ hout _ _ _ tA tL S.keptBut (fun p hp => (S.nw p (.tail _ (.tail _ hp))).1)
end Mine

namespace Mine
open PySem PySem.W PySem.Spec PySem.Calls PyProof.Rows

abbrev Rig.with (r : Rig) (pb : List (Str × Tok)) (n : Nat) : Rig := { r with pb := pb, nP := n }
theorem get_pb {w : World} {b0 : Heap} {p : Program} {loose : List Str} {mg mb : Str → Option Value} {mean : ExcName → Option Value} (X0 : (hd2.heap_39 w.params).In b0) (T0 : Top p loose mean mg mb b0) {A : Around} (hroom : A.depth < 370)
    {h : Heap} {G : Array GenState} {D : Drawn} {tk : Nat} {O : OsState} {r : Rig} (ok : RigOk r) {k : Nat} {tA : Tok} {ln : Int} {tL : Tok} {c : Str × Tok} (hpb : r.pb = [c]) (hown : ∀ p ∈ r.own k tA ln tL, h.get? p.1 = some p.2) (hnd : (keys (r.own k tA ln tL)).Nodup)
    (hb : b0.StaysIn (gOf h (r.own k tA ln tL))) {R : Result → Shared → Prop} (q : ∀ h' tk', (∀ b o, h.get? b = some o → b ∉ keys (r.own k tA ln tL) → h'.get? b = some o) → (∀ p ∈ (r.with [] (r.nP + 1)).own k tA ln tL, h'.get? p.1 = some p.2) → R (.ok (.ret (.str c.1 c.2))) ⟨h', G, D, tk', O⟩) :
    codeAny (model PySem.Challenge.rw_km0063_02.row.prog w) A (.call (.ref 70) ⟨[.ref r.xL], []⟩) R ⟨h, G, D, tk, O⟩ := by
  have hb' : b0.StaysIn h := fun b o e => gOf_get (hb b o e)
  have _kf : (hd2.heap_39 w.params).In b0 ∧ PySem.Challenge.rw_km0063_02 = PySem.Challenge.rw_km0063_02 := by (k_fill; exact ⟨X0, rfl⟩)
  clear _kf
  refine' m_enter (own := r.own k tA ln tL) X0 T0.nolimit hb' hown hnd ?ho ?hcd ?hr ?hbind ?hloc ?hcell ?hco ?hgen ?hk ?_
  case ho => k_is
  case hcd => k_is
  case hr => have : (500:Nat) < recursionLimit := by decide
             omega
  case hbind => exact BindsTo.of_eq rfl
  case hloc => exact locs rfl
  case hcell => decide
  case hco => rfl
  case hgen => rfl
  case hk => rfl
  intro L h₁ tk₁ hL hk S
  have X := X0.keeps hb
  have T := topRead_of (T0.keeps hb)
  replace S := S.low (lo' := [("self", .ref r.xL)]) (lo_cons rfl lo_nil)
  clear hL
  generalize hg : gOf h (r.own k tA ln tL) = g at S X T
  rw [show r.own k tA ln tL = (r.with [c] r.nP).own k tA ln tL by show r.own k tA ln tL = _; unfold Rig.own; rw [hpb]] at S
  repeat (walk_at "m")
  refine' m_getOwn (by assumption) X ?hx ?hd ?hg2 ?hh2 ?ha ?hn ?hl ?hv ?_
  case hx => walk_at "mem"
  case hd => walk_at "mem"
  case hg2 => k_is
  case hh2 => k_is
  case ha => k_is
  case hn => first | rfl | k_is
  case hl => exact ok.psh ln tL
  case hv => rfl
  intro tk
  refine' m_truthy_list (vs := strValues [c]) S ?hm ?hz ?_
  case hm => walk_at "mem"
  case hz => exact Nat.le_of_ble_eq_true rfl
  intro tk
  refine' m_ift ?_
  repeat (walk_at "m")
  refine' m_getOwn (by assumption) X ?hx ?hd ?hg2 ?hh2 ?ha ?hn ?hl ?hv ?_
  case hx => walk_at "mem"
  case hd => walk_at "mem"
  case hg2 => k_is
  case hh2 => k_is
  case ha => k_is
  case hn => first | rfl | k_is
  case hl => exact ok.psh ln tL
  case hv => rfl
  intro tk
  refine' m_getPop (vs := strValues [c]) S ?hm ?_
  case hm => walk_at "mem"
  repeat (walk_at "m")
  refine' m_pop0 (vs := []) S ?U ?hz ?_
  case U => walk_at "at"
  case hz => exact Nat.le_of_ble_eq_true rfl
  clear S
  intro h S
  repeat (walk_at "m")
  subst hg
  exact q _ _ S.keptBut (fun p hp => (S.nw p hp).1)

theorem push_token {w : World} {b0 : Heap} {p : Program} {loose : List Str} {mg mb : Str → Option Value} {mean : ExcName → Option Value} (X0 : (hd2.heap_39 w.params).In b0) (T0 : Top p loose mean mg mb b0) {A : Around} (hroom : A.depth < 370)
    {h : Heap} {G : Array GenState} {D : Drawn} {tk : Nat} {O : OsState} {r : Rig} (ok : RigOk r) {k : Nat} {tA : Tok} {ln : Int} {tL : Tok} {c : Str × Tok} (hpb : r.pb = []) (hown : ∀ p ∈ r.own k tA ln tL, h.get? p.1 = some p.2) (hnd : (keys (r.own k tA ln tL)).Nodup)
    (hb : b0.StaysIn (gOf h (r.own k tA ln tL))) {R : Result → Shared → Prop} (q : ∀ h' tk', (∀ b o, h.get? b = some o → b ∉ keys (r.own k tA ln tL) → h'.get? b = some o) → (∀ p ∈ (r.with [c] (r.nP + 1)).own k tA ln tL, h'.get? p.1 = some p.2) → R (.ok (.ret .none)) ⟨h', G, D, tk', O⟩) :
    codeAny (model PySem.Challenge.rw_km0063_02.row.prog w) A (.call (.ref 77) ⟨[.ref r.xL, .str c.1 c.2], []⟩) R ⟨h, G, D, tk, O⟩ := by
  have hb' : b0.StaysIn h := fun b o e => gOf_get (hb b o e)
  have _kf : (hd2.heap_39 w.params).In b0 ∧ PySem.Challenge.rw_km0063_02 = PySem.Challenge.rw_km0063_02 := by (k_fill; exact ⟨X0, rfl⟩)
  clear _kf
  refine' m_enter (own := r.own k tA ln tL) X0 T0.nolimit hb' hown hnd ?ho ?hcd ?hr ?hbind ?hloc ?hcell ?hco ?hgen ?hk ?_
  case ho => k_is
  case hcd => k_is
  case hr => have : (500:Nat) < recursionLimit := by decide
             omega
  case hbind => exact BindsTo.of_eq rfl
  case hloc => exact locs rfl
  case hcell => decide
  case hco => rfl
  case hgen => rfl
  case hk => rfl
  intro L h₁ tk₁ hL hk S
  have X := X0.keeps hb
  have T := topRead_of (T0.keeps hb)
  replace S := S.low (lo' := [("self", .ref r.xL), ("token", .str c.1 c.2)]) (lo_cons rfl (lo_cons rfl lo_nil))
  clear hL
  generalize hg : gOf h (r.own k tA ln tL) = g at S X T
  rw [show r.own k tA ln tL = (r.with [] r.nP).own k tA ln tL by show r.own k tA ln tL = _; unfold Rig.own; rw [hpb]] at S
  repeat (walk_at "m")
  refine' m_getOwn (by assumption) X ?hx ?hd ?hg2 ?hh2 ?ha ?hn ?hl ?hv ?_
  case hx => walk_at "mem"
  case hd => walk_at "mem"
  case hg2 => k_is
  case hh2 => k_is
  case ha => k_is
  case hn => first | rfl | k_is
  case hl => exact ok.psh ln tL
  case hv => rfl
  intro tk
  refine' m_getAppend (vs := strValues []) S ?hm ?_
  case hm => walk_at "mem"
  repeat (walk_at "m")
  subst hg
  exact q _ _ S.keptBut (fun p hp => (S.nw p hp).1)
end Mine

namespace Mine
open PySem PySem.W PySem.Spec PySem.Calls PyProof.Rows

def addNl (l : List Str) (ln : Int) : Int := l.foldl (fun n c => lnOf c n) ln
theorem addNl_append (l m : List Str) (n : Int) : addNl (l ++ m) n = addNl m (addNl l n) := by
  unfold addNl
  rw [List.foldl_append]
def kindsW : List Str := ["machine", "n", "login", "password", "default", "", "account", "a \"b", "'n\x0c'", "#", "machine\n", "\\"]
def piecesW : List Str := ["machine\n", "\"n\"", "login ", "\"password\"", "default\n", "\"\"", "account ", "\"a \\\"b\"", "'n\x0c'\n", "\"#\"", "machine\\\n ", "\"\\\\\""]
def wordOf (f : Nat) : Str := kindsW.getD f Str.empty
def pieceOf (f : Nat) : Str := piecesW.getD f Str.empty
theorem piece_run (f : Nat) (hf : f < 12) (r : List Str) (k : Nat) (ln : Int) : run (signs (pieceOf f) ++ r) .skip false Str.empty k ln = .tok (wordOf f) (k + (pieceOf f).length) (addNl (signs (pieceOf f)) ln) := by
  match f, hf with
  | 0, _ => kernel_rfl
  | 1, _ => kernel_rfl
  | 2, _ => kernel_rfl
  | 3, _ => kernel_rfl
  | 4, _ => kernel_rfl
  | 5, _ => kernel_rfl
  | 6, _ => kernel_rfl
  | 7, _ => kernel_rfl
  | 8, _ => kernel_rfl
  | 9, _ => kernel_rfl
  | 10, _ => kernel_rfl
  | 11, _ => kernel_rfl
  | n + 12, h => omega

def textOf : List Nat → Str
  | [] => Str.empty
  | f :: r => pieceOf f ++ textOf r
theorem signs_app (x y : Str) : signs (x ++ y) = signs x ++ signs y := by
  unfold signs
  rw [Str.cps_append, Array.toList_append, List.map_append]
theorem textOf_app (a b : List Nat) : textOf (a ++ b) = textOf a ++ textOf b := by
  induction a with
  | nil => exact (Str.empty_append _).symm
  | cons f r ih => show pieceOf f ++ textOf (r ++ b) = (pieceOf f ++ textOf r) ++ textOf b; rw [ih, Str.append_assoc]
theorem piece_len (f : Nat) : (pieceOf f).length ≤ 12 := by
  have key : ∀ f : Fin 13, (pieceOf f.val).length ≤ 12 := by decide +kernel
  rcases Nat.lt_or_ge f 13 with h | h
  · exact key ⟨f, h⟩
  · have : pieceOf f = Str.empty := by
      unfold pieceOf
      rw [List.getD_eq_getElem?_getD, List.getElem?_eq_none (by show 12 ≤ f; omega)]
      rfl
    rw [this]; decide
theorem textOf_len (l : List Nat) : (textOf l).length ≤ 12 * l.length := by
  induction l with
  | nil => exact Nat.le_refl 0
  | cons f r ih =>
    have h1 := piece_len f
    show (pieceOf f ++ textOf r).length ≤ _
    rw [Str.length_append, List.length_cons]
    omega
/-- where the word `i` begins -/
def posOf (fs : List Nat) (i : Nat) : Nat := (textOf (fs.take i)).length
def lnsOf (fs : List Nat) (i : Nat) : Int := addNl (signs (textOf (fs.take i))) 1
def wordAt (fs : List Nat) (i : Nat) : Str := match fs[i]? with
  | some f => wordOf f
  | none => Str.empty
def nxt (fs : List Nat) (i : Nat) : Nat := if i < fs.length then i + 1 else fs.length
theorem pos_le (fs : List Nat) (i : Nat) : posOf fs i ≤ (textOf fs).length := by
  have := textOf_app (fs.take i) (fs.drop i)
  rw [List.take_append_drop] at this
  rw [this, Str.length_append]
  exact Nat.le_add_right _ _
theorem drop_pos (fs : List Nat) (i : Nat) : (signs (textOf fs)).drop (posOf fs i) = signs (textOf (fs.drop i)) := by
  have h := textOf_app (fs.take i) (fs.drop i)
  rw [List.take_append_drop] at h
  rw [h, signs_app, posOf, ← signs_length, List.drop_left]
/-- a read at the word `i` gives it, and stands at the next -/
theorem read_at (fs : List Nat) (hf : ∀ f ∈ fs, f < 12) (i : Nat) (hi : i ≤ fs.length) : run ((signs (textOf fs)).drop (posOf fs i)) .skip false Str.empty (posOf fs i) (lnsOf fs i) = .tok (wordAt fs i) (posOf fs (nxt fs i)) (lnsOf fs (nxt fs i)) := by
  rw [drop_pos]
  unfold nxt wordAt
  rcases Nat.lt_or_ge i fs.length with h | h
  · obtain ⟨f, hx⟩ : ∃ f, fs[i]? = some f := ⟨_, List.getElem?_eq_getElem h⟩
    have hd : fs.drop i = f :: fs.drop (i + 1) := by
      obtain ⟨h1, h2⟩ := List.getElem?_eq_some_iff.mp hx
      rw [List.drop_eq_getElem_cons h1, h2]
    have ht : fs.take (i + 1) = fs.take i ++ [f] := by rw [List.take_add_one, hx]; rfl
    have e1 : textOf [f] = pieceOf f := by show pieceOf f ++ Str.empty = _; exact Str.append_empty _
    rw [if_pos h, hx, hd]
    show run (signs (pieceOf f ++ textOf (fs.drop (i + 1)))) _ _ _ _ _ = _
    rw [signs_app, piece_run f (hf f (List.mem_of_getElem? hx))]
    unfold posOf lnsOf
    rw [ht, textOf_app, e1, signs_app, addNl_append, Str.length_append]
  · obtain rfl : i = fs.length := by omega
    rw [if_neg (Nat.lt_irrefl _), List.drop_length, List.getElem?_eq_none (Nat.le_refl _)]
    exact run_nil ..
end Mine

namespace Mine
open PySem PySem.W PySem.Spec PySem.Calls PyProof.Rows
set_option hygiene false in
local macro_rules | `(tactic| walk_at "m1") => `(tactic| (with_reducible refine' m_execs_one ?_))

abbrev intV (cs : List (Nat × Tok)) : List Value := cs.map fun p => .int (p.1 : Int) p.2
def dfltF : List Nat := [0, 1, 2, 7, 3, 0, 4, 6, 11, 9, 1]
theorem noPy12 (z : Int) : Builtin.divisionGoesByPylong z 12 = false := by
  unfold Builtin.divisionGoesByPylong
  simp only [show ((12 : Int) == 0) = false from rfl, Bool.false_eq_true, if_false]
  rw [show decide ((12 : Int).natAbs.log2 / 30 + 1 > 300) = false by decide +kernel, Bool.false_and]
theorem int_reads (h : Heap) : ∀ cs : List (Nat × Tok), ReadsAll h (intV cs) (cs.map fun c => PyData.int (c.1 : Int)) []
  | [] => .nil
  | c :: r => .cons (as := []) (.int _ _) (int_reads h r)
theorem int_lay : ∀ (cs : List (Nat × Tok)), PyData.canLayAll0 (cs.map fun c => PyData.int (c.1 : Int)) = true ∧ PyData.depthAll (cs.map fun c => PyData.int (c.1 : Int)) = 0
  | [] => ⟨rfl, rfl⟩
  | c :: r => by
    obtain ⟨h1, h2⟩ := int_lay r
    constructor
    · simp [PyData.canLayAll0, PyData.canLay0, h1]
    · simp [PyData.depthAll, PyData.depth, h2]
theorem int_shaped (cs : List (Nat × Tok)) : SeqAt.shaped (.list (cs.map fun c => PyData.int (c.1 : Int))) = true := by
  obtain ⟨h1, h2⟩ := int_lay cs
  have h3 : PyData.depth (.list (cs.map fun c => PyData.int (c.1 : Int))) ≤ 64 := by simp only [PyData.depth]; omega
  have h4 : PyData.canLay0 (.list (cs.map fun c => PyData.int (c.1 : Int))) = true := by simp only [PyData.canLay0, h1]
  simp only [SeqAt.shaped, h4, h3, Bool.true_and, decide_true]
theorem m_neNil {prog : Program} {w : World} {A : Around} {E : Value → Shared → Prop} {g h : Heap} {L l l0 : Addr} {lo : List (Str × Value)} {own : List (Addr × Obj)} {G : Array GenState} {D : Drawn} {tk : Nat} {O : OsState} {n : Nat} {cs : List (Nat × Tok)} {n0 : Nat} {Q : Value → Shared → Prop} (S : St g L h lo own) (h1 : (l, listOf (intV cs).toArray n) ∈ own) (h0 : (l0, listOf ([] : List Value).toArray n0) ∈ own) (hu : A.units < 600)
    (q : Q (.bool (!cs.isEmpty)) ⟨h, G, D, tk, O⟩) : wpAny (model prog w) A (compareOp .NotEq (.ref l) (.ref l0)) Q E ⟨h, G, D, tk, O⟩ := by
  refine m_ned (s := ⟨h, G, D, tk, O⟩) (reads_list_at (S.at h1) rfl rfl (int_reads h cs)) (reads_list_at (S.at h0) rfl rfl .nil) (int_shaped _) rfl (units_ok hu) ?_
  rw [show PyData.eqv (.list (cs.map fun c => PyData.int (c.1 : Int))) (.list []) = cs.isEmpty by cases cs <;> simp [PyData.eqv, PyData.eqvAll]]
  exact q

theorem law_figures {w : World} {b0 : Heap} {p : Program} {loose : List Str} {mg mb : Str → Option Value} {mean : ExcName → Option Value} (X0 : (hd2.heap_39 w.params).In b0) (T0 : Top p loose mean mg mb b0) {A : Around} (hroom : A.depth < 500) (hun : A.units < 500) (hh : A.handled = none)
    {h : Heap} {G : Array GenState} {D : Drawn} {tk : Nat} {O : OsState} {sA : Addr} {vs : List Value} {ns : List Int} (hl : h.IsList sA vs.toArray) (hi : IntsAre vs ns) (hb : b0.StaysIn h) {R : Result → Shared → Prop}
    (q : ∀ r h' tk' n cs, (∀ b o, h.get? b = some o → h'.get? b = some o) → h'.get? r = some (listOf (intV cs).toArray n) → h.get? r = none → cs ≠ [] → cs.length ≤ 14 → (∀ c ∈ cs, c.1 < 12) → R (.ok (.ret (.ref r))) ⟨h', G, D, tk', O⟩) :
    codeAny (model PySem.Challenge.rw_km0063_02.row.prog w) A (.call (.ref 91) ⟨[.ref sA], []⟩) R ⟨h, G, D, tk, O⟩ := by
  have _kf : (hd2.heap_39 w.params).In b0 ∧ PySem.Challenge.rw_km0063_02 = PySem.Challenge.rw_km0063_02 := by (k_fill; exact ⟨X0, rfl⟩)
  clear _kf
  refine' m_enter (own := []) X0 T0.nolimit hb ?_ ?_ ?ho ?hcd ?hr ?hbind ?hloc ?hcell ?hco ?hgen ?hk ?_
  case ho => k_is
  case hcd => k_is
  case hr => have : (500:Nat) < recursionLimit := by decide
             omega
  case hbind => exact BindsTo.of_eq rfl
  case hloc => exact locs rfl
  case hcell => decide
  case hco => rfl
  case hgen => rfl
  case hk => rfl
  · intro p hp; cases hp
  · simp
  intro L h₁ tk₁ hL hk S
  have hbg : b0.StaysIn (gOf h []) := fun b o e => gOf_keep (hb b o e) (fun z => nomatch z)
  have X := X0.keeps hbg
  have T := topRead_of (T0.keeps hbg)
  replace S := S.low (lo' := [("script", .ref sA)]) (lo_cons rfl lo_nil)
  have hlg : (gOf h []).IsList sA vs.toArray := by
    obtain ⟨o, ho, r⟩ := hl
    exact ⟨o, gOf_keep ho (fun z => nomatch z), r⟩
  clear hL
  generalize hg : gOf h [] = g at S X T hlg
  repeat (walk_at "m")
  obtain ⟨lc, hlc⟩ : ∃ x, x = l := ⟨l, rfl⟩
  rw [← hlc] at S
  clear hlc
  refine' wpAny_For ?_ ?hfs
  case hfs => intro _; rfl
  repeat (walk_at "m")
  refine' m_iterG (by assumption) hlg ?_
  clear S
  intro it h S
  refine' m_forJ (fun n s' => ∃ (h : Heap) (tk i : Nat) (cs : List (Nat × Tok)) (nn : Nat), s' = ⟨h, G, D, tk, O⟩ ∧ n = vs.length - i ∧ i ≤ vs.length ∧ cs.length ≤ 14 ∧ (∀ c ∈ cs, c.1 < 12) ∧
    St g L h [("figures", .ref lc)] [(it, iterOf sA i), (lc, listOf (intV cs).toArray nn)]) ?turn vs.length ?init ?ht
  case ht => intro _; rfl
  case init => exact ⟨h, _, 0, [], 0, rfl, rfl, Nat.zero_le _, by decide, (fun c hc => nomatch hc), S.low (lo_cons rfl lo_nil)⟩
  clear S
  rintro n s' ⟨h, tk, i, cs, nn, rfl, hn, hi2, hcl, hck, S⟩ J Q1 E1 hJ hQ1 hE1
  clear hE1
  rcases Nat.lt_or_ge i vs.length with hlt | hge
  · obtain ⟨z, tz, hz⟩ := intsAre_at hi hlt
    refine' m_nextG (by assumption) At.here hlg hz ?_
    clear S
    intro h S
    repeat (walk_at "m")
    refine' m_pow (by decide) (by decide) (by decide) ?_
    intro t tk
    refine' m_mod (by decide) ?_
    intro t tk
    obtain ⟨rs, hrs⟩ : ∃ rs, rs = (if z < 0 then -z else z).fmod (12 ^ (14 : Int).toNat) := ⟨_, rfl⟩
    rw [← hrs]
    have h0 : 0 ≤ rs := by rw [hrs]; exact fmod_nonneg14 _ (by decide)
    clear hrs
    repeat (walk_at "m")
    refine' wpAny_While (m_whileJ (fun n2 s' => ∃ (h : Heap) (tk : Nat) (cs : List (Nat × Tok)) (nn : Nat) (rs : Int) (tr : Tok), s' = ⟨h, G, D, tk, O⟩ ∧ n2 = 14 - cs.length ∧ cs.length ≤ 14 ∧ (∀ c ∈ cs, c.1 < 12) ∧ 0 ≤ rs ∧
      St g L h [("rest", .int rs tr), ("figures", .ref lc)] [(it, iterOf sA (i + 1)), (lc, listOf (intV cs).toArray nn)]) ?turnw (14 - cs.length) ?initw)
    case initw => exact ⟨h, _, cs, nn, rs, _, rfl, rfl, hcl, hck, h0, S.low (lo_cons rfl (lo_cons rfl lo_nil))⟩
    clear S hcl hck h0
    rintro n2 s' ⟨h, tk, cs, nn, rs, tr, rfl, hn2, hcl, hck, h0, S⟩ J2 Q2 E2 hJ2 hQ2 hE2
    clear hE2
    repeat (walk_at "m")
    apply m_if <;> intro hl24
    · rw [List.length_map] at hl24
      repeat (walk_at "m")
      refine' m_mod (by decide) ?_
      intro t tk
      have hf0 : 0 ≤ rs.fmod 12 := fmod_nonneg14 _ (by decide)
      have hf1 : rs.fmod 12 < 12 := Int.fmod_lt_of_pos _ (by decide)
      obtain ⟨c, hc⟩ : ∃ c : Nat × Tok, c = ((rs.fmod 12).toNat, t) := ⟨_, rfl⟩
      have hcv : intV [c] = [.int (rs.fmod 12) t] := by rw [hc]; show [Value.int (((rs.fmod 12).toNat : Nat) : Int) t] = _; rw [Int.toNat_of_nonneg hf0]
      have hc12 : c.1 < 12 := by rw [hc]; show (rs.fmod 12).toNat < 12; omega
      repeat (walk_at "m")
      rw [← hcv, show intV cs ++ intV [c] = intV (cs ++ [c]) by simp [intV]] at S
      refine' m_ifdiv (by decide) (noPy12 _) ?_
      intro t tk
      have h1 : 0 ≤ rs.fdiv 12 := Int.fdiv_nonneg h0 (by decide)
      have hck2 : ∀ x ∈ cs ++ [c], x.1 < 12 := fun x hx => by
        rcases List.mem_append.mp hx with hx | hx
        · exact hck x hx
        · rcases List.mem_singleton.mp hx with rfl
          exact hc12
      have hcl2 : (cs ++ [c]).length ≤ 14 := by rw [List.length_append]; simp; omega
      repeat (walk_at "m")
      apply m_ifb <;> intro hz0
      · repeat (walk_at "m")
        refine' hQ2 _ _ ?_
        repeat (walk_at "m")
        exact hJ (vs.length - (i + 1)) _ (by omega) ⟨_, _, i + 1, cs ++ [c], _, rfl, rfl, hlt, hcl2, hck2, S.low (lo_cons rfl lo_nil)⟩
      · repeat (walk_at "m")
        exact hJ2 (14 - (cs ++ [c]).length) _ (by rw [List.length_append]; simp; omega) ⟨_, _, cs ++ [c], _, rs.fdiv 12, _, rfl, rfl, hcl2, hck2, h1, S.low (lo_cons rfl (lo_cons rfl lo_nil))⟩
    · repeat (walk_at "m")
      refine' hQ2 _ _ ?_
      repeat (walk_at "m")
      exact hJ (vs.length - (i + 1)) _ (by omega) ⟨_, _, i + 1, cs, _, rfl, rfl, hlt, hcl, hck, S.low (lo_cons rfl lo_nil)⟩
  · refine' m_nextEndG (by assumption) ?hh hlg (List.getElem?_eq_none_iff.mpr hge) ?_
    case hh => exact hh
    clear S
    intro h S
    repeat (walk_at "m")
    refine' hQ1 _ _ ?_
    repeat (walk_at "m")
    refine' m_neNil S ?h1 ?h0 ?hu ?_
    case h1 => walk_at "mem"
    case h0 => walk_at "mem"
    case hu => show A.units + 3 < 600; omega
    repeat (walk_at "m")
    apply m_ifb <;> intro he
    · repeat (walk_at "m")
      subst hg
      obtain ⟨z1, z2⟩ := S.made (p := (lc, listOf (intV cs).toArray nn)) (by walk_at "mem") (fun z => nomatch z)
      exact q lc _ _ nn cs (S.back (fun p hp => nomatch hp) (fun p hp => nomatch hp)) z1 z2 (by rintro rfl; simp at he) hcl hck
    · repeat (walk_at "m")
      subst hg
      dsimp only
      obtain ⟨ds, hds, S⟩ : ∃ ds : List (Nat × Tok), ds.map (·.1) = dfltF ∧ St (gOf _ []) L h _ ((l, listOf (intV ds).toArray 0) :: _) := by
        refine ⟨[(_, _), (_, _), (_, _), (_, _), (_, _), (_, _), (_, _), (_, _), (_, _), (_, _), (_, _)], ?_, S⟩
        with_unfolding_all rfl
      obtain ⟨z1, z2⟩ := S.made (p := (l, listOf (intV ds).toArray 0)) (.head _) (fun z => nomatch z)
      have hdl : ds.length = 11 := by have := congrArg List.length hds; simpa [dfltF] using this
      exact q l _ _ 0 ds (S.back (fun p hp => nomatch hp) (fun p hp => nomatch hp)) z1 z2 (by rintro rfl; cases hdl) (by omega) (fun c hc => by
        have h1 : c.1 ∈ dfltF := hds ▸ List.mem_map_of_mem (f := (·.1)) hc
        have h2 : ∀ x ∈ dfltF, x < 12 := by decide
        exact h2 _ h1)
end Mine

namespace Mine
open PySem PySem.W PySem.Spec PySem.Calls PyProof.Rows
set_option hygiene false in
local macro_rules | `(tactic| walk_at "m1") => `(tactic| (with_reducible refine' m_execs_one ?_))
set_option hygiene false in
local macro_rules | `(tactic| walk_at "mq") => `(tactic| first | (with_reducible refine' m_strL ?_; intro tk etk) | walk_at "m")

theorem m_strL {prog : Program} {w : World} {A : Around} {E : Value → Shared → Prop} {h : Heap} {G : Array GenState} {D : Drawn} {tk : Nat} {O : OsState} {x : Str} {k : Nat} {pos : Pos} {env : Env} {Q : Value → Shared → Prop} (q : ∀ tk', tk < tk' → Q (.str x tk) ⟨h, G, D, tk', O⟩) : wpAny (model prog w) A (eval (.Constant (.str x) k pos) env) Q E ⟨h, G, D, tk, O⟩ := m_strT fun tk' e => q tk' (by rw [e]; exact Nat.lt_succ_self _)
def endsV (fs : List Nat) (ts : List Tok) : List Value := ts.mapIdx fun i t => .int ((posOf fs (i + 1) : Nat) : Int) t

def specL : Str := "\"\\ \t\r\n"
def escS (c : Str) : Str := if inS specL c then bs ++ c else c
def escL (l : List Str) : Str := l.foldl (fun t c => t ++ escS c) Str.empty
theorem escL_snoc (l : List Str) (c : Str) : escL (l ++ [c]) = escL l ++ escS c := by
  unfold escL
  rw [List.foldl_append]
  rfl
theorem escL_len (l : List Str) (h1 : ∀ c ∈ l, c.length = 1) : (escL l).length ≤ 2 * l.length := by
  have key : ∀ (l : List Str) (T : Str), (∀ c ∈ l, c.length = 1) → (l.foldl (fun t c => t ++ escS c) T).length ≤ T.length + 2 * l.length := by
    intro l
    induction l with
    | nil => intro T _; exact Nat.le_refl _
    | cons c r ih =>
      intro T h
      have hc := h c (.head _)
      have hb : bs.length = 1 := by decide +kernel
      have h2 : (escS c).length ≤ 2 := by
        unfold escS
        split
        · rw [Str.length_append]; omega
        · omega
      have h3 := ih (T ++ escS c) (fun x hx => h x (.tail _ hx))
      rw [Str.length_append] at h3
      simp only [List.foldl_cons, List.length_cons]
      omega
  have := key l Str.empty h1
  have e : Str.empty.length = 0 := rfl
  unfold escL
  omega
theorem signs_one (x : Str) : ∀ c ∈ signs x, c.length = 1 := fun c hc => by
  unfold signs at hc
  obtain ⟨n, _, rfl⟩ := List.mem_map.mp hc
  rfl
theorem quoted_piece (f : Nat) (hf : f < 12) (h : ((f : Int).fmod 2 == 1) = true) : Str.ofString "\"" ++ Txt.replace (Txt.replace (wordOf f) (Str.ofString "\\") (Str.ofString "\\\\")) (Str.ofString "\"") (Str.ofString "\\\"") ++ Str.ofString "\"" = pieceOf f := by
  have key : ∀ f : Fin 12, ((f.val : Int).fmod 2 == 1) = true → Str.ofString "\"" ++ Txt.replace (Txt.replace (wordOf f.val) (Str.ofString "\\") (Str.ofString "\\\\")) (Str.ofString "\"") (Str.ofString "\\\"") ++ Str.ofString "\"" = pieceOf f.val := by decide +kernel
  exact key ⟨f, hf⟩ h
theorem rep_len1 (f : Nat) (hf : f < 12) : (Txt.replace (wordOf f) (Str.ofString "\\") (Str.ofString "\\\\")).length ≤ 30 := by
  have key : ∀ f : Fin 12, (Txt.replace (wordOf f.val) (Str.ofString "\\") (Str.ofString "\\\\")).length ≤ 30 := by decide +kernel
  exact key ⟨f, hf⟩
theorem plain_piece (f : Nat) (hf : f < 12) (h : ((f : Int).fmod 2 == 1) = false) : (wordOf f == Str.ofString "") = false ∧ (wordOf f).cps.all (· < 128) = true ∧ escL (signs (wordOf f)) ++ (if ((f : Int).fmod 4 == 0) = true then Str.ofString "\n" else Str.ofString " ") = pieceOf f := by
  have key : ∀ f : Fin 12, ((f.val : Int).fmod 2 == 1) = false → (wordOf f.val == Str.ofString "") = false ∧ (wordOf f.val).cps.all (· < 128) = true ∧ escL (signs (wordOf f.val)) ++ (if ((f.val : Int).fmod 4 == 0) = true then Str.ofString "\n" else Str.ofString " ") = pieceOf f.val := by decide +kernel
  exact key ⟨f, hf⟩ h
theorem word_len (f : Nat) : (wordOf f).length ≤ 8 := by
  have key : ∀ f : Fin 13, (wordOf f.val).length ≤ 8 := by decide +kernel
  rcases Nat.lt_or_ge f 13 with h | h
  · exact key ⟨f, h⟩
  · have : wordOf f = Str.empty := by
      unfold wordOf
      rw [List.getD_eq_getElem?_getD, List.getElem?_eq_none (by show 12 ≤ f; omega)]
      rfl
    rw [this]; decide
theorem endsV_snoc (fs : List Nat) (ts : List Tok) (t : Tok) : endsV fs (ts ++ [t]) = endsV fs ts ++ [.int ((posOf fs (ts.length + 1) : Nat) : Int) t] := by
  unfold endsV
  rw [List.mapIdx_append]
  simp [Nat.add_comm]
theorem endsV_len (fs : List Nat) (ts : List Tok) : (endsV fs ts).length = ts.length := by simp [endsV]
theorem text_snoc {fs : List Nat} {i f : Nat} (h : fs[i]? = some f) : textOf (fs.take (i + 1)) = textOf (fs.take i) ++ pieceOf f := by
  rw [List.take_add_one, h]
  show textOf (fs.take i ++ [f]) = _
  rw [textOf_app]
  show _ ++ (pieceOf f ++ Str.empty) = _
  rw [Str.append_empty]

theorem law_written {w : World} {b0 : Heap} {p : Program} {loose : List Str} {mg mb : Str → Option Value} {mean : ExcName → Option Value} (X0 : (hd2.heap_39 w.params).In b0) (T0 : Top p loose mean mg mb b0) {A : Around} (hroom : A.depth < 500) (hun : A.units < 500) (hh : A.handled = none)
    {h : Heap} {G : Array GenState} {D : Drawn} {tk : Nat} {O : OsState} {wA fA : Addr} {nw nf : Nat} {ws : List (Str × Tok)} {cs : List (Nat × Tok)} (hws : ws.map (·.1) = (cs.map (·.1)).map wordOf) (hcl : cs.length ≤ 14) (hck : ∀ c ∈ cs, c.1 < 12)
    (hown : ∀ p ∈ [(wA, listOf (strValues ws).toArray nw), (fA, listOf (intV cs).toArray nf)], h.get? p.1 = some p.2) (hne : wA ≠ fA) (hb : b0.StaysIn (gOf h [(wA, listOf (strValues ws).toArray nw), (fA, listOf (intV cs).toArray nf)])) {R : Result → Shared → Prop}
    (q : ∀ r le h' tk' n t ts, (∀ b o, h.get? b = some o → h'.get? b = some o) → ts.length = cs.length → h'.get? r = some (tupOf [.str (textOf (cs.map (·.1))) t, .ref le]) → h.get? r = none → h'.get? le = some (listOf (endsV (cs.map (·.1)) ts).toArray n) → h.get? le = none → r ≠ le → R (.ok (.ret (.ref r))) ⟨h', G, D, tk', O⟩) :
    codeAny (model PySem.Challenge.rw_km0063_02.row.prog w) A (.call (.ref 98) ⟨[.ref wA, .ref fA], []⟩) R ⟨h, G, D, tk, O⟩ := by
  have hb' : b0.StaysIn h := fun b o e => gOf_get (hb b o e)
  have _kf : (hd2.heap_39 w.params).In b0 ∧ PySem.Challenge.rw_km0063_02 = PySem.Challenge.rw_km0063_02 := by (k_fill; exact ⟨X0, rfl⟩)
  clear _kf
  refine' m_enter (own := [(wA, listOf (strValues ws).toArray nw), (fA, listOf (intV cs).toArray nf)]) X0 T0.nolimit hb' hown ?_ ?ho ?hcd ?hr ?hbind ?hloc ?hcell ?hco ?hgen ?hk ?_
  case ho => k_is
  case hcd => k_is
  case hr => have : (500:Nat) < recursionLimit := by decide
             omega
  case hbind => exact BindsTo.of_eq rfl
  case hloc => exact locs rfl
  case hcell => decide
  case hco => rfl
  case hgen => rfl
  case hk => rfl
  · simp [hne]
  intro L h₁ tk₁ hL hk S
  have X := X0.keeps hb
  have T := topRead_of (T0.keeps hb)
  replace S := S.low (lo' := [("words", .ref wA), ("figures", .ref fA)]) (lo_cons rfl (lo_cons rfl lo_nil))
  clear hL
  generalize hg : gOf h [(wA, listOf (strValues ws).toArray nw), (fA, listOf (intV cs).toArray nf)] = g at S X T
  obtain ⟨fs, hfs0⟩ : ∃ fs, fs = cs.map (·.1) := ⟨_, rfl⟩
  have hfl : fs.length = cs.length := by rw [hfs0, List.length_map]
  have hwl : ws.length = cs.length := by have := congrArg List.length hws; simpa using this
  have hwz : Unit → (strValues ws).length ≤ sizeLine := fun _ => small_fit (by rw [sv_len]; omega)
  have hiz : Unit → (intV cs).length ≤ sizeLine := fun _ => small_fit (by rw [List.length_map]; omega)
  repeat (walk_at "m")
  refine' wpAny_For ?_ ?hfs
  case hfs => intro _; rfl
  repeat (walk_at "m")
  refine' m_range1 (by assumption) ?_
  clear S
  intro ra rt rv h tk S
  rw [sv_len] at S
  refine' m_rangeIter (by assumption) (.head _) (rng_small (hwl ▸ Nat.le_trans hcl (by decide))) ?_
  clear S
  intro it h S
  rw [rangeSize_one] at S
  have hisz : (if (0 : Int) < (ws.length : Int) then (ws.length : Int) - 0 else 0) = ((ws.length : Nat) : Int) := rng_if _
  rw [hisz] at S
  obtain ⟨le, hle⟩ : ∃ x, x = l := ⟨l, rfl⟩
  rw [← hle] at S
  replace S := S.drop2
  rw [show (ws.length : Int) = ((cs.length : Nat) : Int) by rw [hwl]] at S
  refine' m_forJ (fun n s' => ∃ (h : Heap) (tk i nn : Nat) (t : Tok) (ts : List Tok), s' = ⟨h, G, D, tk, O⟩ ∧ n = cs.length - i ∧ i ≤ cs.length ∧ ts.length = i ∧
    St g L h [("ends", .ref le), ("text", .str (textOf (fs.take i)) t), ("words", .ref wA), ("figures", .ref fA)] ((it, rangeIt (i : Nat) ((cs.length - i : Nat) : Int)) :: (le, listOf (endsV fs ts).toArray nn) :: [(wA, listOf (strValues ws).toArray nw), (fA, listOf (intV cs).toArray nf)])) ?turn cs.length ?init ?ht
  case ht => intro _; rfl
  case init => exact ⟨h, _, 0, 0, _, [], rfl, rfl, Nat.zero_le _, rfl, S⟩
  clear S
  rintro n s' ⟨h, tk, i, nn, tx, ts, rfl, hn, hi, hts, S⟩ J Q1 E1 hJ hQ1 hE1
  clear hE1
  rcases Nat.lt_or_ge i cs.length with hlt | hge
  · refine' m_rangeNext (y := ((i : Nat) : Int)) (left := ((cs.length - i : Nat) : Int)) S .here (left_pos hlt) ?_
    clear S
    intro ti h tk S
    rw [show ((i : Nat) : Int) + 1 = ((i + 1 : Nat) : Int) from nat_succ i, show ((cs.length - i : Nat) : Int) - 1 = ((cs.length - (i + 1) : Nat) : Int) from left_pred hlt] at S
    repeat (walk_at "m")
    obtain ⟨c, hc⟩ : ∃ c, cs[i]? = some c := ⟨_, List.getElem?_eq_getElem hlt⟩
    have hc12 := hck c (List.mem_of_getElem? hc)
    have hfi : fs[i]? = some c.1 := by rw [hfs0, List.getElem?_map, hc]; rfl
    obtain ⟨wd, hwd⟩ : ∃ wd, ws[i]? = some wd := ⟨_, List.getElem?_eq_getElem (by omega)⟩
    have hww : wd.1 = wordOf c.1 := by
      have := congrArg (fun l => l[i]?) hws
      simp only [List.getElem?_map, hc, hwd, Option.map_some] at this
      exact Option.some.inj this
    have hwl8 := word_len c.1
    have hez : Unit → (endsV fs ts).length ≤ sizeLine := fun _ => small_fit (by rw [endsV_len]; omega)
    have htl : (textOf (fs.take i)).length ≤ 168 := Nat.le_trans (textOf_len _) (take_168 hfl hcl)
    have htl2 : (textOf (fs.take (i + 1))).length ≤ 168 := Nat.le_trans (textOf_len _) (take_168 hfl hcl)
    have hmod : ((i : Nat) : Int).fmod ((intV cs).length : Int) = i := by
      rw [List.length_map, Int.fmod_eq_emod_of_nonneg _ (by omega)]
      exact Int.emod_eq_of_lt (by omega) (by omega)
    refine' m_mod ?hn0 ?_
    case hn0 => rw [List.length_map]; omega
    intro t tk
    rw [hmod]
    repeat (walk_at "m")
    refine' m_idx (x := .int (c.1 : Int) c.2) S ?hm ?hz ?h0 ?hx ?hs ?_
    case hm => walk_at "mem"
    case hz => exact hiz ()
    case h0 => exact nat_nonneg _
    case hx => rw [Int.toNat_natCast, List.getElem?_map, hc]; rfl
    case hs => with_unfolding_all rfl
    repeat (walk_at "m")
    refine' m_mod (by decide) ?_
    intro t tk
    repeat (walk_at "m")
    apply m_ifb <;> intro hodd
    · have hpc := quoted_piece c.1 hc12 hodd
      have hl1 : (Str.ofString "\"").length = 1 := by decide +kernel
      have hpl := piece_len c.1
      repeat (walk_at "mq")
      refine' m_idx (x := .str wd.1 wd.2) S ?hm ?hz ?h0 ?hx ?hs ?_
      case hm => walk_at "mem"
      case hz => exact hwz ()
      case h0 => exact nat_nonneg _
      case hx => rw [Int.toNat_natCast, sv_get, hwd]; rfl
      case hs => with_unfolding_all rfl
      rw [hww]
      refine' m_getReplace ?_
      repeat (walk_at "mq")
      refine' m_replaceT ?hu1 ?hv1 ?hd1 (by decide +kernel) (Nat.le_trans hwl8 (by decide)) (by decide +kernel) ?_
      case hu1 => exact nz_of_lt (by assumption)
      case hv1 => exact nz_of_lt (by assumption)
      case hd1 => exact Nat.ne_of_lt (by assumption)
      intro tr1 tk hle1
      obtain ⟨x1, hx1⟩ : ∃ x1, x1 = Txt.replace (wordOf c.1) (Str.ofString "\\") (Str.ofString "\\\\") := ⟨_, rfl⟩
      rw [← hx1] at hpc ⊢
      have hx1l : x1.length ≤ 30 := by rw [hx1]; exact rep_len1 c.1 hc12
      refine' m_getReplace ?_
      repeat (walk_at "mq")
      refine' m_replaceT ?hu2 ?hv2 ?hd2 (by decide +kernel) (Nat.le_trans hx1l (by decide)) (by decide +kernel) ?_
      case hu2 => exact nz_of_le (by assumption) hle1
      case hv2 => exact nz_of_lt (by assumption)
      case hd2 => exact Nat.ne_of_lt (by assumption)
      intro tr2 tk hle2
      obtain ⟨x2, hx2⟩ : ∃ x2, x2 = Txt.replace x1 (Str.ofString "\"") (Str.ofString "\\\"") := ⟨_, rfl⟩
      rw [← hx2] at hpc ⊢
      have hx2l : x2.length ≤ 12 := by
        have := congrArg Str.length hpc
        rw [Str.length_append, Str.length_append] at this
        exact mid_le this hpl
      repeat (walk_at "m")
      rw [hpc]
      repeat (walk_at "m")
      rw [← text_snoc hfi] at S ⊢
      refine' m_lenStr ?hz6 ?_
      case hz6 => exact Nat.lt_of_le_of_lt htl2 (by decide)
      intro t6 tk
      repeat (walk_at "m")
      refine' m_append S ?U7 ?hz7 ?_
      case U7 => walk_at "at"
      case hz7 => exact hez ()
      clear S
      intro h S
      repeat (walk_at "m")
      have hev : endsV fs ts ++ [.int ((textOf (fs.take (i + 1))).length : Int) t6] = endsV fs (ts ++ [t6]) := by rw [endsV_snoc, hts]; rfl
      rw [hev] at S
      exact hJ (cs.length - (i + 1)) _ (lt_turn hn hlt) ⟨_, _, i + 1, _, _, ts ++ [t6], rfl, rfl, hlt, by rw [List.length_append, hts]; rfl, S.low (lo_cons rfl (lo_cons rfl (lo_cons rfl (lo_cons rfl lo_nil))))⟩
    · obtain ⟨hne0, hasc, hpc⟩ := plain_piece c.1 hc12 hodd
      have hpl := piece_len c.1
      repeat (walk_at "m")
      refine' m_idx (x := .str wd.1 wd.2) S ?hm ?hz ?h0 ?hx ?hs ?_
      case hm => walk_at "mem"
      case hz => exact hwz ()
      case h0 => exact nat_nonneg _
      case hx => rw [Int.toNat_natCast, sv_get, hwd]; rfl
      case hs => with_unfolding_all rfl
      repeat (walk_at "m")
      rw [hww, hne0]
      repeat (walk_at "m")
      refine' wpAny_For ?_ ?hfs2
      case hfs2 => intro _; rfl
      repeat (walk_at "m")
      refine' m_idx (x := .str wd.1 wd.2) S ?hm ?hz ?h0 ?hx ?hs ?_
      case hm => walk_at "mem"
      case hz => exact hwz ()
      case h0 => exact nat_nonneg _
      case hx => rw [Int.toNat_natCast, sv_get, hwd]; rfl
      case hs => with_unfolding_all rfl
      rw [hww]
      refine' m_iterS S hasc ?_
      clear S
      intro it2 h o HS S
      refine' m_forJ (fun n2 s' => ∃ (h : Heap) (tk j : Nat) (o : Obj) (t : Tok), s' = ⟨h, G, D, tk, O⟩ ∧ n2 = (wordOf c.1).length - j ∧ j ≤ (wordOf c.1).length ∧ StrIt o (wordOf c.1) wd.2 j ∧
        St g L h [("text", .str (textOf (fs.take i) ++ escL ((signs (wordOf c.1)).take j)) t), ("figure", .int (c.1 : Int) c.2), ("i", .int (i : Nat) ti), ("ends", .ref le), ("words", .ref wA), ("figures", .ref fA)] ((it2, o) :: (it, rangeIt ((i + 1 : Nat) : Int) ((cs.length - (i + 1) : Nat) : Int)) :: (le, listOf (endsV fs ts).toArray nn) :: [(wA, listOf (strValues ws).toArray nw), (fA, listOf (intV cs).toArray nf)])) ?turn2 (wordOf c.1).length ?init2 ?ht2
      case ht2 => intro _; rfl
      case init2 => exact ⟨h, _, 0, o, tx, rfl, rfl, Nat.zero_le _, HS, by rw [List.take_zero]; show St g L h [("text", .str (textOf (fs.take i) ++ Str.empty) tx), _, _, _, _, _] _; rw [Str.append_empty]; exact S.low (lo_cons rfl (lo_cons rfl (lo_cons rfl (lo_cons rfl (lo_cons rfl (lo_cons rfl lo_nil))))))⟩
      clear S HS o
      rintro n2 s' ⟨h, tk, j, o, t, rfl, hn2, hj, HS, S⟩ J2 Q2 E2 hJ2 hQ2 hE2
      clear hE2
      rcases Nat.lt_or_ge j (wordOf c.1).length with hjl | hjg
      · have hsg : (signs (wordOf c.1))[j]? = some ((signs (wordOf c.1))[j]'(by rw [signs_length]; exact hjl)) := List.getElem?_eq_getElem _
        obtain ⟨n, hcp, hnn⟩ : ∃ n, (wordOf c.1).cps[j]? = some n ∧ (signs (wordOf c.1))[j]? = some ⟨#[n]⟩ := by
          rw [signs_get] at hsg
          obtain ⟨n, h1, h2⟩ := Option.map_eq_some_iff.mp hsg
          exact ⟨n, h1, by rw [signs_get, h1]; rfl⟩
        clear hsg
        have hnx : escL ((signs (wordOf c.1)).take (j + 1)) = escL ((signs (wordOf c.1)).take j) ++ escS ⟨#[n]⟩ := by
          rw [List.take_add_one, hnn]
          exact escL_snoc _ _
        have hel : (escL ((signs (wordOf c.1)).take j)).length ≤ 2 * j := by
          refine Nat.le_trans (escL_len _ (fun x hx => signs_one _ x (List.mem_of_mem_take hx))) ?_
          rw [List.length_take]; omega
        have hn1 : (⟨#[n]⟩ : Str).length = 1 := rfl
        have hbl : (Str.ofString "\\").length = 1 := by decide +kernel
        refine' m_nextS S HS hcp ?_
        clear S HS
        intro tc h tk o' HS S
        repeat (walk_at "m")
        apply m_ifb <;> intro hin
        · repeat (walk_at "m")
          refine' m_iadds ?hz9 ?_
          case hz9 => exact tot_ok (by rw [Str.length_append, Str.length_append]; omega)
          intro t9 tk
          repeat (walk_at "m")
          have e9 : escS ⟨#[n]⟩ = Str.ofString "\\" ++ ⟨#[n]⟩ := by
            unfold escS
            rw [if_pos (show inS specL ⟨#[n]⟩ = true from hin)]
            rfl
          rw [Str.append_assoc, ← e9, ← hnx] at S
          exact hJ2 ((wordOf c.1).length - (j + 1)) _ (lt_turn hn2 hjl) ⟨_, _, j + 1, o', _, rfl, rfl, hjl, HS, S.low (lo_cons rfl (lo_cons rfl (lo_cons rfl (lo_cons rfl (lo_cons rfl (lo_cons rfl lo_nil))))))⟩
        · repeat (walk_at "m")
          refine' m_iadds ?hz9 ?_
          case hz9 => exact tot_ok (by rw [Str.length_append]; omega)
          intro t9 tk
          repeat (walk_at "m")
          have e9 : escS ⟨#[n]⟩ = ⟨#[n]⟩ := by
            unfold escS
            rw [if_neg (by intro z; have : inS specL ⟨#[n]⟩ = false := hin; rw [this] at z; cases z)]
          rw [Str.append_assoc, ← e9, ← hnx] at S
          exact hJ2 ((wordOf c.1).length - (j + 1)) _ (lt_turn hn2 hjl) ⟨_, _, j + 1, o', _, rfl, rfl, hjl, HS, S.low (lo_cons rfl (lo_cons rfl (lo_cons rfl (lo_cons rfl (lo_cons rfl (lo_cons rfl lo_nil))))))⟩
      · obtain rfl : j = (wordOf c.1).length := by omega
        have hall : (signs (wordOf c.1)).take (wordOf c.1).length = signs (wordOf c.1) := List.take_of_length_le (by rw [signs_length]; exact Nat.le_refl _)
        refine' m_endS S ?hh3 HS ?hx3 ?_
        case hh3 => exact hh
        case hx3 => exact Array.getElem?_eq_none (Nat.le_refl _)
        clear S HS
        intro h S
        rw [hall] at S
        have hel : (escL (signs (wordOf c.1))).length ≤ 16 := Nat.le_trans (escL_len _ (signs_one _)) (by rw [signs_length]; omega)
        repeat (walk_at "m")
        refine' hQ2 _ _ ?_
        repeat (walk_at "m")
        refine' m_mod (by decide) ?_
        intro t10 tk
        repeat (walk_at "m")
        apply m_ifb <;> intro hf4
        · rw [hf4, if_pos rfl] at hpc
          have hl1 : (Str.ofString "\n").length = 1 := by decide +kernel
          repeat (walk_at "m")
          refine' m_iadds ?hz9 ?_
          case hz9 => exact tot_ok (by rw [Str.length_append]; omega)
          intro t9 tk
          repeat (walk_at "m")
          rw [Str.append_assoc, hpc, ← text_snoc hfi] at S ⊢
          refine' m_lenStr ?hz6 ?_
          case hz6 => exact Nat.lt_of_le_of_lt htl2 (by decide)
          intro t6 tk
          repeat (walk_at "m")
          refine' m_append S ?U7 ?hz7 ?_
          case U7 => walk_at "at"
          case hz7 => exact hez ()
          clear S
          intro h S
          repeat (walk_at "m")
          have hev : endsV fs ts ++ [.int ((textOf (fs.take (i + 1))).length : Int) t6] = endsV fs (ts ++ [t6]) := by rw [endsV_snoc, hts]; rfl
          rw [hev] at S
          exact hJ (cs.length - (i + 1)) _ (lt_turn hn hlt) ⟨_, _, i + 1, _, _, ts ++ [t6], rfl, rfl, hlt, by rw [List.length_append, hts]; rfl, S.low (lo_cons rfl (lo_cons rfl (lo_cons rfl (lo_cons rfl lo_nil))))⟩
        · rw [hf4, if_neg (by decide)] at hpc
          have hl1 : (Str.ofString " ").length = 1 := by decide +kernel
          repeat (walk_at "m")
          refine' m_iadds ?hz9 ?_
          case hz9 => exact tot_ok (by rw [Str.length_append]; omega)
          intro t9 tk
          repeat (walk_at "m")
          rw [Str.append_assoc, hpc, ← text_snoc hfi] at S ⊢
          refine' m_lenStr ?hz6 ?_
          case hz6 => exact Nat.lt_of_le_of_lt htl2 (by decide)
          intro t6 tk
          repeat (walk_at "m")
          refine' m_append S ?U7 ?hz7 ?_
          case U7 => walk_at "at"
          case hz7 => exact hez ()
          clear S
          intro h S
          repeat (walk_at "m")
          have hev : endsV fs ts ++ [.int ((textOf (fs.take (i + 1))).length : Int) t6] = endsV fs (ts ++ [t6]) := by rw [endsV_snoc, hts]; rfl
          rw [hev] at S
          exact hJ (cs.length - (i + 1)) _ (lt_turn hn hlt) ⟨_, _, i + 1, _, _, ts ++ [t6], rfl, rfl, hlt, by rw [List.length_append, hts]; rfl, S.low (lo_cons rfl (lo_cons rfl (lo_cons rfl (lo_cons rfl lo_nil))))⟩
  · obtain rfl : i = cs.length := by omega
    refine' m_rangeEnd S ?hh4 (by omega) ?_
    case hh4 => exact hh
    clear S
    intro h S
    repeat (walk_at "m")
    refine' hQ1 _ _ ?_
    repeat (walk_at "m")
    subst hg
    have S1 := S.pick (List.sublist_cons_self _ _)
    have hn1 : l ∉ keys [(wA, listOf (strValues ws).toArray nw), (fA, listOf (intV cs).toArray nf)] := fun hm => by
      rcases List.mem_cons.mp hm with z | hm
      · exact S.apart (.tail _ (.head _)) z
      · exact S.apart (.tail _ (.tail _ (.head _))) (List.mem_singleton.mp hm)
    have hn2 : le ∉ keys [(wA, listOf (strValues ws).toArray nw), (fA, listOf (intV cs).toArray nf)] := fun hm => by
      rcases List.mem_cons.mp hm with z | hm
      · exact S1.apart (.head _) z
      · exact S1.apart (.tail _ (.head _)) (List.mem_singleton.mp hm)
    have z1 := S.made (.head _) hn1
    have z2 := S.made (.tail _ (.head _)) hn2
    have htk : fs.take cs.length = cs.map (·.1) := by rw [List.take_of_length_le (by omega), hfs0]
    rw [htk] at z1
    refine q l le _ _ nn tx ts (S.back (fun p hp => .tail _ (.tail _ hp)) hown) hts z1.1 z1.2 ?_ z2.2 (S.apart (.head _))
    rw [← hfs0]
    exact z2.1
end Mine

namespace Mine
open PySem PySem.W PySem.Spec PySem.Calls PyProof.Rows

/-- the stream alone -/
structure RigOk0 (r : Rig) : Prop where
  a : r.oA.data = .cell (some (.ref r.lA))
  t : r.oT.data = .cell (some (.str r.text r.tT))
  cdf : ∃ vs t, r.oc.data = .fields vs ∧ vs[1]? = some (.str "_law_stream.<locals>._law_give" t)
  cla : r.cl.lookup ("at" : Str) = some r.cA
  clt : r.cl.lookup ("text" : Str) = some r.cT
  rd : getL "read" r.esS = some (some (.ref r.fG))
  len : r.text.length ≤ 900
abbrev Rig.news (r : Rig) : List (Addr × Obj) :=
  [(r.cA, r.oA), (r.cT, r.oT), (r.xS, instObj 80 r.dS), (r.dS, dictOf r.esS r.nS), (r.fG, fnMade "_law_give" "_law_stream.<locals>._law_give" gA gB gS r.cl r.doc r.pm r.cd r.ctv), (r.cd, r.oc)]

theorem law_stream {w : World} {b0 : Heap} {p : Program} {loose : List Str} {mg mb : Str → Option Value} {mean : ExcName → Option Value} (X0 : (hd2.heap_39 w.params).In b0) (T0 : Top p loose mean mg mb b0) {A : Around} (hroom : A.depth < 390)
    {h : Heap} {G : Array GenState} {D : Drawn} {tk : Nat} {O : OsState} {lA : Addr} {x : Str} {tx : Tok} {oL : Obj} (hx : x.length ≤ 900) (hown : ∀ p ∈ [(100, tabObj #[])], h.get? p.1 = some p.2) (hb : b0.StaysIn (gOf h [(100, tabObj #[])])) (hcd0 : CodeHd b0 104 100) {R : Result → Shared → Prop}
    (q : ∀ (r : Rig) h' tk' ps, RigOk0 r → r.text = x → r.lA = lA → (∀ b o, h.get? b = some o → b ∉ [100] → h'.get? b = some o) → h'.get? 100 = some (tabObj ps) → (∀ p ∈ r.news, h'.get? p.1 = some p.2 ∧ h.get? p.1 = none) → (keys r.news).Nodup → R (.ok (.ret (.ref r.xS))) ⟨h', G, D, tk', O⟩) :
    codeAny (model PySem.Challenge.rw_km0063_02.row.prog w) A (.call (.ref 105) ⟨[.str x tx, .ref lA], []⟩) R ⟨h, G, D, tk, O⟩ := by
  have hb' : b0.StaysIn h := fun b o e => gOf_get (hb b o e)
  have _kf : (hd2.heap_39 w.params).In b0 ∧ PySem.Challenge.rw_km0063_02 = PySem.Challenge.rw_km0063_02 := by (k_fill; exact ⟨X0, rfl⟩)
  clear _kf
  refine' m_enterC (n1 := "text") (n2 := "at") (v1 := .str x tx) (v2 := .ref lA) (own := [(100, tabObj #[])]) X0 T0.nolimit hb' hown ?_ ?ho ?hcd ?hr ?hbind ?hkind ?hc1 ?hc2 ?hv1 ?hv2 ?hco ?hgen ?hk ?_
  case ho => k_is
  case hcd => k_is
  case hr => have : (500:Nat) < recursionLimit := by decide
             omega
  case hbind => rfl
  case hkind => 
    intro L y hy
    rcases List.mem_cons.mp hy with rfl | hy
    · exact .inr ⟨rfl, rfl⟩
    · rcases List.mem_singleton.mp hy with rfl
      exact .inr ⟨rfl, rfl⟩
  case hc1 => intro L; rfl
  case hc2 => intro L; rfl
  case hv1 => intro L; rfl
  case hv2 => intro L; rfl
  case hco => rfl
  case hgen => rfl
  case hk => rfl
  · simp
  intro L h₁ tk₁ oT oA hL hk hoT hoA S
  have X := X0.keeps hb
  have T1 := T0.keeps hb
  have T := topRead_of T1
  have hcd := hcd0.keeps hb
  clear hL
  generalize hg : gOf h [(100, tabObj #[])] = g at S X T T1 hcd
  repeat (walk_at "m")
  refine' m_cwCls (by assumption) X ?hk3 ?hs ?hp ?_
  case hk3 => k_is
  case hs => with_unfolding_all rfl
  case hp => with_unfolding_all rfl
  repeat (walk_at "m")
  refine' and_K (S.hasK X) ?_
  refine' m_newInst (by assumption) X ?hm ?hi ?hf ?_
  case hm => k_is
  case hi => k_is
  case hf => k_is
  clear S
  intro xS dS h S
  have hsub2 : ∀ p ∈ [(xS, instObj 80 dS), (dS, dictOf [] 0)], p ∈ (xS, instObj 80 dS) :: (dS, dictOf [] 0) :: ([(L + 1, oT), (L + 1 + 1, oA), (100, tabObj #[])]) := fun p hp => by rcases List.mem_cons.mp hp with rfl | hp; exact .head _; rcases List.mem_singleton.mp hp with rfl; exact .tail _ (.head _)
  refine' lex_init X T1 (depth_type2 ?hdp) (fun p hp => S.at (a := p.1) (o := p.2) (hsub2 p hp)) (S.apart (.head _)) (S.stays (fun _ _ e => e) hsub2) ?_
  case hdp => show A.depth + 1 < 400; omega
  intro h' tk' a1 a2 a3 a4 al aw lS hk2 hd2 hl2 hl3
  have S' := S.afterNew (own1 := (xS, instObj 80 dS) :: (dS, dictOf (lexEs w a1 a2 a3 a4 1 al .none aw lS) 4) :: [(L + 1, oT), (L + 1 + 1, oA), (100, tabObj #[])]) (new := [(lS, listOf ([] : List Value).toArray 0)]) hk2 (fun b hb => by rcases List.mem_singleton.mp hb with rfl; exact .tail _ (.head _)) (by
    intro p hp
    rcases List.mem_cons.mp hp with rfl | hp
    · exact hk2 _ _ (S.at (.head _)) (fun z => S.apart (.head _) (List.mem_singleton.mp z))
    · rcases List.mem_cons.mp hp with rfl | hp
      · exact hd2
      · exact hk2 _ _ (S.at (.tail _ (.tail _ hp))) (fun z => (S.pick (.cons _ (List.Sublist.refl _))).apart (b := p.1) (o' := p.2) hp (List.mem_singleton.mp z).symm)) rfl (fun p hp => by rcases List.mem_singleton.mp hp with rfl; exact ⟨hl2, hl3⟩) (by simp)
  clear S hsub2
  have S : St g L h' [] ((lS, listOf ([] : List Value).toArray 0) :: (xS, instObj 80 dS) :: (dS, dictOf (lexEs w a1 a2 a3 a4 1 al .none aw lS) 4) :: [(L + 1, oT), (L + 1 + 1, oA), (100, tabObj #[])]) := S'
  clear S' hk2 hd2 hl2 hl3
  refine ⟨rfl, ?_⟩
  dsimp only
  repeat (walk_at "m")
  replace S := S.perm (own' := (100, tabObj #[]) :: (lS, listOf ([] : List Value).toArray 0) :: (xS, instObj 80 dS) :: (dS, dictOf (lexEs w a1 a2 a3 a4 1 al .none aw lS) 4) :: [(L + 1, oT), (L + 1 + 1, oA)]) (List.perm_append_comm (l₁ := (lS, listOf ([] : List Value).toArray 0) :: (xS, instObj 80 dS) :: (dS, dictOf (lexEs w a1 a2 a3 a4 1 al .none aw lS) 4) :: [(L + 1, oT), (L + 1 + 1, oA)]) (l₂ := [(100, tabObj #[])]))
  refine' nestDef_K rfl rfl rfl ?_
  refine' m_nest (by assumption) T1 hcd rfl ?ht ?hnf ?hcl ?_
  case ht => trivial
  case hnf => rfl
  case hcl => rfl
  clear S
  intro fG cG oc vsc tc ctv doc ps pm h tk S hocd hocv
  repeat (walk_at "m")
  refine' m_setOwn (by assumption) X ?hx ?U ?hs ?hp ?ht ?hh ?hl ?hz ?_
  case hx => walk_at "mem"
  case U => walk_at "at"
  case hs => k_is
  case hp => k_is
  case ht => k_is
  case hh => k_is
  case hl => rfl
  case hz => exact Nat.le_of_ble_eq_true rfl
  clear S
  intro h tk5 S
  repeat (walk_at "m")
  replace S := S.first (pre := [_, _, _]) rfl
  replace S := S.first (pre := [_, _, _]) rfl
  replace S := S.first (pre := [_, _, _]) rfl
  replace S := S.first (pre := [_, _, _]) rfl
  replace S := S.first (pre := [_, _, _, _, _]) rfl
  replace S := S.first (pre := [_, _, _, _, _]) rfl
  replace S := S.first (pre := [_, _, _, _, _, _]) rfl
  replace S := S.first (pre := [_, _, _, _, _, _, _]) rfl
  have S9 : St g L h [("_law_give", .ref fG), ("stream", .ref xS)] (Rig.news { lA := lA, cA := L + 1 + 1, cT := L + 1, xS := xS, dS := dS, xL := xS, dL := dS, lP := lS, fG := fG, cd := cG, text := x, tT := tx, pb := [], nA := 0, nP := 0, nS := 5, nL := 4, oA := oA, oT := oT, oc := oc, esS := _, esL := fun _ _ => [], doc := doc, pm := pm, ctv := ctv, cl := _ } ++ [(100, tabObj ps), (lS, listOf ([] : List Value).toArray 0)]) := S
  clear S
  have S10 : ∃ r : Rig, RigOk0 r ∧ r.text = x ∧ r.lA = lA ∧ r.xS = xS ∧ St g L h [("_law_give", .ref fG), ("stream", .ref xS)] (r.news ++ [(100, tabObj ps), (lS, listOf ([] : List Value).toArray 0)]) := by
    refine ⟨_, ?_, rfl, rfl, rfl, S9⟩
    exact { a := hoA, t := hoT, cdf := ⟨vsc, tc, hocd, hocv⟩, cla := rfl, clt := rfl, rd := rfl, len := hx }
  clear S9
  obtain ⟨r, ok, e1, e2, e3, S⟩ := S10
  subst hg
  show R (.ok (.ret (.ref xS))) _
  rw [← e3]
  have hnd := S.nd
  rw [List.map_append, List.nodup_append] at hnd
  refine q r h _ ps ok e1 e2 S.keptBut (S.nw _ (List.mem_append_right _ (.head _))).1 (fun p hp => S.made (List.mem_append_left _ hp) fun hm => ?_) hnd.1
  rcases List.mem_singleton.mp hm with z
  exact hnd.2.2 p.1 (List.mem_map_of_mem (f := (·.1)) hp) 100 (.head _) z
end Mine

namespace Mine
open PySem PySem.W PySem.Spec PySem.Calls PyProof.Rows

abbrev Ent := List (Str × Str)
abbrev Hosts := List (Str × Ent)
def putA {α : Type} (l : List (Str × α)) (k : Str) (v : α) : List (Str × α) := if l.any (fun kv => kv.1 = k) then l.map (fun kv => if kv.1 = k then (kv.1, v) else kv) else l ++ [(k, v)]
inductive Rel {α : Type} (R : Value → α → Prop) : List (Str × Value) → List (Str × α) → Prop
  | nil : Rel R [] []
  | cons {k : Str} {v : Value} {a : α} {r : List (Str × Value)} {s : List (Str × α)} : R v a → Rel R r s → Rel R ((k, v) :: r) ((k, a) :: s)
section
variable {α : Type} {R R' : Value → α → Prop}
theorem Rel.mono {r : List (Str × Value)} {s : List (Str × α)} (h : Rel R r s) (k : ∀ v a, R v a → R' v a) : Rel R' r s := by
  induction h with
  | nil => exact .nil
  | cons h1 _ ih => exact .cons (k _ _ h1) ih
theorem Rel.any {r : List (Str × Value)} {s : List (Str × α)} (h : Rel R r s) (k : Str) : r.any (fun kv => kv.1 = k) = s.any (fun kv => kv.1 = k) := by
  induction h with
  | nil => rfl
  | cons _ _ ih => simp only [List.any_cons, ih]
theorem Rel.snoc {r : List (Str × Value)} {s : List (Str × α)} (h : Rel R r s) {k : Str} {v : Value} {a : α} (h1 : R v a) : Rel R (r ++ [(k, v)]) (s ++ [(k, a)]) := by
  induction h with
  | nil => exact .cons h1 .nil
  | cons h2 _ ih => exact .cons h2 ih
theorem Rel.put {r : List (Str × Value)} {s : List (Str × α)} (h : Rel R r s) {k : Str} {v : Value} {a : α} (h1 : R v a) : Rel R (stored r k v) (putA s k a) := by
  unfold stored putA
  rw [h.any k]
  split
  · rename_i hc
    clear hc
    induction h with
    | nil => exact .nil
    | @cons k' v' a' r s h2 _ ih =>
      simp only [List.map_cons]
      by_cases e : k' = k
      · rw [if_pos e, if_pos e]; exact .cons h1 ih
      · rw [if_neg e, if_neg e]; exact .cons h2 ih
  · exact h.snoc h1
theorem Rel.length {r : List (Str × Value)} {s : List (Str × α)} (h : Rel R r s) : r.length = s.length := by
  induction h with
  | nil => rfl
  | cons _ _ ih => simp [ih]
theorem put_len (l : List (Str × α)) (k : Str) (v : α) : (putA l k v).length ≤ l.length + 1 := by
  unfold putA
  split
  · rw [List.length_map]; omega
  · rw [List.length_append]; exact Nat.le_refl _
end
/-- a str value -/
def IsS (v : Value) (x : Str) : Prop := ∃ t, v = .str x t
/-- an entry's dict of the ledger -/
def IsE (prog : Program) (w : World) (ts : List (Addr × Obj)) (v : Value) (e : Ent) : Prop := ∃ a od kvs, v = .ref a ∧ 1 < a ∧ (a, od) ∈ ts ∧ od.IsDictOf (strKind prog w) kvs ∧ Rel IsS kvs e
theorem IsE.mono {prog : Program} {w : World} {ts ts' : List (Addr × Obj)} (k : ∀ p ∈ ts, p ∈ ts') (v : Value) (e : Ent) (h : IsE prog w ts v e) : IsE prog w ts' v e := by
  obtain ⟨a, od, kvs, h1, h2, h3, h4⟩ := h
  exact ⟨a, od, kvs, h1, h2, k _ h3, h4⟩

/-- where the table stands -/
inductive DSt
  | top
  | name
  | follow (n : Str) (e : Ent)
  | value (n : Str) (e : Ent) (k : Str)
def stops : List Str := [Str.empty, "machine", "default"]
def fields : List Str := ["login", "account", "password"]
def due : List Str → Nat → DSt → Hosts → Option (Nat × Str × Hosts)
  | [], _, _, _ => none
  | w :: r, i, .value n e k, H => due r (i + 1) (.follow n (putA e k w)) H
  | w :: r, i, .name, H => if w == Str.empty then some (i, "missing name", H) else due r (i + 1) (.follow w []) H
  | w :: r, i, .top, H => if w == Str.empty then some (i, "", H) else if w == "machine" then due r (i + 1) .name H else if w == "default" then due r (i + 1) (.follow w []) H else some (i, "bad toplevel token " ++ w, H)
  | w :: r, i, .follow n e, H =>
    if stops.any (· == w) then (if w == Str.empty then some (i, "", putA H n e) else if w == "machine" then due r (i + 1) .name (putA H n e) else due r (i + 1) (.follow w []) (putA H n e))
    else if fields.any (· == w) then due r (i + 1) (.value n e w) H else some (i, "bad follower token " ++ w, H)
/-- three empty words behind are enough -/
theorem due_ends (ws : List Str) : ∀ (i : Nat) (s : DSt) (H : Hosts), ∃ x, due (ws ++ [Str.empty, Str.empty, Str.empty]) i s H = some x := by
  have h1 : ∀ r i H, ∃ x, due (Str.empty :: r) i .top H = some x := fun r i H => ⟨_, rfl⟩
  have h2 : ∀ r i n e H, ∃ x, due (Str.empty :: r) i (.follow n e) H = some x := fun r i n e H => ⟨_, rfl⟩
  induction ws with
  | nil =>
    intro i s H
    cases s with
    | top => exact h1 _ _ _
    | name => exact ⟨_, rfl⟩
    | follow n e => exact h2 _ _ _ _ _
    | value n e k => exact h2 _ _ _ _ _
  | cons w r ih =>
    intro i s H
    rw [List.cons_append]
    cases s with
    | top =>
      simp only [due]
      split
      · exact ⟨_, rfl⟩
      · split
        · exact ih _ _ _
        · split
          · exact ih _ _ _
          · exact ⟨_, rfl⟩
    | name =>
      simp only [due]
      split
      · exact ⟨_, rfl⟩
      · exact ih _ _ _
    | follow n e =>
      simp only [due]
      split
      · split
        · exact ⟨_, rfl⟩
        · split
          · exact ih _ _ _
          · exact ih _ _ _
      · split
        · exact ih _ _ _
        · exact ⟨_, rfl⟩
    | value n e k => exact ih _ _ _
end Mine

namespace Mine
open PySem PySem.W PySem.Spec PySem.Calls PyProof.Rows PyProof
theorem Rel.get {α : Type} {R : Value → α → Prop} {r : List (Str × Value)} {s : List (Str × α)} (h : Rel R r s) : ∀ {j : Nat} {k : Str} {v : Value}, r[j]? = some (k, v) → ∃ a, s[j]? = some (k, a) ∧ R v a := by
  induction h with
  | nil => intro j k v e; simp at e
  | @cons k' v' a' r s h1 _ ih =>
    intro j k v e
    cases j with
    | zero =>
      have e : (k', v') = (k, v) := by simpa using e
      cases e
      exact ⟨a', rfl, h1⟩
    | succ j => simpa using ih (j := j) (k := k) (v := v) (by simpa using e)
theorem Rel.back {α : Type} {R : Value → α → Prop} {r : List (Str × Value)} {s : List (Str × α)} (h : Rel R r s) : ∀ {j : Nat} {k : Str} {a : α}, s[j]? = some (k, a) → ∃ v, r[j]? = some (k, v) ∧ R v a := by
  induction h with
  | nil => intro j k v e; simp at e
  | @cons k' v' a' r s h1 _ ih =>
    intro j k v e
    cases j with
    | zero =>
      have e : (k', a') = (k, v) := by simpa using e
      cases e
      exact ⟨v', rfl, h1⟩
    | succ j => simpa using ih (j := j) (k := k) (a := v) (by simpa using e)
theorem hits_of {A : Around} {s : Shared} {kb : List (Str × Value)} : ∀ {ka : List (Str × Value)}, (∀ p ∈ ka, ∃ y, valueAt kb p.1 = some y ∧ SeqAt.EqAt A s p.2 y true) → KeqHits A s kb ka true
  | [], _ => .nil
  | (k, v) :: r, h => by
    obtain ⟨y, h1, h2⟩ := h (k, v) (.head _)
    exact KeqHits.hit (e := true) (b := true) h1 h2 (hits_of fun p hp => h p (.tail _ hp))
theorem strs_same {A : Around} {s : Shared} {x y : Value} {z : Str} (hx : IsS x z) (hy : IsS y z) : SeqAt.EqAt A s x y true := by
  obtain ⟨t, rfl⟩ := hx
  obtain ⟨u, rfl⟩ := hy
  have h := SeqAt.EqAt.str_str (A := A) (s := s) z t z u
  simp only [PyData.eqv, beq_self_eq_true] at h
  exact h
theorem isdict_nodup {prog : Program} {w : World} {o : Obj} {kvs : List (Str × Value)} (h : o.IsDictOf (strKind prog w) kvs) : (kvs.map (·.1)).Nodup := let ⟨_, _, _, _, _, _, n⟩ := h; n
/-- two entries with the same words are equal -/
theorem ents_same {prog : Program} {w : World} {A : Around} {s : Shared} {ts1 ts2 : List (Addr × Obj)} {x y : Value} {e : Ent} (h1 : IsE prog w ts1 x e) (h2 : IsE prog w ts2 y e) (m1 : ∀ p ∈ ts1, s.heap.get? p.1 = some p.2) (m2 : ∀ p ∈ ts2, s.heap.get? p.1 = some p.2) (hu : A.units < cLine) :
    EqW prog w A s x y := by
  obtain ⟨a, oa, ka, rfl, ha, ma, da, ra⟩ := h1
  obtain ⟨b, ob, kb, rfl, hb, mb, db, rb⟩ := h2
  by_cases hab : a = b
  · subst hab; exact EqW.same _
  · refine EqW.refs hab (eqW_dicts (knd := strKind prog w) (nz_of ha) (nz_of hb) (Heap.dictOf_iff.mpr ⟨oa, m1 _ ma, da⟩) (Heap.dictOf_iff.mpr ⟨ob, m2 _ mb, db⟩) hu (by rw [ra.length, rb.length]) (hits_of fun p hp => ?_))
    obtain ⟨j, hj⟩ := List.mem_iff_getElem?.mp hp
    obtain ⟨z, hz, hpz⟩ := ra.get (k := p.1) (v := p.2) hj
    obtain ⟨v, hv, hvz⟩ := rb.back hz
    exact ⟨v, valueAt_of_get (isdict_nodup db) hv, strs_same hpz hvz⟩
end Mine

namespace Mine
open PySem PySem.W PySem.Spec PySem.Calls PyProof.Rows
set_option hygiene false in
local macro_rules | `(tactic| walk_at "m1") => `(tactic| (with_reducible refine' m_execs_one ?_))

theorem news_of {h h' : Heap} {L : Addr} {lo : List (Str × Value)} {own0 new : List (Addr × Obj)} (S : St (gOf h own0) L h' lo (new ++ own0)) : (∀ p ∈ new, h'.get? p.1 = some p.2 ∧ h.get? p.1 = none) ∧ (keys new).Nodup := by
  have nd := S.nd
  rw [List.map_append, List.nodup_append] at nd
  exact ⟨fun p hp => S.made (List.mem_append_left _ hp) fun hm => nd.2.2 p.1 (List.mem_map_of_mem (f := (·.1)) hp) p.1 hm rfl, nd.1⟩

/-- what the table holds between two words -/
inductive DueAt (prog : Program) (w : World) (g : Heap) (L : Addr) (h : Heap) (wA : Addr) (nw : Nat) (ws : List (Str × Tok)) (dA it : Addr) (i : Nat) : DSt → Hosts → Prop
  | top {H : Hosts} {od : Obj} {kvs : List (Str × Value)} {ts : List (Addr × Obj)} {t : Tok} : od.IsDictOf (strKind prog w) kvs → Rel (IsE prog w ts) kvs H → kvs.length ≤ i →
      St g L h [("state", .str "toplevel" t), ("hosts", .ref dA), ("words", .ref wA)] ((it, rangeIt (i : Nat) ((ws.length - i : Nat) : Int)) :: (dA, od) :: (ts ++ [(wA, listOf (strValues ws).toArray nw)])) → DueAt prog w g L h wA nw ws dA it i .top H
  | name {H : Hosts} {od : Obj} {kvs : List (Str × Value)} {ts : List (Addr × Obj)} {t : Tok} : od.IsDictOf (strKind prog w) kvs → Rel (IsE prog w ts) kvs H → kvs.length ≤ i →
      St g L h [("state", .str "name" t), ("hosts", .ref dA), ("words", .ref wA)] ((it, rangeIt (i : Nat) ((ws.length - i : Nat) : Int)) :: (dA, od) :: (ts ++ [(wA, listOf (strValues ws).toArray nw)])) → DueAt prog w g L h wA nw ws dA it i .name H
  | follow {H : Hosts} {od oe : Obj} {kvs kve : List (Str × Value)} {n : Str} {e : Ent} {eA : Addr} {ts : List (Addr × Obj)} {t tn : Tok} : od.IsDictOf (strKind prog w) kvs → Rel (IsE prog w ts) kvs H → kvs.length ≤ i →
      oe.IsDictOf (strKind prog w) kve → Rel IsS kve e → kve.length ≤ i → 1 < eA →
      St g L h [("state", .str "follower" t), ("entry", .ref eA), ("name", .str n tn), ("hosts", .ref dA), ("words", .ref wA)] ((it, rangeIt (i : Nat) ((ws.length - i : Nat) : Int)) :: (dA, od) :: (eA, oe) :: (ts ++ [(wA, listOf (strValues ws).toArray nw)])) → DueAt prog w g L h wA nw ws dA it i (.follow n e) H
  | value {H : Hosts} {od oe : Obj} {kvs kve : List (Str × Value)} {n k : Str} {e : Ent} {eA : Addr} {ts : List (Addr × Obj)} {t tn tk : Tok} : od.IsDictOf (strKind prog w) kvs → Rel (IsE prog w ts) kvs H → kvs.length ≤ i →
      oe.IsDictOf (strKind prog w) kve → Rel IsS kve e → kve.length ≤ i → 1 < eA →
      St g L h [("state", .str "value" t), ("key", .str k tk), ("entry", .ref eA), ("name", .str n tn), ("hosts", .ref dA), ("words", .ref wA)] ((it, rangeIt (i : Nat) ((ws.length - i : Nat) : Int)) :: (dA, od) :: (eA, oe) :: (ts ++ [(wA, listOf (strValues ws).toArray nw)])) → DueAt prog w g L h wA nw ws dA it i (.value n e k) H

theorem above1 {L d : Addr} (h1 : 1 < L) (h2 : L < d) : 1 < d := Nat.lt_trans h1 h2
theorem stored_len (l : List (Str × Value)) (k : Str) (v : Value) : (stored l k v).length ≤ l.length + 1 := put_len l k v
theorem not_stops {x : Str} (h : stops.any (· == x) = false) : (x == Str.ofString "") = false ∧ (x == Str.ofString "machine") = false ∧ (x == Str.ofString "default") = false := by
  have h0 := List.any_eq_false.mp h
  refine ⟨?_, ?_, ?_⟩ <;> refine beq_eq_false_iff_ne.mpr ?_ <;> rintro rfl
  · exact h0 _ (.head _) (by decide +kernel)
  · exact h0 _ (.tail _ (.head _)) (by decide +kernel)
  · exact h0 _ (.tail _ (.tail _ (.head _))) (by decide +kernel)
theorem bad_top : Str.ofString "bad " ++ Str.ofString "toplevel" ++ Str.ofString " token " = Str.ofString "bad toplevel token " := by decide +kernel
theorem bad_fol : Str.ofString "bad " ++ Str.ofString "follower" ++ Str.ofString " token " = Str.ofString "bad follower token " := by decide +kernel
theorem e_empty : Str.ofString "" = Str.empty := by decide +kernel

theorem law_due {w : World} {b0 : Heap} {p : Program} {loose : List Str} {mg mb : Str → Option Value} {mean : ExcName → Option Value} (X0 : (hd2.heap_39 w.params).In b0) (T0 : Top p loose mean mg mb b0) {A : Around} (hroom : A.depth < 500) (hun : A.units < 500) (hh : A.handled = none)
    {h : Heap} {G : Array GenState} {D : Drawn} {tk : Nat} {O : OsState} {wA : Addr} {nw : Nat} {ws : List (Str × Tok)} (hwl : ws.length ≤ 20) (hw8 : ∀ c ∈ ws, c.1.length ≤ 8)
    (hown : ∀ p ∈ [(wA, listOf (strValues ws).toArray nw)], h.get? p.1 = some p.2) (hb : b0.StaysIn (gOf h [(wA, listOf (strValues ws).toArray nw)])) {out : Nat × Str × Hosts} (hd : due (ws.map (·.1)) 0 .top [] = some out) {R : Result → Shared → Prop}
    (q : ∀ r dA od kvs ts t ti h' tk', 1 < dA → (∀ b o, h.get? b = some o → h'.get? b = some o) → (∀ p ∈ (r, tupOf [.int (out.1 : Int) ti, .str out.2.1 t, .ref dA]) :: (dA, od) :: ts, h'.get? p.1 = some p.2 ∧ h.get? p.1 = none) → (keys ((r, tupOf [.int (out.1 : Int) ti, .str out.2.1 t, .ref dA]) :: (dA, od) :: ts)).Nodup →
      od.IsDictOf (strKind PySem.Challenge.rw_km0063_02.row.prog w) kvs → Rel (IsE PySem.Challenge.rw_km0063_02.row.prog w ts) kvs out.2.2 → kvs.length ≤ 20 → R (.ok (.ret (.ref r))) ⟨h', G, D, tk', O⟩) :
    codeAny (model PySem.Challenge.rw_km0063_02.row.prog w) A (.call (.ref 119) ⟨[.ref wA], []⟩) R ⟨h, G, D, tk, O⟩ := by
  have hb' : b0.StaysIn h := fun b o e => gOf_get (hb b o e)
  have _kf : (hd2.heap_39 w.params).In b0 ∧ PySem.Challenge.rw_km0063_02 = PySem.Challenge.rw_km0063_02 := by (k_fill; exact ⟨X0, rfl⟩)
  clear _kf
  refine' m_enter (own := [(wA, listOf (strValues ws).toArray nw)]) X0 T0.nolimit hb' hown ?_ ?ho ?hcd ?hr ?hbind ?hloc ?hcell ?hco ?hgen ?hk ?_
  case ho => k_is
  case hcd => k_is
  case hr => have : (500:Nat) < recursionLimit := by decide
             omega
  case hbind => exact BindsTo.of_eq rfl
  case hloc => exact locs rfl
  case hcell => decide
  case hco => rfl
  case hgen => rfl
  case hk => rfl
  · simp
  intro L h₁ tk₁ hL hk S
  have X := X0.keeps hb
  have T := topRead_of (T0.keeps hb)
  replace S := S.low (lo' := [("words", .ref wA)]) (lo_cons rfl lo_nil)
  have hL1 : 1 < L := by
    obtain ⟨fo, hfo⟩ : ∃ fo, (hd2.heap_39 w.params).lookup 63 = some fo := ⟨_, rfl⟩
    have := Heap.lt_size (hb' _ _ (X0 _ _ hfo))
    rw [hL]
    show (1 : Nat) < h.objs.size
    have h63 : (63 : Nat) < h.objs.size := this
    omega
  clear hL
  generalize hg : gOf h [(wA, listOf (strValues ws).toArray nw)] = g at S X T
  have hwz : Unit → (strValues ws).length ≤ sizeLine := fun _ => small_fit (by rw [sv_len]; omega)
  repeat (walk_at "m")
  have hd1 := above1 hL1 hdL
  obtain ⟨dA, hdA⟩ : ∃ x, x = d := ⟨d, rfl⟩
  rw [← hdA] at S hd1
  clear hdA hdL
  refine' wpAny_For ?_ ?hfs
  case hfs => intro _; rfl
  repeat (walk_at "m")
  refine' m_range1 (by assumption) ?_
  clear S
  intro ra rt rv h tk S
  rw [sv_len] at S
  refine' m_rangeIter (by assumption) (.head _) (rng_small hwl) ?_
  clear S
  intro it h S
  rw [rangeSize_one] at S
  have hisz : (if (0 : Int) < (ws.length : Int) then (ws.length : Int) - 0 else 0) = ((ws.length : Nat) : Int) := rng_if _
  rw [hisz] at S
  replace S := S.drop2
  refine' m_forJ (fun n s' => ∃ (h : Heap) (tk i : Nat) (st : DSt) (H : Hosts), s' = ⟨h, G, D, tk, O⟩ ∧ n = ws.length - i ∧ i ≤ ws.length ∧ due ((ws.map (·.1)).drop i) i st H = some out ∧
    DueAt PySem.Challenge.rw_km0063_02.row.prog w g L h wA nw ws dA it i st H) ?turn ws.length ?init ?ht
  case ht => intro _; rfl
  case init => exact ⟨h, _, 0, .top, [], rfl, rfl, Nat.zero_le _, hd, .top (ts := []) dict0_is .nil (Nat.le_refl _) (S.low (lo_cons rfl (lo_cons rfl (lo_cons rfl lo_nil))))⟩
  clear S hd
  have fin : ∀ {h2 : Heap} {lo2 : List (Str × Value)} {r : Addr} {od : Obj} {kvs : List (Str × Value)} {ts : List (Addr × Obj)} {t ti : Tok} {tk2 : Nat}, St g L h2 lo2 ((r, tupOf [.int (out.1 : Int) ti, .str out.2.1 t, .ref dA]) :: (dA, od) :: (ts ++ [(wA, listOf (strValues ws).toArray nw)])) →
      od.IsDictOf (strKind PySem.Challenge.rw_km0063_02.row.prog w) kvs → Rel (IsE PySem.Challenge.rw_km0063_02.row.prog w ts) kvs out.2.2 → kvs.length ≤ 20 → R (.ok (.ret (.ref r))) ⟨h2, G, D, tk2, O⟩ := fun {h2 lo2 r od kvs ts t ti tk2} S h1 h2 h3 => by
    rw [← hg] at S
    obtain ⟨n1, n2⟩ := news_of (own0 := [(wA, listOf (strValues ws).toArray nw)]) (new := (r, tupOf [.int (out.1 : Int) ti, .str out.2.1 t, .ref dA]) :: (dA, od) :: ts) S
    exact q r dA od kvs ts t ti _ _ hd1 (S.back (fun p hp => List.mem_append_right ((r, tupOf [.int (out.1 : Int) ti, .str out.2.1 t, .ref dA]) :: (dA, od) :: ts) hp) hown) n1 n2 h1 h2 h3
  have l1 : (Str.ofString "bad ").length = 4 := by decide +kernel
  have l2 : (Str.ofString "toplevel").length = 8 := by decide +kernel
  have l3 : (Str.ofString "follower").length = 8 := by decide +kernel
  have l4 : (Str.ofString " token ").length = 7 := by decide +kernel
  rintro n s' ⟨h, tk, i, st, H, rfl, hn, hi, hd, S⟩
  intro J Q' E hJ hQ hE
  clear hE
  rcases Nat.lt_or_ge i ws.length with hlt | hge
  · obtain ⟨wd, hwd⟩ : ∃ wd, ws[i]? = some wd := ⟨_, List.getElem?_eq_getElem hlt⟩
    have hdr : (ws.map (·.1)).drop i = wd.1 :: (ws.map (·.1)).drop (i + 1) := by
      have h1 : (ws.map (·.1))[i]? = some wd.1 := by rw [List.getElem?_map, hwd]; rfl
      obtain ⟨h2, h3⟩ := List.getElem?_eq_some_iff.mp h1
      rw [List.drop_eq_getElem_cons h2, h3]
    rw [hdr] at hd
    have hw8 := hw8 wd (List.mem_of_getElem? hwd)
    have hnx : ((ws.length - i : Nat) : Int) - 1 = ((ws.length - (i + 1) : Nat) : Int) := left_pred hlt
    have hnx2 : ((i : Nat) : Int) + 1 = ((i + 1 : Nat) : Int) := nat_succ i
    cases S with
    | @top H od kvs ts t0 hod hrel hkl S =>
      refine' m_rangeNext (y := ((i : Nat) : Int)) (left := ((ws.length - i : Nat) : Int)) S .here (left_pos hlt) ?_
      clear S
      intro ti h tk S
      rw [hnx, hnx2] at S
      repeat (walk_at "m")
      refine' m_idx (x := .str wd.1 wd.2) S ?hm ?hz ?h0 ?hx ?hs ?_
      case hm => exact .tail _ (.tail _ (List.mem_append_right _ (.head _)))
      case hz => exact hwz ()
      case h0 => exact nat_nonneg _
      case hx => rw [Int.toNat_natCast, sv_get, hwd]; rfl
      case hs => with_unfolding_all rfl
      obtain ⟨ow, how⟩ : ∃ ow, ow = (it, rangeIt ((i + 1 : Nat) : Int) ((ws.length - (i + 1) : Nat) : Int)) :: (dA, od) :: (ts ++ [(wA, listOf (strValues ws).toArray nw)]) := ⟨_, rfl⟩
      rw [← how] at S
      simp only [due] at hd
      rw [← e_empty] at hd
      repeat (walk_at "m")
      apply m_ifb <;> intro hc1
      · rw [if_pos hc1] at hd
        obtain rfl := Option.some.inj hd
        repeat (walk_at "m")
        rw [how] at S
        exact hQ _ _ (fin (S.pick (.cons₂ _ (.cons _ (List.Sublist.refl _)))) hod hrel (le_s20 hkl hlt hwl))
      · rw [if_neg (by rw [hc1]; decide)] at hd
        repeat (walk_at "m")
        apply m_ifb <;> intro hc2
        · rw [if_pos hc2] at hd
          repeat (walk_at "m")
          rw [how] at S
          exact hJ (ws.length - (i + 1)) _ (lt_turn hn hlt) ⟨_, _, i + 1, .name, H, rfl, rfl, hlt, hd, .name hod hrel (Nat.le_succ_of_le hkl) (S.low (lo_cons rfl (lo_cons rfl (lo_cons rfl lo_nil))))⟩
        · rw [if_neg (by rw [hc2]; decide)] at hd
          repeat (walk_at "m")
          apply m_ifb <;> intro hc3
          · rw [if_pos hc3] at hd
            repeat (walk_at "m")
            rw [how] at S
            have hd2 := above1 hL1 hdL
            replace S := S.first (pre := [_]) rfl
            replace S := S.first (pre := [_, _]) rfl
            replace S := S.first (pre := [_]) rfl
            exact hJ (ws.length - (i + 1)) _ (lt_turn hn hlt) ⟨_, _, i + 1, .follow wd.1 [], H, rfl, rfl, hlt, hd, .follow hod hrel (Nat.le_succ_of_le hkl) dict0_is .nil (Nat.zero_le _) hd2 (S.low (lo_cons rfl (lo_cons rfl (lo_cons rfl (lo_cons rfl (lo_cons rfl lo_nil))))))⟩
          · rw [if_neg (by rw [hc3]; decide)] at hd
            obtain rfl := Option.some.inj hd
            repeat (walk_at "m")
            rw [bad_top] at S
            rw [how] at S
            exact hQ _ _ (fin (S.pick (.cons₂ _ (.cons _ (List.Sublist.refl _)))) hod hrel (le_s20 hkl hlt hwl))
    | @name H od kvs ts t0 hod hrel hkl S =>
      refine' m_rangeNext (y := ((i : Nat) : Int)) (left := ((ws.length - i : Nat) : Int)) S .here (left_pos hlt) ?_
      clear S
      intro ti h tk S
      rw [hnx, hnx2] at S
      repeat (walk_at "m")
      refine' m_idx (x := .str wd.1 wd.2) S ?hm ?hz ?h0 ?hx ?hs ?_
      case hm => exact .tail _ (.tail _ (List.mem_append_right _ (.head _)))
      case hz => exact hwz ()
      case h0 => exact nat_nonneg _
      case hx => rw [Int.toNat_natCast, sv_get, hwd]; rfl
      case hs => with_unfolding_all rfl
      obtain ⟨ow, how⟩ : ∃ ow, ow = (it, rangeIt ((i + 1 : Nat) : Int) ((ws.length - (i + 1) : Nat) : Int)) :: (dA, od) :: (ts ++ [(wA, listOf (strValues ws).toArray nw)]) := ⟨_, rfl⟩
      rw [← how] at S
      simp only [due] at hd
      rw [← e_empty] at hd
      repeat (walk_at "m")
      apply m_ifb <;> intro hc1
      · have hc1' : (wd.1 == Str.ofString "") = false := by simpa [bne] using hc1
        rw [if_neg (by rw [hc1']; decide)] at hd
        repeat (walk_at "m")
        rw [how] at S
        have hd2 := above1 hL1 hdL
        replace S := S.first (pre := [_]) rfl
        replace S := S.first (pre := [_, _]) rfl
        replace S := S.first (pre := [_]) rfl
        exact hJ (ws.length - (i + 1)) _ (lt_turn hn hlt) ⟨_, _, i + 1, .follow wd.1 [], H, rfl, rfl, hlt, hd, .follow hod hrel (Nat.le_succ_of_le hkl) dict0_is .nil (Nat.zero_le _) hd2 (S.low (lo_cons rfl (lo_cons rfl (lo_cons rfl (lo_cons rfl (lo_cons rfl lo_nil))))))⟩
      · have hc1' : (wd.1 == Str.ofString "") = true := by simpa [bne] using hc1
        rw [if_pos hc1'] at hd
        obtain rfl := Option.some.inj hd
        repeat (walk_at "m")
        rw [how] at S
        exact hQ _ _ (fin (S.pick (.cons₂ _ (.cons _ (List.Sublist.refl _)))) hod hrel (le_s20 hkl hlt hwl))
    | @follow H od oe kvs kve n e eA ts t0 tn hod hrel hkl hoe hre hke h1 S =>
      refine' m_rangeNext (y := ((i : Nat) : Int)) (left := ((ws.length - i : Nat) : Int)) S .here (left_pos hlt) ?_
      clear S
      intro ti h tk S
      rw [hnx, hnx2] at S
      repeat (walk_at "m")
      refine' m_idx (x := .str wd.1 wd.2) S ?hm ?hz ?h0 ?hx ?hs ?_
      case hm => exact .tail _ (.tail _ (.tail _ (List.mem_append_right _ (.head _))))
      case hz => exact hwz ()
      case h0 => exact nat_nonneg _
      case hx => rw [Int.toNat_natCast, sv_get, hwd]; rfl
      case hs => with_unfolding_all rfl
      obtain ⟨ow, how⟩ : ∃ ow, ow = (it, rangeIt ((i + 1 : Nat) : Int) ((ws.length - (i + 1) : Nat) : Int)) :: (dA, od) :: (eA, oe) :: (ts ++ [(wA, listOf (strValues ws).toArray nw)]) := ⟨_, rfl⟩
      rw [← how] at S
      simp only [due] at hd
      rw [← e_empty] at hd
      repeat (walk_at "m")
      refine' m_inTup S (.head _) (.cons _ _ (.cons _ _ (.cons _ _ .nil))) ?_
      rw [show [Str.ofString "", Str.ofString "machine", Str.ofString "default"] = stops by rw [e_empty]; rfl]
      repeat (walk_at "m")
      apply m_ifb <;> intro hs1
      · rw [if_pos hs1] at hd
        repeat (walk_at "m")
        rw [how] at S
        replace S := S.first (pre := [_, _]) rfl
        refine' m_setDict S hod (le_s20 hkl hlt (Nat.le_trans hwl (by decide))) ?_
        clear S
        intro h tk od' hod' S
        replace S := S.first (pre := [_, _]) rfl
        have hrel' := (hrel.mono (IsE.mono (ts' := (_, _) :: _) fun p hp => List.Mem.tail _ hp)).put (k := n) (v := .ref eA) (a := e) ⟨eA, oe, kve, rfl, h1, .head _, hoe, hre⟩
        have hkl' := Nat.le_trans (stored_len kvs n (.ref eA)) (Nat.succ_le_succ hkl)
        replace S : St g L h _ ((it, _) :: (dA, od') :: (l, _) :: (((eA, oe) :: ts) ++ [(wA, listOf (strValues ws).toArray nw)])) := S
        replace S := S.pick (.cons₂ _ (.cons₂ _ (.cons _ (List.Sublist.refl _))))
        repeat (walk_at "m")
        apply m_ifb <;> intro hc1
        · rw [if_pos hc1] at hd
          obtain rfl := Option.some.inj hd
          repeat (walk_at "m")
          exact hQ _ _ (fin (S.pick (.cons₂ _ (.cons _ (List.Sublist.refl _)))) hod' hrel' (le_s21 hkl' hlt hwl))
        · rw [if_neg (by rw [hc1]; decide)] at hd
          repeat (walk_at "m")
          apply m_ifb <;> intro hc2
          · rw [if_pos hc2] at hd
            repeat (walk_at "m")
            exact hJ (ws.length - (i + 1)) _ (lt_turn hn hlt) ⟨_, _, i + 1, .name, _, rfl, rfl, hlt, hd, .name hod' hrel' hkl' (S.low (lo_cons rfl (lo_cons rfl (lo_cons rfl lo_nil))))⟩
          · rw [if_neg (by rw [hc2]; decide)] at hd
            have hc3 : (wd.1 == Str.ofString "default") = true := by
              obtain ⟨y, hy, e⟩ := List.any_eq_true.mp hs1
              rcases List.mem_cons.mp hy with rfl | hy
              · rw [e_empty, ← eq_of_beq e] at hc1; exact absurd hc1 (by decide +kernel)
              · rcases List.mem_cons.mp hy with rfl | hy
                · rw [← eq_of_beq e] at hc2; exact absurd hc2 (by decide +kernel)
                · rcases List.mem_singleton.mp hy with rfl
                  rw [← eq_of_beq e]; decide +kernel
            repeat (walk_at "m")
            rw [hc3]
            repeat (walk_at "m")
            have hd2 := above1 hL1 hdL
            replace S := S.first (pre := [_]) rfl
            replace S := S.first (pre := [_, _]) rfl
            replace S := S.first (pre := [_]) rfl
            exact hJ (ws.length - (i + 1)) _ (lt_turn hn hlt) ⟨_, _, i + 1, .follow wd.1 [], _, rfl, rfl, hlt, hd, .follow hod' hrel' hkl' dict0_is .nil (Nat.zero_le _) hd2 (S.low (lo_cons rfl (lo_cons rfl (lo_cons rfl (lo_cons rfl (lo_cons rfl lo_nil))))))⟩
      · rw [if_neg (by rw [hs1]; decide)] at hd
        obtain ⟨hn0, hn1, hn2⟩ := not_stops hs1
        repeat (walk_at "m")
        rw [hn0]
        repeat (walk_at "m")
        rw [hn1]
        repeat (walk_at "m")
        rw [hn2]
        repeat (walk_at "m")
        refine' m_inTup S (.head _) (.cons _ _ (.cons _ _ (.cons _ _ .nil))) ?_
        rw [show [Str.ofString "login", Str.ofString "account", Str.ofString "password"] = fields by rfl]
        repeat (walk_at "m")
        replace S := S.drop2
        replace S := S.pick (List.sublist_cons_self _ _)
        apply m_ifb <;> intro hf1
        · rw [if_pos hf1] at hd
          repeat (walk_at "m")
          rw [how] at S
          exact hJ (ws.length - (i + 1)) _ (lt_turn hn hlt) ⟨_, _, i + 1, .value n e wd.1, _, rfl, rfl, hlt, hd, .value hod hrel (Nat.le_succ_of_le hkl) hoe hre (Nat.le_succ_of_le hke) h1 (S.low (lo_cons rfl (lo_cons rfl (lo_cons rfl (lo_cons rfl (lo_cons rfl (lo_cons rfl lo_nil)))))))⟩
        · rw [if_neg (by rw [hf1]; decide)] at hd
          obtain rfl := Option.some.inj hd
          repeat (walk_at "m")
          rw [bad_fol] at S
          rw [how] at S
          exact hQ _ _ (fin (S.pick (.cons₂ _ (.cons _ (.cons₂ _ (.cons _ (List.Sublist.refl _)))))) hod hrel (le_s20 hkl hlt hwl))
    | value hod hrel hkl hoe hre hke h1 S =>
      refine' m_rangeNext (y := ((i : Nat) : Int)) (left := ((ws.length - i : Nat) : Int)) S .here (left_pos hlt) ?_
      clear S
      intro ti h tk S
      rw [hnx, hnx2] at S
      repeat (walk_at "m")
      refine' m_idx (x := .str wd.1 wd.2) S ?hm ?hz ?h0 ?hx ?hs ?_
      case hm => exact .tail _ (.tail _ (.tail _ (List.mem_append_right _ (.head _))))
      case hz => exact hwz ()
      case h0 => exact nat_nonneg _
      case hx => rw [Int.toNat_natCast, sv_get, hwd]; rfl
      case hs => with_unfolding_all rfl
      simp only [due] at hd
      repeat (walk_at "m")
      replace S := S.first (pre := [_, _]) rfl
      refine' m_setDict S hoe (le_s20 hke hlt (Nat.le_trans hwl (by decide))) ?_
      clear S
      intro h tk oe' hoe' S
      replace S := S.first (pre := [_]) rfl
      replace S := S.first (pre := [_, _]) rfl
      replace S := S.first (pre := [_]) rfl
      repeat (walk_at "m")
      exact hJ (ws.length - (i + 1)) _ (lt_turn hn hlt) ⟨_, _, i + 1, .follow _ _, H, rfl, rfl, hlt, hd, .follow hod hrel (Nat.le_succ_of_le hkl) hoe' (hre.put ⟨_, rfl⟩) (Nat.le_trans (stored_len _ _ _) (Nat.succ_le_succ hke)) h1 (S.low (lo_cons rfl (lo_cons rfl (lo_cons rfl (lo_cons rfl (lo_cons rfl lo_nil))))))⟩
  · rw [List.drop_of_length_le (by rw [List.length_map]; exact hge)] at hd
    simp [due] at hd
end Mine

namespace Mine
open PySem PySem.W PySem.Spec PySem.Calls PyProof.Rows

theorem read_any (fs : List Nat) (hf : ∀ f ∈ fs, f < 12) (i : Nat) : run ((signs (textOf fs)).drop (posOf fs i)) .skip false Str.empty (posOf fs i) (lnsOf fs i) = .tok (wordAt fs i) (posOf fs (i + 1)) (lnsOf fs (i + 1)) := by
  rcases Nat.lt_or_ge i fs.length with h | h
  · have := read_at fs hf i (Nat.le_of_lt h)
    unfold nxt at this
    rwa [if_pos h] at this
  · have := read_at fs hf fs.length (Nat.le_refl _)
    unfold nxt at this
    rw [if_neg (Nat.lt_irrefl _)] at this
    have e1 : posOf fs i = posOf fs fs.length := by unfold posOf; rw [List.take_of_length_le h, List.take_length]
    have e2 : posOf fs (i + 1) = posOf fs fs.length := by unfold posOf; rw [List.take_of_length_le (Nat.le_succ_of_le h), List.take_length]
    have e3 : lnsOf fs i = lnsOf fs fs.length := by unfold lnsOf; rw [List.take_of_length_le h, List.take_length]
    have e4 : lnsOf fs (i + 1) = lnsOf fs fs.length := by unfold lnsOf; rw [List.take_of_length_le (Nat.le_succ_of_le h), List.take_length]
    have e5 : wordAt fs i = wordAt fs fs.length := by unfold wordAt; rw [List.getElem?_eq_none h, List.getElem?_eq_none (Nat.le_refl _)]
    rw [e1, e2, e3, e4, e5]
    exact this
/-- the words, and three empty ones behind -/
def wl (fs : List Nat) : List Str := fs.map wordOf ++ [Str.empty, Str.empty, Str.empty]
theorem wl_len (fs : List Nat) : (wl fs).length = fs.length + 3 := by simp [wl]
theorem wl_get {fs : List Nat} {i : Nat} (h : i < (wl fs).length) : (wl fs)[i]? = some (wordAt fs i) := by
  rw [wl_len] at h
  unfold wl wordAt
  rcases Nat.lt_or_ge i fs.length with h2 | h2
  · rw [List.getElem?_append_left (by rw [List.length_map]; exact h2), List.getElem?_map, List.getElem?_eq_getElem h2]
    rfl
  · rw [List.getElem?_append_right (by rw [List.length_map]; exact h2), List.getElem?_eq_none h2, List.length_map]
    obtain ⟨d, hd⟩ : ∃ d, d = i - fs.length := ⟨_, rfl⟩
    rw [← hd]
    match d, (show d < 3 by omega) with
    | 0, _ => rfl
    | 1, _ => rfl
    | 2, _ => rfl
theorem due_next {fs : List Nat} {i : Nat} {st : DSt} {H : Hosts} {out : Nat × Str × Hosts} (h : due ((wl fs).drop i) i st H = some out) : i < fs.length + 3 ∧ due (wordAt fs i :: (wl fs).drop (i + 1)) i st H = some out := by
  rcases Nat.lt_or_ge i (wl fs).length with hi | hi
  · have e := wl_get hi
    obtain ⟨h1, h2⟩ := List.getElem?_eq_some_iff.mp e
    rw [List.drop_eq_getElem_cons hi, h2] at h
    rw [wl_len] at hi
    exact ⟨hi, h⟩
  · rw [List.drop_of_length_le hi] at h
    simp [due] at h
theorem word_at_len (fs : List Nat) (i : Nat) : (wordAt fs i).length ≤ 8 := by
  unfold wordAt
  split
  · exact word_len _
  · decide

section
variable {w : World} {b0 : Heap} {p : Program} {loose : List Str} {mg mb : Str → Option Value} {mean : ExcName → Option Value} {A : Around}
  {g h : Heap} {G : Array GenState} {D : Drawn} {tk : Nat} {O : OsState} {r : Rig} {tA tL : Tok} {L a : Addr} {lo : List (Str × Value)} {pre post : List (Addr × Obj)}
  {cn : Str} {cs : Scope} {ccd : Value} {cl : List (Str × Addr)} {E : Value → Shared → Prop}

theorem rig_nd (S : St g L h lo (pre ++ (r.own k tA ln tL ++ post))) : (keys (r.own k tA ln tL)).Nodup :=
  S.nd.sublist (((List.sublist_append_left _ _).trans (List.sublist_append_right pre _)).map _)
/-- the next word is read -/
theorem call_tok (X0 : (hd2.heap_39 w.params).In b0) (T0 : Top p loose mean mg mb b0) (hroom : A.depth < 360) (hh : A.handled = none) (hb : b0.StaysIn g) (ok : RigOk r) (hpb : r.pb = []) {fs : List Nat} (ht : r.text = textOf fs) (hf : ∀ f ∈ fs, f < 12) {i : Nat} {Q : Value → Shared → Prop}
    (S : St g L h lo (pre ++ (r.own (posOf fs i) tA (lnsOf fs i) tL ++ post)))
    (q : ∀ t h' tk' tA' tL', St g L h' lo (pre ++ (r.own (posOf fs (i + 1)) tA' (lnsOf fs (i + 1)) tL' ++ post)) → Q (.str (wordAt fs i) t) ⟨h', G, D, tk', O⟩) :
    wpAny (model PySem.Challenge.rw_km0063_02.row.prog w) (A.deeper (envX cn cs L a ccd cl)) (call (.ref 70) [.ref r.xL]) Q E ⟨h, G, D, tk, O⟩ := by
  refine' m_callF ?_
  have hsub : ∀ p ∈ r.own (posOf fs i) tA (lnsOf fs i) tL, p ∈ pre ++ (r.own (posOf fs i) tA (lnsOf fs i) tL ++ post) := fun p hp => List.mem_append_right _ (List.mem_append_left _ hp)
  refine' get_token (A := A.deeper _) X0 T0 ?hr ?hh ok (k := posOf fs i) ?hle (fun p hp => S.at (a := p.1) (o := p.2) (hsub p hp)) (rig_nd S) hpb (S.stays hb hsub) ?_
  case hr => show A.depth + 1 < 370; omega
  case hh => exact hh
  case hle => rw [ht]; exact pos_le fs i
  rw [ht, read_any fs hf i]
  refine ⟨fun s k' ln' he t h' tk' tA' tL' hk2 hm2 => ?_⟩
  cases he
  exact q t h' tk' tA' tL' (St.around S hk2 hm2 rfl)
/-- the word that was pushed is read -/
theorem call_pb (X0 : (hd2.heap_39 w.params).In b0) (T0 : Top p loose mean mg mb b0) (hroom : A.depth < 360) (hb : b0.StaysIn g) (ok : RigOk r) {c : Str × Tok} (hpb : r.pb = [c]) {fs : List Nat} {i : Nat} {Q : Value → Shared → Prop}
    (S : St g L h lo (pre ++ (r.own (posOf fs i) tA (lnsOf fs i) tL ++ post)))
    (q : ∀ h' tk', St g L h' lo (pre ++ ((r.with [] (r.nP + 1)).own (posOf fs i) tA (lnsOf fs i) tL ++ post)) → Q (.str c.1 c.2) ⟨h', G, D, tk', O⟩) :
    wpAny (model PySem.Challenge.rw_km0063_02.row.prog w) (A.deeper (envX cn cs L a ccd cl)) (call (.ref 70) [.ref r.xL]) Q E ⟨h, G, D, tk, O⟩ := by
  refine' m_callF ?_
  have hsub : ∀ p ∈ r.own (posOf fs i) tA (lnsOf fs i) tL, p ∈ pre ++ (r.own (posOf fs i) tA (lnsOf fs i) tL ++ post) := fun p hp => List.mem_append_right _ (List.mem_append_left _ hp)
  refine' get_pb (A := A.deeper _) X0 T0 ?hr ok (k := posOf fs i) hpb (fun p hp => S.at (a := p.1) (o := p.2) (hsub p hp)) (rig_nd S) (S.stays hb hsub) ?_
  case hr => show A.depth + 1 < 370; omega
  intro h' tk' hk2 hm2
  exact q h' tk' (St.around S hk2 hm2 rfl)
/-- a word is pushed -/
theorem call_push (X0 : (hd2.heap_39 w.params).In b0) (T0 : Top p loose mean mg mb b0) (hroom : A.depth < 360) (hb : b0.StaysIn g) (ok : RigOk r) {x : Str} {u : Tok} (hpb : r.pb = []) {fs : List Nat} {i : Nat} {Q : Value → Shared → Prop}
    (S : St g L h lo (pre ++ (r.own (posOf fs i) tA (lnsOf fs i) tL ++ post)))
    (q : ∀ h' tk', St g L h' lo (pre ++ ((r.with [(x, u)] (r.nP + 1)).own (posOf fs i) tA (lnsOf fs i) tL ++ post)) → Q .none ⟨h', G, D, tk', O⟩) :
    wpAny (model PySem.Challenge.rw_km0063_02.row.prog w) (A.deeper (envX cn cs L a ccd cl)) (call (.ref 77) [.ref r.xL, .str x u]) Q E ⟨h, G, D, tk, O⟩ := by
  refine' m_callF ?_
  have hsub : ∀ p ∈ r.own (posOf fs i) tA (lnsOf fs i) tL, p ∈ pre ++ (r.own (posOf fs i) tA (lnsOf fs i) tL ++ post) := fun p hp => List.mem_append_right _ (List.mem_append_left _ hp)
  refine' push_token (A := A.deeper _) X0 T0 ?hr ok (k := posOf fs i) (c := (x, u)) hpb (fun p hp => S.at (a := p.1) (o := p.2) (hsub p hp)) (rig_nd S) (S.stays hb hsub) ?_
  case hr => show A.depth + 1 < 370; omega
  intro h' tk' hk2 hm2
  exact q h' tk' (St.around S hk2 hm2 rfl)
end
end Mine

namespace Mine
open PySem PySem.W PySem.Spec PySem.Calls PyProof.Rows PyProof
theorem slice_pre (x y : Str) : Txt.slice (x ++ y) none (some (x.length : Int)) = x := by
  have e := eq_of_beq (slice_closes_toL (x := x ++ y) (j := (x.length : Int)) (by omega) (by rw [Str.length_append]; omega))
  rw [e]
  have e1 : ((x.length : Int) - 0).toNat = x.length := by omega
  rw [e1, Int.toNat_zero, List.drop_zero, Str.cps_append, Array.toList_append]
  have e2 : x.length = x.cps.toList.length := by rw [Array.length_toList]; rfl
  rw [e2, List.take_left, Array.toArray_toList]
theorem slice_text (fs : List Nat) (k : Nat) : Txt.slice (textOf fs) none (some (posOf fs k : Int)) = textOf (fs.take k) := by
  have e := textOf_app (fs.take k) (fs.drop k)
  rw [List.take_append_drop] at e
  rw [e]
  exact slice_pre _ _
theorem addNl_cnt (l : List Nat) : ∀ n : Int, addNl (l.map fun c => (⟨#[c]⟩ : Str)) n = n + cnt 10 l := by
  induction l with
  | nil => intro n; rw [cnt_nil]; show n = n + 0; omega
  | cons c r ih =>
    intro n
    have e : addNl ((c :: r).map fun c => (⟨#[c]⟩ : Str)) n = addNl (r.map fun c => (⟨#[c]⟩ : Str)) (lnOf ⟨#[c]⟩ n) := rfl
    rw [e, ih, cnt_cons]
    have e2 : lnOf ⟨#[c]⟩ n = n + (if c = 10 then 1 else 0) := by
      unfold lnOf
      have hn : nlS = ⟨#[10]⟩ := by decide +kernel
      by_cases hc : c = 10
      · subst hc
        rw [hn, if_pos rfl, if_pos (beq_self_eq_true _)]
      · rw [if_neg hc, if_neg, Int.add_zero]
        intro z
        have := eq_of_beq z
        rw [hn] at this
        cases this
        exact hc rfl
    rw [e2]
    omega
theorem nl_count (x : Str) : 1 + Txt.count x (Str.ofString "\n") = addNl (signs x) 1 := by
  have hn : Str.ofString "\n" = ⟨#[10]⟩ := by decide +kernel
  rw [hn, count_is]
  have := addNl_cnt x.cps.toList 1
  unfold signs
  rw [this]
  rfl
theorem line_count (fs : List Nat) (k : Nat) : 1 + Txt.count (Txt.slice (textOf fs) none (some (posOf fs k : Int))) (Str.ofString "\n") = lnsOf fs k := by
  rw [slice_text, nl_count]
  rfl
theorem piece_nl (f : Nat) : 0 ≤ cnt 10 (pieceOf f).cps.toList ∧ cnt 10 (pieceOf f).cps.toList ≤ 1 := by
  have key : ∀ f : Fin 13, 0 ≤ cnt 10 (pieceOf f.val).cps.toList ∧ cnt 10 (pieceOf f.val).cps.toList ≤ 1 := by decide +kernel
  rcases Nat.lt_or_ge f 13 with h | h
  · exact key ⟨f, h⟩
  · have : pieceOf f = Str.empty := by
      unfold pieceOf
      rw [List.getD_eq_getElem?_getD, List.getElem?_eq_none (by show 12 ≤ f; omega)]
      rfl
    rw [this]
    exact ⟨Int.le_refl 0, by decide⟩
theorem text_nl : ∀ l : List Nat, 0 ≤ cnt 10 (textOf l).cps.toList ∧ cnt 10 (textOf l).cps.toList ≤ l.length
  | [] => ⟨Int.le_refl 0, Int.le_refl 0⟩
  | f :: r => by
    have h1 := text_nl r
    have h2 := piece_nl f
    have e : textOf (f :: r) = pieceOf f ++ textOf r := rfl
    rw [e, Str.cps_append, Array.toList_append, cnt_append, List.length_cons]
    constructor <;> omega
theorem lns_bound (fs : List Nat) (hf : fs.length ≤ 14) (k : Nat) : 1 ≤ lnsOf fs k ∧ lnsOf fs k ≤ 15 := by
  have h1 := text_nl (fs.take k)
  rw [List.length_take] at h1
  have e : lnsOf fs k = 1 + cnt 10 (textOf (fs.take k)).cps.toList := addNl_cnt _ 1
  rw [e]
  constructor <;> omega
end Mine

namespace Mine
open PySem PySem.W PySem.Spec PySem.Calls PyProof.Rows

abbrev dict0 : Obj := { cls := .type "dict", data := .dict #[] }
def hostsDef : Option (Arguments × List Stmt × Scope) := defOf (PySem.Challenge.rw_km0063_02.row.prog.main.body.reverse[2]?)
def hostsB : List Stmt := bodyOf hostsDef
def hostsS : Scope := scopeOf hostsDef
def whileOf (ws : List Stmt) : List Stmt := match ws with
  | .While _ b _ _ :: _ => b
  | _ => []
def hostsW : List Stmt := whileOf (hostsB.drop 1)
abbrev hostsEnv (L : Addr) : Env := envX "_law_hosts" hostsS L 112 (.ref 111) []
/-- an exception on its way out of the frame at hand, held by it -/
def FlyIn (g : Heap) (L : Addr) (env : Env) (outer : List Env) (e d t : Addr) (own1 : List (Addr × Obj)) (h' : Heap) : Prop :=
  ∃ hc ks lo ownc, St g L hc lo ownc ∧ (∀ b ∈ ks, b ∈ keys ownc) ∧ Flown hc ks (env :: outer) e (.ref 39) (some d) (.ref t) (rawInt L) own1 h'
theorem app_ne {x y : Str} (h : 0 < x.length) : (x ++ y != Str.ofString "") = true := by
  rw [bne_iff_ne]
  intro e
  have := congrArg Str.length e
  rw [Str.length_append, show (Str.ofString "").length = 0 by decide +kernel] at this
  omega
theorem stops_top {x : Str} {r : List Str} {i : Nat} {n : Str} {e : Ent} {H : Hosts} (h : stops.any (· == x) = true) : due (x :: r) i (.follow n e) H = due (x :: r) i .top (putA H n e) := by
  simp only [due, h, if_true]
  by_cases c1 : (x == Str.empty) = true
  · simp [c1]
  · by_cases c2 : (x == Str.ofString "machine") = true
    · simp [c1, c2]
    · have c3 : (x == Str.ofString "default") = true := by
        obtain ⟨y, hy, e⟩ := List.any_eq_true.mp h
        rcases List.mem_cons.mp hy with rfl | hy
        · exact absurd (by rw [← eq_of_beq e]; decide +kernel) c1
        · rcases List.mem_cons.mp hy with rfl | hy
          · exact absurd (by rw [← eq_of_beq e]; decide +kernel) c2
          · rcases List.mem_singleton.mp hy with rfl
            rw [← eq_of_beq e]; decide +kernel
      simp [c1, c2, c3]

theorem hosts_tail {w : World} {b0 : Heap} {p : Program} {loose : List Str} {mg mb : Str → Option Value} {mean : ExcName → Option Value} (X0 : (hd2.heap_39 w.params).In b0) (T0 : Top p loose mean mg mb b0) {A : Around} {outer : List Env} (hroom : A.depth < 350) (hh : A.handled = none)
    {h0 g h : Heap} {own0 : List (Addr × Obj)} (KB : Below A b0 outer (gOf h0 own0)) (hg : gOf h0 own0 = g) {G : Array GenState} {D : Drawn} {tk : Nat} {O : OsState} {L : Addr} (hL1 : 1 < L) {r : Rig} (ok : RigOk r) {fs : List Nat} (ht : r.text = textOf fs) (hf : ∀ f ∈ fs, f < 12) (hfl : fs.length ≤ 14)
    {dA : Addr} {i j nP : Nat} {H : Hosts} {od : Obj} {kvs : List (Str × Value)} {ts : List (Addr × Obj)} {nm : Str} {tn tA tL : Tok} {out : Nat × Str × Hosts} (hod : od.IsDictOf (strKind PySem.Challenge.rw_km0063_02.row.prog w) kvs) (hrel : Rel (IsE PySem.Challenge.rw_km0063_02.row.prog w ts) kvs H) (hkl : kvs.length ≤ i) (hij : i < j)
    (hd : due ((wl fs).drop j) j (.follow nm []) H = some out)
    (S : St g L h [("name", .str nm tn), ("lex", .ref r.xL), ("hosts", .ref dA)] ((dA, od) :: ((r.with [] nP).own (posOf fs j) tA (lnsOf fs j) tL ++ ts))) {Q : Flow → Shared → Prop} {E : Value → Shared → Prop}
    (q : ∀ h tk i' nP H od kvs ts x t tA tL, i < i' → i' < fs.length + 3 → x.length ≤ 8 → due (x :: (wl fs).drop (i' + 1)) i' .top H = some out → od.IsDictOf (strKind PySem.Challenge.rw_km0063_02.row.prog w) kvs → Rel (IsE PySem.Challenge.rw_km0063_02.row.prog w ts) kvs H → kvs.length ≤ i' →
      St g L h [("word", .str x t), ("lex", .ref r.xL), ("hosts", .ref dA)] ((dA, od) :: ((r.with [] nP).own (posOf fs (i' + 1)) tA (lnsOf fs (i' + 1)) tL ++ ts)) → Q .next ⟨h, G, D, tk, O⟩)
    (qe : (out.2.1 != Str.ofString "") = true → out.2.1.length ≤ 40 → ∀ e d ode t' tm tf tl od kvs ts h tk tA tL nP, DictMap ode (netMap (.str out.2.1 tm) (.str "file" tf) (.int (lnsOf fs (out.1 + 1)) tl)) →
      FlyIn g L (hostsEnv L) outer e d t' ((d, ode) :: (t', tupOf [.str out.2.1 tm]) :: (dA, od) :: ((r.with [] nP).own (posOf fs (out.1 + 1)) tA (lnsOf fs (out.1 + 1)) tL ++ ts)) h →
      od.IsDictOf (strKind PySem.Challenge.rw_km0063_02.row.prog w) kvs → Rel (IsE PySem.Challenge.rw_km0063_02.row.prog w ts) kvs out.2.2 → kvs.length ≤ 20 → E (.ref e) ⟨h, G, D, tk, O⟩) :
    wpAny (model PySem.Challenge.rw_km0063_02.row.prog w) (A.deeper (hostsEnv L)) (execs (hostsW.drop 3) (hostsEnv L)) Q E ⟨h, G, D, tk, O⟩ := by
  have hbg : b0.StaysIn g := hg ▸ KB.stays
  have X := X0.keeps hbg
  have T := topRead_of (T0.keeps hbg)
  have _kf : (hd2.heap_39 w.params).In g ∧ PySem.Challenge.rw_km0063_02 = PySem.Challenge.rw_km0063_02 := by (k_fill; exact ⟨X, rfl⟩)
  clear _kf
  have l1 : (Str.ofString "bad toplevel token ").length = 19 := by decide +kernel
  have l2 : (Str.ofString "bad follower token ").length = 19 := by decide +kernel
  have hroom2 : A.depth < 360 := by omega
  have hroom4 : A.depth < 400 := by omega
  with_unfolding_all refine' m_execs_cons ?_
  repeat (walk_at "m")
  have heA1 := above1 hL1 hdL
  obtain ⟨eA, heA⟩ : ∃ x, x = d := ⟨d, rfl⟩
  rw [← heA] at S heA1
  clear heA hdL
  walk_at "gt"
  refine' call_tok (pre := [(eA, dict0), (dA, od)]) (post := ts) (i := j) X0 T0 hroom2 hh hbg (ok.push [] nP) rfl ht hf S ?_
  clear S
  intro t h tk tA tL S
  obtain ⟨hj3, hd⟩ := due_next hd
  repeat (walk_at "m")
  refine' wpAny_While (m_whileJ (fun n s' => ∃ (h : Heap) (tk j : Nat) (e : Ent) (oe : Obj) (kve : List (Str × Value)) (x : Str) (t tA tL : Tok), s' = ⟨h, G, D, tk, O⟩ ∧ n = fs.length + 3 - j ∧ i < j ∧ j < fs.length + 3 ∧ x.length ≤ 8 ∧ due (x :: (wl fs).drop (j + 1)) j (.follow nm e) H = some out ∧
    oe.IsDictOf (strKind PySem.Challenge.rw_km0063_02.row.prog w) kve ∧ Rel IsS kve e ∧ kve.length ≤ j ∧
    St g L h [("key", .str x t), ("entry", .ref eA), ("name", .str nm tn), ("lex", .ref r.xL), ("hosts", .ref dA)] ((eA, oe) :: (dA, od) :: ((r.with [] nP).own (posOf fs (j + 1)) tA (lnsOf fs (j + 1)) tL ++ ts))) ?turn (fs.length + 3 - j) ?init)
  case init => exact ⟨h, _, j, [], dict0, [], _, t, tA, tL, rfl, rfl, hij, hj3, word_at_len fs j, hd, dict0_is, .nil, Nat.zero_le _, S.low (lo_cons rfl (lo_cons rfl (lo_cons rfl (lo_cons rfl (lo_cons rfl lo_nil)))))⟩
  clear S hd hj3
  rintro n s' ⟨h, tk, j, e, oe, kve, x, t, tA, tL, rfl, hn, hij, hj3, hx8, hd, hoe, hre, hke, S⟩ J2 Q2 E2 hJ2 hQ2 hE2
  obtain ⟨tx, htx⟩ : ∃ tx, tx = t := ⟨t, rfl⟩
  rw [← htx] at S
  clear htx
  repeat (walk_at "m")
  refine' m_notinTup S (.head _) (.cons _ _ (.cons _ _ (.cons _ _ .nil))) ?_
  rw [show [Str.ofString "", Str.ofString "machine", Str.ofString "default"] = stops by rw [e_empty]; rfl]
  replace S := S.pick (List.sublist_cons_self _ _)
  repeat (walk_at "m")
  apply m_ifb <;> intro hs1
  · have hs1' : stops.any (· == x) = false := by simpa using hs1
    simp only [due] at hd
    rw [if_neg (by rw [hs1']; decide)] at hd
    repeat (walk_at "m")
    refine' m_notinTup S (.head _) (.cons _ _ (.cons _ _ (.cons _ _ .nil))) ?_
    rw [show [Str.ofString "login", Str.ofString "account", Str.ofString "password"] = fields by rfl]
    replace S := S.pick (List.sublist_cons_self _ _)
    repeat (walk_at "m")
    apply m_ifb <;> intro hf1
    · have hf1' : fields.any (· == x) = false := by simpa using hf1
      rw [if_neg (by rw [hf1']; decide)] at hd
      obtain rfl := Option.some.inj hd
      repeat (walk_at "m")
      refine' m_RaiseExc hh (excK1 w.params) ?_
      repeat (walk_at "m")
      refine' m_cwCls (by assumption) X ?hk3 ?hs ?hp ?_
      case hk3 => k_is
      case hs => with_unfolding_all rfl
      case hp => with_unfolding_all rfl
      repeat (walk_at "m")
      refine' m_getOwn S X ?hx ?hd ?hg2 ?hh2 ?ha ?hn ?hl ?hv ?_
      case hx => walk_at "mem"
      case hd => walk_at "mem"
      case hg2 => k_is
      case hh2 => k_is
      case ha => k_is
      case hn => first | rfl | k_is
      case hl => exact ok.ln _ _
      case hv => rfl
      intro tk
      repeat (walk_at "m")
      refine' and_K (S.hasK X) ?_
      refine' m_excNew (by assumption) X (excK1 w.params) ?hi ?hf ?hfc (by size_fits) ?_
      case hi => k_is
      case hf => rfl
      case hfc => rfl
      clear S
      intro h e t0 S
      refine' m_callF ?_
      refine' net_init X0 T0 (depth_type hroom4) (S.at (.head _)) (S.stays hbg (fun p hp => by rcases List.mem_singleton.mp hp with rfl; exact .head _)) ?_
      intro h' tk' d ode t' hdm he hnew hne hkept
      have S' := S.initBack hkept he hnew (by show [d, t'].Nodup; simp [hne])
      clear S
      refine ⟨rfl, e, some d, t', rfl, S'.hasK X, S'.at (.head _), ?_⟩
      subst hg
      refine' hE2 _ _ ?_
      refine' flown_born KB S' rfl rfl rfl rfl ?_
      intro h3 fl
      dsimp only at fl ⊢
      refine' flown_back fl (frames_no KB S') ?_
      clear fl
      intro h4 fl
      dsimp only at fl ⊢
      refine' qe (app_ne (by omega)) (by show (Str.ofString "bad follower token " ++ x).length ≤ 40; rw [Str.length_append]; omega) e d ode t' _ _ _ od kvs ts h4 _ tA tL nP hdm ⟨_, _, _, _, S', fun b hb => hb, fl.sub ?sub⟩ hod hrel (by omega)
      case sub => exact .cons₂ _ (.cons₂ _ (.cons _ (.cons _ (.cons₂ _ (List.Sublist.refl _)))))
    · have hf1' : fields.any (· == x) = true := by simpa using hf1
      rw [if_pos hf1'] at hd
      repeat (walk_at "m")
      walk_at "gt"
      refine' call_tok (pre := [(eA, oe), (dA, od)]) (post := ts) (i := j + 1) X0 T0 hroom2 hh hbg (ok.push [] nP) rfl ht hf S ?_
      clear S
      intro tv h tk tA tL S
      obtain ⟨hj4, hd⟩ := due_next hd
      simp only [due] at hd
      obtain ⟨hj5, hd⟩ := due_next hd
      repeat (walk_at "m")
      refine' m_setDict S hoe (le_big hke hj3 hfl) ?_
      clear S
      intro h tk oe' hoe' S
      repeat (walk_at "m")
      walk_at "gt"
      refine' call_tok (pre := [(eA, oe'), (dA, od)]) (post := ts) (i := j + 1 + 1) X0 T0 hroom2 hh hbg (ok.push [] nP) rfl ht hf S ?_
      clear S
      intro tv2 h tk tA tL S
      repeat (walk_at "m")
      exact hJ2 (fs.length + 3 - (j + 1 + 1)) _ (lt_turn2 hn hj3) ⟨h, _, j + 1 + 1, _, oe', _, _, tv2, tA, tL, rfl, rfl, by omega, hj5, word_at_len fs _, hd, hoe', hre.put ⟨_, rfl⟩, Nat.le_trans (stored_len _ _ _) (by omega), S.low (lo_cons rfl (lo_cons rfl (lo_cons rfl (lo_cons rfl (lo_cons rfl lo_nil)))))⟩
  · have hs1' : stops.any (· == x) = true := by simpa using hs1
    rw [stops_top hs1'] at hd
    repeat (walk_at "m")
    refine' hQ2 _ _ ?_
    repeat (walk_at "m")
    refine' m_methInst S X ?hx ?hd ?hg2 ?hf ?ht ?hl ?_
    case hx => walk_at "mem"
    case hd => walk_at "mem"
    case hg2 => k_is
    case hf => k_is
    case ht => k_is
    case hl => exact ok.pt _ _
    refine' m_cwK (fnAt_K X S ?hlk) ?hs ?hp ?_
    case hlk => rfl
    case hs => with_unfolding_all rfl
    case hp => with_unfolding_all rfl
    repeat (walk_at "m")
    refine' and_K (fnAt_K X S ?hlk2) ?_
    case hlk2 => rfl
    refine' call_push (pre := [(eA, oe), (dA, od)]) (post := ts) (i := j + 1) X0 T0 hroom2 hbg (ok.push [] nP) rfl S ?_
    clear S
    intro h tk S
    repeat (walk_at "m")
    replace S := S.first (pre := [_]) rfl
    refine' m_setDict S hod (by omega) ?_
    clear S
    intro h tk od' hod' S
    repeat (walk_at "m")
    walk_at "gt"
    refine' call_pb (c := (x, tx)) (pre := [(dA, od'), (eA, oe)]) (post := ts) (i := j + 1) X0 T0 hroom2 hbg (ok.push [(x, tx)] (nP + 1)) rfl S ?_
    clear S
    intro h tk S
    repeat (walk_at "m")
    have S2 : St g L h _ ((dA, od') :: (eA, oe) :: ((r.with [] (nP + 1 + 1)).own (posOf fs (j + 1)) tA (lnsOf fs (j + 1)) tL ++ ts)) := S
    have S3 := S2.perm (own' := (dA, od') :: ((r.with [] (nP + 1 + 1)).own (posOf fs (j + 1)) tA (lnsOf fs (j + 1)) tL ++ ((eA, oe) :: ts))) (List.Perm.cons _ List.perm_middle.symm)
    have hrel' := (hrel.mono (IsE.mono (ts' := (_, _) :: _) fun p hp => List.Mem.tail _ hp)).put (k := nm) (v := .ref eA) (a := e) ⟨eA, oe, kve, rfl, heA1, .head _, hoe, hre⟩
    exact q h _ j (nP + 1 + 1) _ od' _ _ x _ tA tL hij hj3 hx8 hd hod' hrel' (Nat.le_trans (stored_len kvs nm (.ref eA)) (by omega)) (S3.low (lo_cons rfl (lo_cons rfl (lo_cons rfl lo_nil))))
end Mine

namespace Mine
open PySem PySem.W PySem.Spec PySem.Calls PyProof.Rows


structure HostsQ (w : World) (r : Rig) (fs : List Nat) (out : Nat × Str × Hosts) (dA : Addr) (ks : List Addr) (outer : List Env) (h : Heap) (G : Array GenState) (D : Drawn) (O : OsState) (R : Result → Shared → Prop) : Prop where
  fin : out.2.1 = Str.ofString "" → ∀ od kvs ts h' tk' tA' tL' nP', (∀ b o, h.get? b = some o → b ∉ ks → h'.get? b = some o) → (∀ p ∈ (dA, od) :: (r.with [] nP').own (posOf fs (out.1 + 1)) tA' (lnsOf fs (out.1 + 1)) tL', h'.get? p.1 = some p.2) → (∀ p ∈ ts, h'.get? p.1 = some p.2 ∧ h.get? p.1 = none) → (keys ts).Nodup →
    od.IsDictOf (strKind PySem.Challenge.rw_km0063_02.row.prog w) kvs → Rel (IsE PySem.Challenge.rw_km0063_02.row.prog w ts) kvs out.2.2 → kvs.length ≤ 20 → R (.ok (.ret .none)) ⟨h', G, D, tk', O⟩
  bad : (out.2.1 != Str.ofString "") = true → out.2.1.length ≤ 40 → ∀ e d ode t' tm tf tl od kvs ts h' tk' tA' tL' nP', DictMap ode (netMap (.str out.2.1 tm) (.str "file" tf) (.int (lnsOf fs (out.1 + 1)) tl)) →
    Flown h ks outer e (.ref 39) (some d) (.ref t') .none ((d, ode) :: (t', tupOf [.str out.2.1 tm]) :: (dA, od) :: ((r.with [] nP').own (posOf fs (out.1 + 1)) tA' (lnsOf fs (out.1 + 1)) tL' ++ ts)) h' →
    od.IsDictOf (strKind PySem.Challenge.rw_km0063_02.row.prog w) kvs → Rel (IsE PySem.Challenge.rw_km0063_02.row.prog w ts) kvs out.2.2 → kvs.length ≤ 20 → R (.error (.ref e)) ⟨h', G, D, tk', O⟩
theorem not_two {x : Str} (h : [Str.ofString "machine", Str.ofString "default"].any (· == x) = false) : (x == Str.ofString "machine") = false ∧ (x == Str.ofString "default") = false := by
  have h0 := List.any_eq_false.mp h
  refine ⟨?_, ?_⟩ <;> refine beq_eq_false_iff_ne.mpr ?_ <;> rintro rfl
  · exact h0 _ (.head _) (by decide +kernel)
  · exact h0 _ (.tail _ (.head _)) (by decide +kernel)
theorem is_two {x : Str} (h : [Str.ofString "machine", Str.ofString "default"].any (· == x) = true) (h1 : (x == Str.ofString "machine") = false) : x = Str.ofString "default" := by
  obtain ⟨y, hy, e⟩ := List.any_eq_true.mp h
  rcases List.mem_cons.mp hy with rfl | hy
  · rw [← eq_of_beq e] at h1; exact absurd h1 (by decide +kernel)
  · rcases List.mem_singleton.mp hy with rfl
    exact (eq_of_beq e).symm
theorem ts_new {h h' : Heap} {L : Addr} {lo : List (Str × Value)} {own0 mid ts : List (Addr × Obj)} (S : St (gOf h own0) L h' lo (mid ++ ts)) (hk : keys mid = keys own0) : (∀ p ∈ ts, h'.get? p.1 = some p.2 ∧ h.get? p.1 = none) ∧ (keys ts).Nodup := by
  have nd := S.nd
  rw [List.map_append, List.nodup_append] at nd
  exact ⟨fun p hp => S.made (List.mem_append_right _ hp) fun hm => nd.2.2 p.1 (by rw [← hk] at hm; exact hm) p.1 (List.mem_map_of_mem (f := (·.1)) hp) rfl, nd.2.1⟩

theorem law_hosts {w : World} {b0 : Heap} {p : Program} {loose : List Str} {mg mb : Str → Option Value} {mean : ExcName → Option Value} (X0 : (hd2.heap_39 w.params).In b0) (T0 : Top p loose mean mg mb b0) {A : Around} {outer : List Env} (hroom : A.depth < 350) (hh : A.handled = none)
    {h : Heap} {G : Array GenState} {D : Drawn} {tk : Nat} {O : OsState} {r : Rig} (ok : RigOk r) {fs : List Nat} (ht : r.text = textOf fs) (hf : ∀ f ∈ fs, f < 12) (hfl : fs.length ≤ 14) {dA : Addr} {tA tL : Tok} {nP : Nat}
    (hown : ∀ p ∈ (dA, dict0) :: (r.with [] nP).own (posOf fs 0) tA (lnsOf fs 0) tL, h.get? p.1 = some p.2) (hnd : (keys ((dA, dict0) :: (r.with [] nP).own (posOf fs 0) tA (lnsOf fs 0) tL)).Nodup)
    (KB : Below A b0 outer (gOf h ((dA, dict0) :: (r.with [] nP).own (posOf fs 0) tA (lnsOf fs 0) tL))) {out : Nat × Str × Hosts} (hd : due (wl fs) 0 .top [] = some out) {R : Result → Shared → Prop} (q : HostsQ w r fs out dA (keys ((dA, dict0) :: (r.with [] nP).own (posOf fs 0) tA (lnsOf fs 0) tL)) outer h G D O R) :
    codeAny (model PySem.Challenge.rw_km0063_02.row.prog w) A (.call (.ref 112) ⟨[.ref r.xL, .ref dA], []⟩) R ⟨h, G, D, tk, O⟩ := by
  have hb := KB.stays
  have hb' : b0.StaysIn h := fun b o e => gOf_get (hb b o e)
  have _kf : (hd2.heap_39 w.params).In b0 ∧ PySem.Challenge.rw_km0063_02 = PySem.Challenge.rw_km0063_02 := by (k_fill; exact ⟨X0, rfl⟩)
  clear _kf
  refine' m_enter (own := (dA, dict0) :: (r.with [] nP).own (posOf fs 0) tA (lnsOf fs 0) tL) X0 T0.nolimit hb' hown hnd ?ho ?hcd ?hr ?hbind ?hloc ?hcell ?hco ?hgen ?hk ?_
  case ho => k_is
  case hcd => k_is
  case hr => have : (500:Nat) < recursionLimit := by decide
             omega
  case hbind => exact BindsTo.of_eq rfl
  case hloc => exact locs rfl
  case hcell => decide
  case hco => rfl
  case hgen => rfl
  case hk => rfl
  intro L h₁ tk₁ hL hk S
  have X := X0.keeps hb
  have T := topRead_of (T0.keeps hb)
  replace S := S.low (lo' := [("lex", .ref r.xL), ("hosts", .ref dA)]) (lo_cons rfl (lo_cons rfl lo_nil))
  have hL1 : 1 < L := by
    obtain ⟨fo, hfo⟩ : ∃ fo, (hd2.heap_39 w.params).lookup 63 = some fo := ⟨_, rfl⟩
    have := Heap.lt_size (hb' _ _ (X0 _ _ hfo))
    rw [hL]
    show (1 : Nat) < h.objs.size
    have h63 : (63 : Nat) < h.objs.size := this
    omega
  clear hL
  generalize hg : gOf h ((dA, dict0) :: (r.with [] nP).own (posOf fs 0) tA (lnsOf fs 0) tL) = g at S X T
  have hbg : b0.StaysIn g := hg ▸ hb
  have l1 : (Str.ofString "bad toplevel token ").length = 19 := by decide +kernel
  have l2 : (Str.ofString "bad follower token ").length = 19 := by decide +kernel
  have l3 : (Str.ofString "missing name").length = 12 := by decide +kernel
  have hroom2 : A.depth < 360 := by omega
  have hroom4 : A.depth < 400 := by omega
  repeat (walk_at "m")
  walk_at "gt"
  refine' call_tok (pre := [(dA, dict0)]) (post := []) (i := 0) X0 T0 hroom2 hh hbg (ok.push [] nP) rfl ht hf S ?_
  clear S
  intro t h tk tA tL S
  repeat (walk_at "m")
  obtain ⟨h0, hd⟩ := due_next (fs := fs) (i := 0) hd
  refine' wpAny_While (m_whileJ (fun n s' => ∃ (h : Heap) (tk i nP : Nat) (H : Hosts) (od : Obj) (kvs : List (Str × Value)) (ts : List (Addr × Obj)) (x : Str) (t tA tL : Tok), s' = ⟨h, G, D, tk, O⟩ ∧ n = fs.length + 3 - i ∧ i < fs.length + 3 ∧ x.length ≤ 8 ∧ due (x :: (wl fs).drop (i + 1)) i .top H = some out ∧
    od.IsDictOf (strKind PySem.Challenge.rw_km0063_02.row.prog w) kvs ∧ Rel (IsE PySem.Challenge.rw_km0063_02.row.prog w ts) kvs H ∧ kvs.length ≤ i ∧
    St g L h [("word", .str x t), ("lex", .ref r.xL), ("hosts", .ref dA)] ((dA, od) :: ((r.with [] nP).own (posOf fs (i + 1)) tA (lnsOf fs (i + 1)) tL ++ ts))) ?turn (fs.length + 3) ?init)
  case init => exact ⟨h, _, 0, nP, [], dict0, [], [], _, t, tA, tL, rfl, rfl, h0, word_at_len fs 0, hd, dict0_is, .nil, Nat.zero_le _, S⟩
  clear S h0 hd hown hnd hk t
  rintro n s' ⟨h, tk, i, nP, H, od, kvs, ts, x, t, tA, tL, rfl, hn, hi, hx8, hd, hod, hrel, hkl, S⟩ J1 Q1 E1 hJ1 hQ1 hE1
  obtain ⟨tx, htx⟩ : ∃ tx, tx = t := ⟨t, rfl⟩
  rw [← htx] at S
  clear htx
  repeat (walk_at "m")
  apply m_ifb <;> intro hx
  · have hx' : (x == Str.ofString "") = false := by simpa [bne] using hx
    simp only [due] at hd
    rw [← e_empty, if_neg (by rw [hx']; decide)] at hd
    repeat (walk_at "m")
    refine' m_notinTup S (.head _) (.cons _ _ (.cons _ _ .nil)) ?_
    replace S := S.pick (List.sublist_cons_self _ _)
    repeat (walk_at "m")
    apply m_ifb <;> intro hs1
    · have hs1' : ([Str.ofString "machine", Str.ofString "default"].any (· == x)) = false := by simpa using hs1
      obtain ⟨hm1, hm2⟩ := not_two hs1'
      rw [if_neg (by rw [hm1]; decide), if_neg (by rw [hm2]; decide)] at hd
      obtain rfl := Option.some.inj hd
      repeat (walk_at "m")
      refine' m_RaiseExc hh (excK1 w.params) ?_
      repeat (walk_at "m")
      refine' m_cwCls (by assumption) X ?hk3 ?hs ?hp ?_
      case hk3 => k_is
      case hs => with_unfolding_all rfl
      case hp => with_unfolding_all rfl
      repeat (walk_at "m")
      refine' m_getOwn S X ?hx ?hd ?hg2 ?hh2 ?ha ?hn ?hl ?hv ?_
      case hx => walk_at "mem"
      case hd => walk_at "mem"
      case hg2 => k_is
      case hh2 => k_is
      case ha => k_is
      case hn => first | rfl | k_is
      case hl => exact ok.ln _ _
      case hv => rfl
      intro tk
      repeat (walk_at "m")
      refine' and_K (S.hasK X) ?_
      refine' m_excNew (by assumption) X (excK1 w.params) ?hi ?hf ?hfc (by size_fits) ?_
      case hi => k_is
      case hf => rfl
      case hfc => rfl
      clear S
      intro h e t0 S
      refine' m_callF ?_
      refine' net_init X0 T0 (depth_type hroom4) (S.at (.head _)) (S.stays hbg (fun p hp => by rcases List.mem_singleton.mp hp with rfl; exact .head _)) ?_
      intro h' tk' d ode t' hdm he hnew hne hkept
      have S' := S.initBack hkept he hnew (by show [d, t'].Nodup; simp [hne])
      clear S
      refine ⟨rfl, e, some d, t', rfl, S'.hasK X, S'.at (.head _), ?_⟩
      subst hg
      refine' hE1 _ _ ?_
      refine' flown_born KB S' rfl rfl rfl rfl ?_
      intro h3 fl
      dsimp only at fl ⊢
      refine' flown_back fl (frames_no KB S') ?_
      clear fl
      intro h4 fl
      dsimp only at fl ⊢
      refine' flown_leave KB S' fl (.inr rfl) (fun b hb => hb) ?_
      clear fl
      intro h5 fl
      refine' q.bad (app_ne (by omega)) (by show (Str.ofString "bad toplevel token " ++ x).length ≤ 40; rw [Str.length_append]; omega) e d ode t' _ _ _ od kvs ts h5 _ tA tL nP hdm (fl.sub ?sub) hod hrel (by omega)
      case sub => exact .cons₂ _ (.cons₂ _ (.cons _ (.cons₂ _ (List.Sublist.refl _))))
    · have hs1' : ([Str.ofString "machine", Str.ofString "default"].any (· == x)) = true := by
        rw [Bool.not_eq_false'] at hs1
        exact hs1
      repeat (walk_at "m")
      apply m_ifb <;> intro hm1
      · rw [if_pos hm1] at hd
        repeat (walk_at "m")
        walk_at "gt"
        refine' call_tok (pre := [(dA, od)]) (post := ts) (i := i + 1) X0 T0 hroom2 hh hbg (ok.push [] nP) rfl ht hf S ?_
        clear S
        intro tn h tk tA tL S
        obtain ⟨hi1, hd⟩ := due_next hd
        simp only [due] at hd
        rw [← e_empty] at hd
        repeat (walk_at "m")
        apply m_ifb <;> intro hnm
        · rw [if_pos hnm] at hd
          obtain rfl := Option.some.inj hd
          repeat (walk_at "m")
          refine' m_RaiseExc hh (excK1 w.params) ?_
          repeat (walk_at "m")
          refine' m_cwCls (by assumption) X ?hk3 ?hs ?hp ?_
          case hk3 => k_is
          case hs => with_unfolding_all rfl
          case hp => with_unfolding_all rfl
          repeat (walk_at "m")
          refine' m_getOwn S X ?hx ?hd ?hg2 ?hh2 ?ha ?hn ?hl ?hv ?_
          case hx => walk_at "mem"
          case hd => walk_at "mem"
          case hg2 => k_is
          case hh2 => k_is
          case ha => k_is
          case hn => first | rfl | k_is
          case hl => exact ok.ln _ _
          case hv => rfl
          intro tk
          repeat (walk_at "m")
          refine' and_K (S.hasK X) ?_
          refine' m_excNew (by assumption) X (excK1 w.params) ?hi ?hf ?hfc (by size_fits) ?_
          case hi => k_is
          case hf => rfl
          case hfc => rfl
          clear S
          intro h e t0 S
          refine' m_callF ?_
          refine' net_init X0 T0 (depth_type hroom4) (S.at (.head _)) (S.stays hbg (fun p hp => by rcases List.mem_singleton.mp hp with rfl; exact .head _)) ?_
          intro h' tk' d ode t' hdm he hnew hne hkept
          have S' := S.initBack hkept he hnew (by show [d, t'].Nodup; simp [hne])
          clear S
          refine ⟨rfl, e, some d, t', rfl, S'.hasK X, S'.at (.head _), ?_⟩
          subst hg
          refine' hE1 _ _ ?_
          refine' flown_born KB S' rfl rfl rfl rfl ?_
          intro h3 fl
          dsimp only at fl ⊢
          refine' flown_back fl (frames_no KB S') ?_
          clear fl
          intro h4 fl
          dsimp only at fl ⊢
          refine' flown_leave KB S' fl (.inr rfl) (fun b hb => hb) ?_
          clear fl
          intro h5 fl
          refine' q.bad (by show (Str.ofString "missing name" != Str.ofString "") = true; decide +kernel) (by show (Str.ofString "missing name").length ≤ 40; omega) e d ode t' _ _ _ od kvs ts h5 _ tA tL nP hdm (fl.sub ?sub) hod hrel (by omega)
          case sub => exact .cons₂ _ (.cons₂ _ (.cons _ (.cons₂ _ (List.Sublist.refl _))))
        · rw [if_neg (by rw [hnm]; decide)] at hd
          refine' wpAny_execs_nil ?_
          dsimp only
          refine' hosts_tail (i := i) (j := i + 1 + 1) (out := out) X0 T0 hroom hh KB hg hL1 ok ht hf hfl hod hrel hkl (by omega) hd (S.low (lo_cons rfl (lo_cons rfl (lo_cons rfl lo_nil)))) ?q1 ?q2
          case q1 =>
            intro h tk i' nP H od kvs ts x t tA tL c1 c2 c3 c4 c5 c6 c7 S
            exact hJ1 (fs.length + 3 - i') _ (lt_turn3 hn c1 c2) ⟨h, tk, i', nP, H, od, kvs, ts, x, t, tA, tL, rfl, rfl, c2, c3, c4, c5, c6, c7, S⟩
          case q2 =>
            intro c1 c2 e d ode t' tm tf tl od kvs ts h tk tA tL nP hdm fl hod hrel hkl
            obtain ⟨hc, ks, lo, ownc, Sc, hks, fl⟩ := fl
            subst hg
            refine' hE1 _ _ ?_
            refine' flown_noted KB fl (frames_no KB Sc) (.inr rfl) ?_
            clear fl
            intro h3 fl
            dsimp only at fl ⊢
            refine' flown_back fl (frames_no KB Sc) ?_
            clear fl
            intro h4 fl
            dsimp only at fl ⊢
            refine' flown_leave KB Sc fl (.inr rfl) hks ?_
            clear fl
            intro h5 fl
            exact q.bad c1 c2 e d ode t' _ _ _ od kvs ts h5 _ tA tL nP hdm fl hod hrel hkl
      · have hxd := is_two hs1' hm1
        rw [if_neg (by rw [hm1]; decide), if_pos (by rw [hxd]; decide +kernel)] at hd
        repeat (walk_at "m")
        rw [hx']
        refine' m_iff ?_
        refine' wpAny_execs_nil ?_
        dsimp only
        refine' hosts_tail (i := i) (j := i + 1) (out := out) X0 T0 hroom hh KB hg hL1 ok ht hf hfl hod hrel hkl (by omega) hd (S.low (lo_cons rfl (lo_cons rfl (lo_cons rfl lo_nil)))) ?q1 ?q2
        case q1 =>
          intro h tk i' nP H od kvs ts x t tA tL c1 c2 c3 c4 c5 c6 c7 S
          exact hJ1 (fs.length + 3 - i') _ (lt_turn3 hn c1 c2) ⟨h, tk, i', nP, H, od, kvs, ts, x, t, tA, tL, rfl, rfl, c2, c3, c4, c5, c6, c7, S⟩
        case q2 =>
          intro c1 c2 e d ode t' tm tf tl od kvs ts h tk tA tL nP hdm fl hod hrel hkl
          obtain ⟨hc, ks, lo, ownc, Sc, hks, fl⟩ := fl
          subst hg
          refine' hE1 _ _ ?_
          refine' flown_noted KB fl (frames_no KB Sc) (.inr rfl) ?_
          clear fl
          intro h3 fl
          dsimp only at fl ⊢
          refine' flown_back fl (frames_no KB Sc) ?_
          clear fl
          intro h4 fl
          dsimp only at fl ⊢
          refine' flown_leave KB Sc fl (.inr rfl) hks ?_
          clear fl
          intro h5 fl
          exact q.bad c1 c2 e d ode t' _ _ _ od kvs ts h5 _ tA tL nP hdm fl hod hrel hkl
  · have hx' : (x == Str.ofString "") = true := by simpa [bne] using hx
    simp only [due] at hd
    rw [← e_empty, if_pos hx'] at hd
    obtain rfl := Option.some.inj hd
    repeat (walk_at "m")
    refine' hQ1 _ _ ?_
    repeat (walk_at "m")
    subst hg
    obtain ⟨n1, n2⟩ := ts_new (mid := (dA, od) :: (r.with [] nP).own (posOf fs (i + 1)) tA (lnsOf fs (i + 1)) tL) S rfl
    exact q.fin rfl od kvs ts h _ tA tL nP S.keptBut (fun p hp => S.at (a := p.1) (o := p.2) (List.mem_append_left (as := (dA, od) :: (r.with [] nP).own (posOf fs (i + 1)) tA (lnsOf fs (i + 1)) tL) ts hp)) n1 n2 hod hrel (by omega)
end Mine

namespace Mine
open PySem PySem.W PySem.Spec PySem.Calls PyProof.Rows

def lawB : List Stmt := match lawDef with
  | some x => x.2.1
  | none => []
def lawS : Scope := match lawDef with
  | some x => x.2.2
  | none => default
abbrev lawCl (L : Addr) : List (Str × Addr) := cellsFrom (L + 1) lawS.names []
abbrev lawEnv (L fa : Addr) (cd : Value) : Env := envX "law" lawS L fa cd (lawCl L)

theorem rest_of {pre mid post : List (Addr × Obj)} (nd : ((pre ++ (mid ++ post)).map (·.1)).Nodup) : (∀ b ∈ keys mid, b ∈ keys (pre ++ (mid ++ post))) ∧ (∀ p ∈ pre ++ post, p ∈ pre ++ (mid ++ post) ∧ p.1 ∉ keys mid) ∧ (keys (pre ++ post)).Nodup := by
  refine ⟨fun b hb => ?_, fun p hp => ?_, ?_⟩
  · show b ∈ List.map (·.1) (pre ++ (mid ++ post))
    rw [List.map_append, List.map_append]
    exact List.mem_append_right _ (List.mem_append_left _ hb)
  · rw [List.map_append, List.map_append, List.nodup_append, List.nodup_append] at nd
    rcases List.mem_append.mp hp with hp | hp
    · exact ⟨List.mem_append_left _ hp, fun hm => nd.2.2 p.1 (List.mem_map_of_mem (f := (·.1)) hp) p.1 (List.mem_append_left _ hm) rfl⟩
    · exact ⟨List.mem_append_right _ (List.mem_append_right _ hp), fun hm => nd.2.1.2.2 p.1 hm p.1 (List.mem_map_of_mem (f := (·.1)) hp) rfl⟩
  · exact nd.sublist (((List.Sublist.refl pre).append (List.sublist_append_right mid post)).map _)
/-- after a call that turned the ledger's head and made new objects -/
theorem St.turn {g h h' : Heap} {L : Addr} {lo : List (Str × Value)} {mid mid' post new : List (Addr × Obj)} (S : St g L h lo (mid ++ post)) (hk : ∀ b o, h.get? b = some o → b ∉ keys mid → h'.get? b = some o) (hm : ∀ p ∈ mid', h'.get? p.1 = some p.2) (hkeys : keys mid' = keys mid)
    (hn : ∀ p ∈ new, h'.get? p.1 = some p.2 ∧ h.get? p.1 = none) (hd : (keys new).Nodup) : St g L h' lo (new ++ (mid' ++ post)) := by
  have S1 := St.around (pre := []) S hk hm hkeys
  refine S.afterNew (own1 := mid' ++ post) hk (fun b hb => ?_) (fun p hp => (S1.nw p hp).1) ?_ hn hd
  · show b ∈ List.map (·.1) (mid ++ post)
    rw [List.map_append]
    exact List.mem_append_left _ hb
  · show List.map (·.1) (mid' ++ post) = List.map (·.1) (mid ++ post)
    rw [List.map_append, List.map_append]
    exact congrArg (· ++ _) hkeys

/-- what `wrong` is behind the try -/
inductive WrongV (fs : List Nat) (out : Nat × Str × Hosts) : Value → List (Addr × Obj) → Prop
  | done (t : Tok) : out.2.1 = Str.ofString "" → WrongV fs out (.str (Str.ofString "") t) []
  | bad (a a2 : Addr) (t1 t2 t3 t4 t5 : Tok) : (out.2.1 != Str.ofString "") = true → out.2.1.length ≤ 40 →
      WrongV fs out (.ref a) [(a, tupOf [.str (netText out.2.1 (lnsOf fs (out.1 + 1))) t1, .str out.2.1 t2, .str "file" t3, .int (lnsOf fs (out.1 + 1)) t4, .ref a2]), (a2, tupOf [.str out.2.1 t5])]

theorem go_wrong {lo : List (Str × Value)} {v1 v2 v3 vh : Value} (hlo : ∀ x v, lo.lookup x = some v → x ≠ Str.ofString "error") : ∀ x v, ((Str.ofString "wrong", v1) :: (Str.ofString "hosts", vh) :: lo).lookup x = some v →
    x ≠ Str.ofString "error" ∧ ((Str.ofString "wrong", v1) :: (Str.ofString "error", v3) :: (Str.ofString "wrong", v2) :: (Str.ofString "hosts", vh) :: lo).lookup x = some v := fun x v e => by
  have n1 : (Str.ofString "error" == Str.ofString "wrong") = false := by decide +kernel
  have n2 : (Str.ofString "error" == Str.ofString "hosts") = false := by decide +kernel
  have hx : x ≠ Str.ofString "error" := by
    rintro rfl
    rw [lk_miss n1 (lk_miss n2 rfl)] at e
    exact hlo _ _ e rfl
  refine ⟨hx, ?_⟩
  have hx' : (x == Str.ofString "error") = false := by simpa using hx
  simp only [List.lookup_cons] at e ⊢
  cases h1 : (x == Str.ofString "wrong") with
  | true => rw [h1] at e; exact e
  | false =>
    rw [h1] at e
    simp only [hx'] 
    exact e
theorem law_try {w : World} {g : Heap} {p : Program} {loose : List Str} {mg mb : Str → Option Value} {mean : ExcName → Option Value} (X : (hd2.heap_39 w.params).In g) (T0 : Top p loose mean mg mb g)
    (KB : Below callerA g [] g) {h : Heap} {G : Array GenState} {D : Drawn} {tk : Nat} {O : OsState} {L fa : Addr} {cd : Value} {r : Rig} (ok : RigOk r) {fs : List Nat} (ht : r.text = textOf fs) (hf : ∀ f ∈ fs, f < 12) (hfl : fs.length ≤ 14) {dA : Addr} {tA tL tw : Tok} {nP : Nat} {oX : Obj} (hoX : oX.data = .cell (some (.ref r.xL)))
    {out : Nat × Str × Hosts} (hd : due (wl fs) 0 .top [] = some out) {lo : List (Str × Value)} {post : List (Addr × Obj)} (hlo : ∀ x v, lo.lookup x = some v → x ≠ "error")
    (S : St g L h (("wrong", .str (Str.ofString "") tw) :: ("hosts", .ref dA) :: lo) ((dA, dict0) :: ((r.with [] nP).own (posOf fs 0) tA (lnsOf fs 0) tL ++ ((L + 1 + 1, oX) :: post))))
    {Q : Flow → Shared → Prop} {E : Value → Shared → Prop}
    (q : ∀ h' tk' v ex nP od kvs ts tA tL, WrongV fs out v ex → od.IsDictOf (strKind PySem.Challenge.rw_km0063_02.row.prog w) kvs → Rel (IsE PySem.Challenge.rw_km0063_02.row.prog w ts) kvs out.2.2 → kvs.length ≤ 20 →
      St g L h' (("wrong", v) :: ("hosts", .ref dA) :: lo) (ex ++ (dA, od) :: ((r.with [] nP).own (posOf fs (out.1 + 1)) tA (lnsOf fs (out.1 + 1)) tL ++ (ts ++ ((L + 1 + 1, oX) :: post)))) → wpAny (model PySem.Challenge.rw_km0063_02.row.prog w) (callerA.deeper (lawEnv L fa cd)) (execs (lawB.drop 8) (lawEnv L fa cd)) Q E ⟨h', G, D, tk', O⟩) :
    wpAny (model PySem.Challenge.rw_km0063_02.row.prog w) (callerA.deeper (lawEnv L fa cd)) (execs (lawB.drop 7) (lawEnv L fa cd)) Q E ⟨h, G, D, tk, O⟩ := by
  have T := topRead_of T0
  have _kf : (hd2.heap_39 w.params).In g ∧ PySem.Challenge.rw_km0063_02 = PySem.Challenge.rw_km0063_02 := by (k_fill; exact ⟨X, rfl⟩)
  clear _kf
  have hclX : (lawCl L).lookup ("lex" : Str) = some (L + 1 + 1) := rfl
  with_unfolding_all refine' m_execs_cons ?_
  refine' wpAny_Try_except ?_
  repeat (walk_at "m")
  refine' m_cwK (fnAt_K X S ?hlk) ?hs ?hp ?_
  case hlk => rfl
  case hs => with_unfolding_all rfl
  case hp => with_unfolding_all rfl
  repeat (walk_at "m")
  refine' and_K (fnAt_K X S ?hlk2) ?_
  case hlk2 => rfl
  refine' m_callF ?_
  have hsub : ∀ p ∈ (dA, dict0) :: (r.with [] nP).own (posOf fs 0) tA (lnsOf fs 0) tL, p ∈ (dA, dict0) :: ((r.with [] nP).own (posOf fs 0) tA (lnsOf fs 0) tL ++ ((L + 1 + 1, oX) :: post)) := fun p hp => List.mem_append_left (as := (dA, dict0) :: (r.with [] nP).own (posOf fs 0) tA (lnsOf fs 0) tL) _ hp
  have hlns := lns_bound fs hfl (out.1 + 1)
  refine' law_hosts (A := callerA.deeper (lawEnv L fa cd)) X T0 ?hr ?hh ok ht hf hfl (fun p hp => S.at (a := p.1) (o := p.2) (hsub p hp)) ?hnd (below_call KB S hsub ?hkk) hd ?_
  case hr => show callerA.depth + 1 < 350; decide
  case hh => rfl
  case hkk => rfl
  case hnd => exact S.nd.sublist ((List.sublist_append_left ((dA, dict0) :: (r.with [] nP).own (posOf fs 0) tA (lnsOf fs 0) tL) _).map _)
  refine ⟨?fin, ?bad⟩
  case fin =>
    intro he od kvs ts h' tk' tA' tL' nP' hk2 hm2 hn2 hd2 hod hrel hkl
    have S' := St.turn (mid := (dA, dict0) :: (r.with [] nP).own (posOf fs 0) tA (lnsOf fs 0) tL) S hk2 hm2 rfl hn2 hd2
    clear S hsub
    dsimp only
    refine' wpAny_execs_nil ?_
    dsimp only
    try refine' wpAny_execs_nil ?_
    exact q _ _ _ [] nP' od kvs ts tA' tL' (.done tw he) hod hrel hkl (S'.perm (List.perm_append_comm_assoc ts ((dA, od) :: (r.with [] nP').own (posOf fs (out.1 + 1)) tA' (lnsOf fs (out.1 + 1)) tL') _))
  case bad =>
    intro hne hlen e d ode t' tm tf tl od kvs ts h' tk' tA' tL' nP' hdm fl hod hrel hkl
    dsimp only
    obtain ⟨hks, hrest, hrn⟩ := rest_of (pre := []) (mid := (dA, dict0) :: (r.with [] nP).own (posOf fs 0) tA (lnsOf fs 0) tL) (post := (L + 1 + 1, oX) :: post) S.nd
    refine' flown_note ?hfr fl (frames_no1 S) ?_
    case hfr => exact Around.frames_deeper KB.stack
    clear fl
    intro h2 fl
    dsimp only
    refine' flown_set fl (frames_no1 S) ?_
    clear fl
    intro h2 fl
    dsimp only
    obtain ⟨oe, vs, hec, hed, hef, hev, S2⟩ := fl.st S hks hrest hrn
    refine' clause_own (excK1 w.params) ?_
    repeat (walk_at "m")
    refine ⟨rfl, S2.hasK X, ⟨oe, S2.at (.head _), hec⟩, ?_⟩
    refine' flown_set fl (frames_no1 S) ?_
    clear S2 hec hed hef hev oe vs
    clear fl
    intro h2 fl
    dsimp only
    obtain ⟨oe, vs, hec, hed, hef, hev, S2⟩ := fl.st S hks hrest hrn
    clear fl S hsub
    have S := S2
    clear S2
    repeat (walk_at "m")
    refine' m_strOwn S X ?hu2 (.head _) hec hed ⟨vs, hef⟩ (.tail _ (.head _)) ?hs2 ?hf2 ?_
    case hu2 => show callerA.units + 3 + 1 + 1 < cLine; decide
    case hs2 => k_is
    case hf2 => k_is
    refine' m_callF ?_
    have hsub2 : ∀ p ∈ [(e, oe), (d, ode)], p ∈ (e, oe) :: (((d, ode) :: (t', tupOf [.str out.2.1 tm]) :: (dA, od) :: ((r.with [] nP').own (posOf fs (out.1 + 1)) tA' (lnsOf fs (out.1 + 1)) tL' ++ ts)) ++ ([] ++ ((L + 1 + 1, oX) :: post))) := fun p hp => by
      rcases List.mem_cons.mp hp with rfl | hp
      · exact .head _
      · rcases List.mem_singleton.mp hp with rfl; exact .tail _ (.head _)
    refine' net_str X T0 ?hr2 (by omega) (by omega) (by omega) (fun p hp => S.at (a := p.1) (o := p.2) (hsub2 p hp)) (S.apart (.head _)) hec hed ⟨vs, hef⟩ hdm (S.stays (fun _ _ e => e) hsub2) ?_
    case hr2 => show callerA.depth + 1 < 500; decide
    intro h' tk' t2 hkp
    replace S := S.keeps hkp
    show wpAny _ _ _ _ _ _
    clear hsub2
    repeat (walk_at "m")
    refine' m_getExc S X (excK1 w.params) (.head _) hec hed ⟨vs, hef⟩ (.tail _ (.head _)) hdm ?hv ?hg1 ?hg2 ?hna ?hB ?hh2 ?_
    case hv => rfl
    case hg1 => k_is
    case hg2 => k_is
    case hna => k_is
    case hB => rw [typeLookup_type, builtinLookup_eq_fast]; kernel_rfl
    case hh2 => rfl
    intro tk
    repeat (walk_at "m")
    refine' m_getExc S X (excK1 w.params) (.head _) hec hed ⟨vs, hef⟩ (.tail _ (.head _)) hdm ?hv ?hg1 ?hg2 ?hna ?hB ?hh2 ?_
    case hv => rfl
    case hg1 => k_is
    case hg2 => k_is
    case hna => k_is
    case hB => rw [typeLookup_type, builtinLookup_eq_fast]; kernel_rfl
    case hh2 => rfl
    intro tk
    repeat (walk_at "m")
    refine' m_getExc S X (excK1 w.params) (.head _) hec hed ⟨vs, hef⟩ (.tail _ (.head _)) hdm ?hv ?hg1 ?hg2 ?hna ?hB ?hh2 ?_
    case hv => rfl
    case hg1 => k_is
    case hg2 => k_is
    case hna => k_is
    case hB => rw [typeLookup_type, builtinLookup_eq_fast]; kernel_rfl
    case hh2 => rfl
    intro tk
    repeat (walk_at "m")
    refine' m_excArgs S X (excK1 w.params) (.head _) hec hef hev ?hg1 ?hg2 ?hna ?_
    case hg1 => k_is
    case hg2 => k_is
    case hna => k_is
    intro tk
    repeat (walk_at "m")
    refine' m_nameGoes S ?hx3 ?hk3 (lo' := (Str.ofString "wrong", .ref _) :: (Str.ofString "hosts", .ref dA) :: lo) (go_wrong hlo) ?_
    case hx3 => rfl
    case hk3 => rfl
    clear S
    intro h tk S
    obtain ⟨aW, haW⟩ : ∃ x, x = l := ⟨l, rfl⟩
    rw [← haW] at S
    have S3 := S.pick (own' := [(aW, _), (t', tupOf [.str out.2.1 tm])] ++ ((dA, od) :: (((r.with [] nP').own (posOf fs (out.1 + 1)) tA' (lnsOf fs (out.1 + 1)) tL' ++ ts) ++ ((L + 1 + 1, oX) :: post)))) (.cons₂ _ (.cons _ (.cons _ (List.Sublist.refl _))))
    rw [List.append_assoc ((r.with [] nP').own (posOf fs (out.1 + 1)) tA' (lnsOf fs (out.1 + 1)) tL') ts] at S3
    exact q _ _ _ _ nP' od kvs ts tA' tL' (.bad aW t' _ _ _ _ _ hne hlen) hod hrel hkl S3
end Mine

namespace Mine
open PySem PySem.W PySem.Spec PySem.Calls PyProof.Rows PyProof
theorem endsV_get {fs : List Nat} {ts : List Tok} {i : Nat} (h : i < ts.length) : ∃ u, (endsV fs ts)[i]? = some (.int ((posOf fs (i + 1) : Nat) : Int) u) := by
  unfold endsV
  rw [List.getElem?_mapIdx, List.getElem?_eq_getElem h]
  exact ⟨_, rfl⟩
theorem ends_get {fs : List Nat} {ts : List Tok} (hl : ts.length = fs.length) {i : Nat} (hi : i < fs.length + 3) (t : Tok) :
    ∃ u, (endsV fs ts ++ [.int ((textOf fs).length : Int) t, .int ((textOf fs).length : Int) t, .int ((textOf fs).length : Int) t])[i]? = some (.int ((posOf fs (i + 1) : Nat) : Int) u) := by
  rcases Nat.lt_or_ge i fs.length with h | h
  · rw [List.getElem?_append_left (by rw [endsV_len, hl]; exact h)]
    exact endsV_get (by rw [hl]; exact h)
  · have e : posOf fs (i + 1) = (textOf fs).length := by unfold posOf; rw [List.take_of_length_le (by omega)]
    rw [List.getElem?_append_right (by rw [endsV_len, hl]; exact h), endsV_len, hl, e]
    obtain ⟨d, hd⟩ : ∃ d, d = i - fs.length := ⟨_, rfl⟩
    rw [← hd]
    match d, (show d < 3 by omega) with
    | 0, _ => exact ⟨t, rfl⟩
    | 1, _ => exact ⟨t, rfl⟩
    | 2, _ => exact ⟨t, rfl⟩
section
variable {prog : Program} {w : World} {A : Around} {s : Shared}
theorem zip1 {P : Value → Value → Prop} {a b : Value} (h : P a b) : ∀ (j : Nat) (x y : Value), [a][j]? = some x → [b][j]? = some y → P x y
  | 0, x, y, e1, e2 => by
    have e1 : a = x := by simpa using e1
    have e2 : b = y := by simpa using e2
    rw [← e1, ← e2]; exact h
  | j + 1, x, y, e1, e2 => by simp at e1
theorem zipc {P : Value → Value → Prop} {a b : Value} {r q : List Value} (h : P a b) (hr : ∀ (j : Nat) (x y : Value), r[j]? = some x → q[j]? = some y → P x y) : ∀ (j : Nat) (x y : Value), (a :: r)[j]? = some x → (b :: q)[j]? = some y → P x y
  | 0, x, y, e1, e2 => by
    have e1 : a = x := by simpa using e1
    have e2 : b = y := by simpa using e2
    rw [← e1, ← e2]; exact h
  | j + 1, x, y, e1, e2 => hr j x y (by simpa using e1) (by simpa using e2)
theorem zip0 {P : Value → Value → Prop} : ∀ (j : Nat) (x y : Value), ([] : List Value)[j]? = some x → ([] : List Value)[j]? = some y → P x y := fun j x y e => by simp at e
/-- two tuples with equal items -/
theorem EqW.tups {l b : Addr} {xs ys : List Value} (hl : s.heap.get? l = some (tupOf xs)) (hb : s.heap.get? b = some (tupOf ys)) (hlen : xs.length = ys.length)
    (he : ∀ (j : Nat) (x y : Value), xs[j]? = some x → ys[j]? = some y → EqW prog w A.in1 s x y) (hu : A.units < cLine) : EqW prog w A s (.ref l) (.ref b) := by
  by_cases e : l = b
  · subst e; exact EqW.same _
  · exact EqW.refs e (eqW_zip hl hb hlen he hu)
theorem EqW.lists {l b : Addr} {xs ys : List Value} {n n2 : Nat} (hl : s.heap.get? l = some (listOf xs.toArray n)) (hb : s.heap.get? b = some (listOf ys.toArray n2)) (hlen : xs.length = ys.length)
    (he : ∀ (j : Nat) (x y : Value), xs[j]? = some x → ys[j]? = some y → EqW prog w A.in1 s x y) (hu : A.units < cLine) : EqW prog w A s (.ref l) (.ref b) := by
  by_cases e : l = b
  · subst e; exact EqW.same _
  · exact EqW.refs e (eqW_lists hl hb hlen he hu)
theorem wrong_same {fs : List Nat} {out : Nat × Str × Hosts} {v v2 : Value} {ex ex2 : List (Addr × Obj)} (h1 : WrongV fs out v ex) (h2 : WrongV fs out v2 ex2) (m1 : ∀ p ∈ ex, s.heap.get? p.1 = some p.2) (m2 : ∀ p ∈ ex2, s.heap.get? p.1 = some p.2)
    (hu : A.units < cLine) (hu1 : A.in1.units < cLine) : EqW prog w A s v v2 := by
  cases h1 with
  | done t e1 =>
    cases h2 with
    | done u e2 => exact EqW.strs
    | bad _ _ _ _ _ _ _ e2 _ => rw [e1] at e2; exact absurd e2 (by decide +kernel)
  | bad a a2 t1 t2 t3 t4 t5 e1 _ =>
    cases h2 with
    | done u e2 => rw [e2] at e1; exact absurd e1 (by decide +kernel)
    | bad b b2 u1 u2 u3 u4 u5 e2 _ =>
      refine EqW.tups (m1 _ (.head _)) (m2 _ (.head _)) rfl ?_ hu
      exact zipc EqW.strs (zipc EqW.strs (zipc EqW.strs (zipc EqW.ints (zip1 (EqW.tups (m1 _ (.tail _ (.head _))) (m2 _ (.tail _ (.head _))) rfl (zip1 EqW.strs) hu1)))))
theorem pairs_same {kvs1 kvs2 : List (Str × Value)} {vs1 vs2 : List Value} {tups1 tups2 ts1 ts2 : List (Addr × Obj)} {H : Hosts} (i1 : Items kvs1 vs1 tups1) (i2 : Items kvs2 vs2 tups2) (r1 : Rel (IsE prog w ts1) kvs1 H) (r2 : Rel (IsE prog w ts2) kvs2 H)
    (m1 : ∀ p ∈ tups1, s.heap.get? p.1 = some p.2) (m2 : ∀ p ∈ tups2, s.heap.get? p.1 = some p.2) (n1 : ∀ p ∈ ts1, s.heap.get? p.1 = some p.2) (n2 : ∀ p ∈ ts2, s.heap.get? p.1 = some p.2) (hu : A.units < cLine) (hu1 : A.in1.units < cLine) :
    ∀ (j : Nat) (x y : Value), vs1[j]? = some x → vs2[j]? = some y → EqW prog w A s x y := fun j x y e1 e2 => by
  have hj : j < kvs1.length := by rw [← i1.1]; exact (List.getElem?_eq_some_iff.mp e1).1
  obtain ⟨⟨k, v1⟩, hk⟩ : ∃ p, kvs1[j]? = some p := ⟨_, List.getElem?_eq_getElem hj⟩
  obtain ⟨a, t, ha, hat⟩ := i1.2 j k v1 hk
  obtain ⟨e, he, hev⟩ := r1.get hk
  obtain ⟨v2, hv2, hev2⟩ := r2.back he
  obtain ⟨b, u, hb, hbt⟩ := i2.2 j k v2 hv2
  rw [e1] at ha
  rw [e2] at hb
  cases ha
  cases hb
  exact EqW.tups (m1 _ hat) (m2 _ hbt) rfl (zipc EqW.strs (zip1 (ents_same hev hev2 n1 n2 hu1))) hu
end
/-- the words behind the place -/
theorem words_behind (fs : List Nat) (i j : Nat) (h : j < (fs.length - (i + 1)) + 2) : ((fs.map wordOf).drop (i + 1) ++ [Str.empty, Str.empty])[j]? = some (wordAt fs (i + 1 + j)) := by
  unfold wordAt
  rcases Nat.lt_or_ge (i + 1 + j) fs.length with h2 | h2
  · rw [List.getElem?_append_left (by rw [List.length_drop, List.length_map]; omega), List.getElem?_drop, List.getElem?_map, List.getElem?_eq_getElem h2]
    rfl
  · rw [List.getElem?_append_right (by rw [List.length_drop, List.length_map]; omega), List.length_drop, List.length_map, List.getElem?_eq_none h2]
    obtain ⟨d, hd⟩ : ∃ d, d = j - (fs.length - (i + 1)) := ⟨_, rfl⟩
    rw [← hd]
    match d, (show d < 2 by omega) with
    | 0, _ => rfl
    | 1, _ => rfl
end Mine

namespace Mine
open PySem PySem.W PySem.Spec PySem.Calls PyProof.Rows

theorem third_sub {x y z : Addr × Obj} {r : List (Addr × Obj)} (hn : ((x :: y :: z :: r).map (·.1)).Nodup) : (∀ p ∈ x :: y :: r, p ∈ x :: y :: z :: r ∧ p.1 ≠ z.1) ∧ ((x :: y :: r).map (·.1)).Nodup := by
  simp only [List.map_cons, List.nodup_cons, List.mem_cons, not_or] at hn ⊢
  refine ⟨fun p hp => ?_, ⟨hn.1.1, hn.1.2.2⟩, hn.2.1.2, hn.2.2.2⟩
  rcases hp with rfl | rfl | hp
  · exact ⟨.inl rfl, hn.1.2.1⟩
  · exact ⟨.inr (.inl rfl), hn.2.1.1⟩
  · exact ⟨.inr (.inr (.inr hp)), fun e => hn.2.2.1 (e ▸ List.mem_map_of_mem hp)⟩
theorem two_empty (l : List (Str × Tok)) (a b : Tok) : strValues l ++ [.str (Str.ofString "") a, .str (Str.ofString "") b] = strValues (l ++ [(Str.ofString "", a), (Str.ofString "", b)]) := sv_append l [(Str.ofString "", a), (Str.ofString "", b)]
/-- the words behind the place, as a list of the ledger -/
theorem behind_words {g h : Heap} {L lw sl l1 l2 : Addr} {lo : List (Str × Value)} {own : List (Addr × Obj)} {fs : List Nat} {ws : List (Str × Tok)} (hws : ws.map (·.1) = fs.map wordOf) {i n : Nat} {a b : Tok} {o1 o2 o3 : Obj}
    (S : St g L h lo ((lw, listOf (strValues (ws.drop (i + 1)) ++ [Value.str (Str.ofString "") a, Value.str (Str.ofString "") b]).toArray n) :: (l1, o1) :: (l2, o2) :: (sl, o3) :: own)) :
    ∃ cw : List (Str × Tok), cw.length = (fs.length - (i + 1)) + 2 ∧ (∀ j, j < cw.length → ∃ t, cw[j]? = some (wordAt fs (i + 1 + j), t)) ∧ St g L h lo ((lw, listOf (strValues cw).toArray n) :: own) := by
  rw [two_empty] at S
  have hl : ws.length = fs.length := by have := congrArg List.length hws; simpa using this
  refine ⟨ws.drop (i + 1) ++ [(Str.ofString "", a), (Str.ofString "", b)], ?_, fun j hj => ?_, S.pick (.cons₂ _ (.cons _ (.cons _ (.cons _ (List.Sublist.refl _)))))⟩
  · rw [List.length_append, List.length_drop, hl]; rfl
  · have hm : (ws.drop (i + 1) ++ [(Str.ofString "", a), (Str.ofString "", b)]).map (·.1) = (fs.map wordOf).drop (i + 1) ++ [Str.empty, Str.empty] := by
      rw [List.map_append, List.map_drop, hws, e_empty]; rfl
    have hj2 : j < (fs.length - (i + 1)) + 2 := by
      rw [List.length_append, List.length_drop, hl] at hj
      exact hj
    have hw := words_behind fs i j hj2
    rw [← hm, List.getElem?_map, List.getElem?_eq_getElem hj] at hw
    refine ⟨((ws.drop (i + 1) ++ [(Str.ofString "", a), (Str.ofString "", b)])[j]).2, ?_⟩
    have hw2 : ((ws.drop (i + 1) ++ [(Str.ofString "", a), (Str.ofString "", b)])[j]).1 = wordAt fs (i + 1 + j) := Option.some.inj hw
    rw [List.getElem?_eq_getElem hj, ← hw2]
theorem call_tokA {w : World} {b0 : Heap} {p : Program} {loose : List Str} {mg mb : Str → Option Value} {mean : ExcName → Option Value} {A : Around} {g h : Heap} {G : Array GenState} {D : Drawn} {tk : Nat} {O : OsState} {r : Rig} {tA tL : Tok} {L : Addr} {lo : List (Str × Value)} {pre post : List (Addr × Obj)} {E : Value → Shared → Prop}
    (X0 : (hd2.heap_39 w.params).In b0) (T0 : Top p loose mean mg mb b0) (hroom : A.depth < 370) (hh : A.handled = none) (hb : b0.StaysIn g) (ok : RigOk r) (hpb : r.pb = []) {fs : List Nat} (ht : r.text = textOf fs) (hf : ∀ f ∈ fs, f < 12) {i : Nat} {Q : Value → Shared → Prop}
    (S : St g L h lo (pre ++ (r.own (posOf fs i) tA (lnsOf fs i) tL ++ post)))
    (q : ∀ t h' tk' tA' tL', St g L h' lo (pre ++ (r.own (posOf fs (i + 1)) tA' (lnsOf fs (i + 1)) tL' ++ post)) → Q (.str (wordAt fs i) t) ⟨h', G, D, tk', O⟩) :
    wpAny (model PySem.Challenge.rw_km0063_02.row.prog w) A (call (.ref 70) [.ref r.xL]) Q E ⟨h, G, D, tk, O⟩ := by
  refine' m_callF ?_
  have hsub : ∀ p ∈ r.own (posOf fs i) tA (lnsOf fs i) tL, p ∈ pre ++ (r.own (posOf fs i) tA (lnsOf fs i) tL ++ post) := fun p hp => List.mem_append_right _ (List.mem_append_left _ hp)
  refine' get_token (A := A) X0 T0 hroom hh ok (k := posOf fs i) ?hle (fun p hp => S.at (a := p.1) (o := p.2) (hsub p hp)) (rig_nd S) hpb (S.stays hb hsub) ?_
  case hle => rw [ht]; exact pos_le fs i
  rw [ht, read_any fs hf i]
  refine ⟨fun s k' ln' he t h' tk' tA' tL' hk2 hm2 => ?_⟩
  cases he
  exact q t h' tk' tA' tL' (St.around S hk2 hm2 rfl)

theorem law_end {w : World} {g : Heap} {p : Program} {loose : List Str} {mg mb : Str → Option Value} {mean : ExcName → Option Value} (X : (hd2.heap_39 w.params).In g) (T0 : Top p loose mean mg mb g)
    (KB : Below callerA g [] g) {h : Heap} {G : Array GenState} {D : Drawn} {tk : Nat} {O : OsState} {L fa : Addr} {cd : Value} {r : Rig} (ok : RigOk r) {fs : List Nat} (ht : r.text = textOf fs) (hf : ∀ f ∈ fs, f < 12) (hfl : fs.length ≤ 14) {dA dB wA : Addr} {tA tL tl ti : Tok} {nP nw : Nat} {oX od ob : Obj} (hoX : oX.data = .cell (some (.ref r.xL)))
    {out : Nat × Str × Hosts} (hout : out.1 < fs.length + 3) {ws : List (Str × Tok)} (hws : ws.map (·.1) = fs.map wordOf) (hdA : 1 < dA) (hdB : 1 < dB)
    {v v2 : Value} {ex ex2 ts tb zs : List (Addr × Obj)} {kvs kvb : List (Str × Value)} (hv : WrongV fs out v ex) (hv2 : WrongV fs out v2 ex2) (hod : od.IsDictOf (strKind PySem.Challenge.rw_km0063_02.row.prog w) kvs) (hrel : Rel (IsE PySem.Challenge.rw_km0063_02.row.prog w ts) kvs out.2.2) (hkl : kvs.length ≤ 20)
    (hob : ob.IsDictOf (strKind PySem.Challenge.rw_km0063_02.row.prog w) kvb) (hrelb : Rel (IsE PySem.Challenge.rw_km0063_02.row.prog w tb) kvb out.2.2) (hklb : kvb.length ≤ 20) (hex : ∀ p ∈ ex, p ∈ zs) (hex2 : ∀ p ∈ ex2, p ∈ zs) (hts : ∀ p ∈ ts, p ∈ zs) (htb : ∀ p ∈ tb, p ∈ zs) {ps : Array Value}
    (S : St g L h [("lines", .int (lnsOf fs (out.1 + 1)) tl), ("whole", .ref dB), ("due", v2), ("i", .int (out.1 : Int) ti), ("wrong", v), ("hosts", .ref dA), ("words", .ref wA)] ((dB, ob) :: (dA, od) :: ((r.with [] nP).own (posOf fs (out.1 + 1)) tA (lnsOf fs (out.1 + 1)) tL ++ ((L + 1 + 1, oX) :: (wA, listOf (strValues ws).toArray nw) :: (100, tabObj ps) :: zs))))
    {Q : Flow → Shared → Prop} {E : Value → Shared → Prop} (q : ∀ h' tk' lo own ps, St g L h' lo own → (100, tabObj ps) ∈ own → Q (.ret (.bool true)) ⟨h', G, D, tk', O⟩) :
    wpAny (model PySem.Challenge.rw_km0063_02.row.prog w) (callerA.deeper (lawEnv L fa cd)) (execs (lawB.drop 11) (lawEnv L fa cd)) Q E ⟨h, G, D, tk, O⟩ := by
  have T := topRead_of T0
  have _kf : (hd2.heap_39 w.params).In g ∧ PySem.Challenge.rw_km0063_02 = PySem.Challenge.rw_km0063_02 := by (k_fill; exact ⟨X, rfl⟩)
  clear _kf
  have hclX : (lawCl L).lookup ("lex" : Str) = some (L + 1 + 1) := rfl
  have hwl : ws.length = fs.length := by have := congrArg List.length hws; simpa using this
  have hwz : Unit → (strValues ws).length ≤ sizeLine := fun _ => small_fit (by rw [sv_len]; omega)
  with_unfolding_all refine' m_execs_cons ?_
  repeat (walk_at "m")
  refine' m_getItems S ?hm hod ?_
  case hm => walk_at "mem"
  refine' callWith_method0 ?_
  refine' m_items S ?hm2 hod (nz_of hdA) ?_
  case hm2 => walk_at "mem"
  clear S
  intro v1 h S
  repeat (walk_at "m")
  refine' m_listItems S rfl (.head _) ?hm3 hod (Nat.le_trans hkl (by decide)) ?_
  case hm3 => walk_at "mem"
  clear S
  intro r1 h tk vs1 tups1 n1 hi1 S
  replace S := S.perm (List.Perm.cons _ List.perm_append_comm)
  repeat (walk_at "m")
  refine' m_getOwn S X ?hx ?hd ?hg2 ?hh2 ?ha ?hn ?hl ?hv ?_
  case hx => walk_at "mem"
  case hd => walk_at "mem"
  case hg2 => k_is
  case hh2 => k_is
  case ha => k_is
  case hn => first | rfl | k_is
  case hl => exact ok.ln _ _
  case hv => rfl
  intro tk
  repeat (walk_at "m")
  refine' m_getOwn S X ?hx ?hd ?hg2 ?hh2 ?ha ?hn ?hl ?hv ?_
  case hx => walk_at "mem"
  case hd => walk_at "mem"
  case hg2 => k_is
  case hh2 => k_is
  case ha => k_is
  case hn => first | rfl | k_is
  case hl => exact ok.psh _ _
  case hv => rfl
  intro tk
  repeat (walk_at "m")
  obtain ⟨tA1, htA1⟩ : ∃ x, x = l := ⟨l, rfl⟩
  rw [← htA1] at S ⊢
  clear htA1
  refine' m_getItems S ?hm4 hob ?_
  case hm4 => walk_at "mem"
  refine' callWith_method0 ?_
  refine' m_items S ?hm5 hob (nz_of hdB) ?_
  case hm5 => walk_at "mem"
  clear S
  intro v3 h S
  repeat (walk_at "m")
  refine' m_listItems S rfl (.head _) ?hm6 hob (Nat.le_trans hklb (by decide)) ?_
  case hm6 => walk_at "mem"
  clear S
  intro r2 h tk vs2 tups2 n2 hi2 S
  replace S := S.perm (List.Perm.cons _ List.perm_append_comm)
  repeat (walk_at "m")
  have hz : ∀ p ∈ zs, h.get? p.1 = some p.2 := fun ⟨a, o⟩ hp => S.at (by simp only [List.mem_cons, List.mem_append, hp, or_true, true_or])
  have hz1 : ∀ p ∈ tups1, h.get? p.1 = some p.2 := fun ⟨a, o⟩ hp => S.at (by simp only [List.mem_cons, List.mem_append, hp, or_true, true_or])
  have hz2 : ∀ p ∈ tups2, h.get? p.1 = some p.2 := fun ⟨a, o⟩ hp => S.at (by simp only [List.mem_cons, List.mem_append, hp, or_true, true_or])
  have hu0 : (callerA.deeper (lawEnv L fa cd)).units < cLine := by show callerA.units + 3 < cLine; decide
  have hu1 : (callerA.deeper (lawEnv L fa cd)).in1.units < cLine := by show callerA.units + 3 + 1 < cLine; decide
  have hu2 : (callerA.deeper (lawEnv L fa cd)).in1.in1.units < cLine := by show callerA.units + 3 + 1 + 1 < cLine; decide
  have hu3 : (callerA.deeper (lawEnv L fa cd)).in1.in1.in1.units < cLine := by show callerA.units + 3 + 1 + 1 + 1 < cLine; decide
  have hlen12 : vs1.length = vs2.length := by rw [hi1.1, hi2.1, hrel.length, hrelb.length]
  have hrc := neW_zip (prog := PySem.Challenge.rw_km0063_02.row.prog) (w := w) (A := callerA.deeper (lawEnv L fa cd)) (s := ⟨h, G, D, tk, O⟩) (l := tA1) (b := l) (xs := [v, .ref r1, .int (lnsOf fs (out.1 + 1)) _, .ref r.lP]) (ys := [v2, .ref r2, .int (lnsOf fs (out.1 + 1)) _, .ref _]) (S.at (by walk_at "mem")) (S.at (.head _)) rfl
    (zipc (wrong_same hv hv2 (fun p hp => hz p (hex p hp)) (fun p hp => hz p (hex2 p hp)) hu1 hu2) (zipc (EqW.lists (S.at (by walk_at "mem")) (S.at (by walk_at "mem")) hlen12 (pairs_same hi1 hi2 hrel hrelb hz1 hz2 (fun p hp => hz p (hts p hp)) (fun p hp => hz p (htb p hp)) hu2 hu3) hu1) (zipc EqW.ints (zip1 (EqW.lists (xs := []) (ys := []) (S.at (by walk_at "mem")) (S.at (.tail _ (.head _))) rfl zip0 hu1))))) hu0
  refine' hrc _ _ ?_
  clear hrc
  have sub : List.Sublist ((r.with [] nP).own (posOf fs (out.1 + 1)) tA (lnsOf fs (out.1 + 1)) tL ++ [(L + 1 + 1, oX), (wA, listOf (strValues ws).toArray nw), (100, tabObj ps)]) ((r.with [] nP).own (posOf fs (out.1 + 1)) tA (lnsOf fs (out.1 + 1)) tL ++ ((L + 1 + 1, oX) :: (wA, listOf (strValues ws).toArray nw) :: (100, tabObj ps) :: zs)) := List.Sublist.append_left (.cons₂ _ (.cons₂ _ (.cons₂ _ (List.nil_sublist _)))) _
  replace S := S.pick (.cons _ (.cons _ (.cons _ ((List.Sublist.cons _ (.cons _ (.cons _ ((List.Sublist.cons _ (.cons _ (.cons _ sub))).trans (List.sublist_append_left _ tups1))))).trans (List.sublist_append_left _ tups2)))))
  replace S := S.low (lo' := [("i", .int (out.1 : Int) ti), ("words", .ref wA)]) (lo_cons rfl (lo_cons rfl lo_nil))
  clear hz hz1 hz2 hlen12 hi1 hi2 sub hu1 hu2 hu3
  repeat (walk_at "m")
  refine' m_ListComp (cl := [("lex", L + 1 + 1)]) ?hclos ?hkind ?hnames ?hfs ?_
  case hclos => rfl
  case hkind => rfl
  case hnames => decide +kernel
  case hfs => intro _; rfl
  repeat (walk_at "m")
  refine' m_cutFrom (a := out.1 + 1) S ?hm ?hs ?hz ?ha ?he ?_
  case hm => walk_at "mem"
  case hs => walk_at "mem"
  case hz => exact hwz ()
  case ha => rfl
  case he => with_unfolding_all rfl
  clear S
  intro lc h S
  rw [sv_drop] at S
  iterate 8 (walk_at "m")
  obtain ⟨cw, hcl, hcw, S⟩ := behind_words hws S
  have hcl16 : cw.length ≤ 16 := by omega
  refine' m_iter S (.head _) ?_
  clear S
  intro it h S
  have S0 := S
  refine' m_compGo S ?hcell ?hkind2 ?_
  case hcell => decide +kernel
  case hkind2 => rfl
  clear S
  intro Dl C h' tk oL hoL S
  refine' (fun hloop => codeAny_compStart_list hloop (wpAny_pyIter_listiter (l := ls) (i := 0) ⟨_, S.at (.tail _ (.tail _ (.head _))), rfl, rfl⟩ hloop)) ?_
  refine' m_compJ (fun n s' => ∃ (h : Heap) (tk j nn : Nat) (ds : List (Str × Tok)) (tA tL : Tok), s' = ⟨h, G, D, tk, O⟩ ∧ j ≤ cw.length ∧ n = cw.length - j ∧ ds.length = j ∧ (∀ k, k < j → ∃ t, ds[k]? = some (wordAt fs (out.1 + 1 + k), t)) ∧
    St g C h [] ((Dl, listOf (strValues ds).toArray nn) :: (L, oL) :: (it, iterOf ls j) :: (ls, listOf (strValues cw).toArray 0) :: ((r.with [] nP).own (posOf fs (out.1 + 1 + j)) tA (lnsOf fs (out.1 + 1 + j)) tL ++ [(L + 1 + 1, oX), (wA, listOf (strValues ws).toArray nw), (100, tabObj ps)]))) ?turn2 cw.length ?init2 ?ht2
  case ht2 => intro _; rfl
  case init2 => exact ⟨h', tk, 0, 0, [], tA, tL, rfl, Nat.zero_le _, rfl, rfl, (fun k hk => absurd hk (Nat.not_lt_zero _)), S⟩
  clear S
  rintro n s' ⟨h2, tk2, j, nn, ds, tA, tL, rfl, hj, hn, hdl, hds, S⟩ J N1 E1 hJ hN
  rcases Nat.lt_or_ge j cw.length with hlt | hge
  · obtain ⟨c, hc⟩ : ∃ c, cw[j]? = some c := ⟨_, List.getElem?_eq_getElem hlt⟩
    refine' m_next S (.there (.there .here)) (.tail _ (.tail _ (.tail _ (.head _)))) (by rw [sv_get, hc]; rfl) ?_
    clear S
    intro h2 S
    dsimp only
    refine' m_assignName ?_
    refine' me_store S rfl ?hx ?hk ?_
    case hx => with_unfolding_all rfl
    case hk => rfl
    clear S
    intro h2 tk2 S
    refine' wpAny_tests_nil ?_
    refine' m_ift ?_
    repeat (walk_at "m")
    walk_at "gt"
    refine' call_tokA (pre := [(Dl, listOf (strValues ds).toArray nn), (L, oL), (it, iterOf ls (j + 1)), (ls, listOf (strValues cw).toArray 0)]) (post := [(L + 1 + 1, oX), (wA, listOf (strValues ws).toArray nw), (100, tabObj ps)]) (i := out.1 + 1 + j) X T0 ?hr ?hh (fun _ _ e => e) (ok.push [] nP) rfl ht hf S ?_
    case hr => show callerA.depth + 1 < 370; decide
    case hh => rfl
    clear S
    intro t h2 tk2 tA tL S
    refine' m_append S .here (small_fit (by rw [sv_len]; omega)) ?_
    clear S
    intro h2 S
    have hsn : strValues ds ++ [.str (wordAt fs (out.1 + 1 + j)) t] = strValues (ds ++ [(wordAt fs (out.1 + 1 + j), t)]) := sv_append ds [(wordAt fs (out.1 + 1 + j), t)]
    rw [hsn] at S
    refine hJ (cw.length - (j + 1)) _ (lt_turn hn hlt) ⟨_, _, j + 1, _, ds ++ [(wordAt fs (out.1 + 1 + j), t)], tA, tL, rfl, hlt, rfl, by rw [List.length_append, hdl]; rfl, fun k hk => ?_, S.low lo_nil⟩
    rcases Nat.lt_or_ge k j with hkj | hkj
    · rw [List.getElem?_append_left (by omega)]
      exact hds k hkj
    · obtain rfl : k = j := by omega
      rw [List.getElem?_append_right (by omega), hdl, Nat.sub_self]
      exact ⟨t, rfl⟩
  · have hje : j = cw.length := by omega
    refine' m_nextEnd (own' := (Dl, listOf (strValues ds).toArray nn) :: (L, oL) :: (ls, listOf (strValues cw).toArray 0) :: ((r.with [] nP).own (posOf fs (out.1 + 1 + j)) tA (lnsOf fs (out.1 + 1 + j)) tL ++ [(L + 1 + 1, oX), (wA, listOf (strValues ws).toArray nw), (100, tabObj ps)])) S rfl (.tail _ (.tail _ (.head _))) (.tail _ (.tail _ (.tail _ (.head _)))) (List.getElem?_eq_none (by rw [sv_len]; omega)) ?hs ?hn ?_
    case hs => exact (third_sub S.nd).1
    case hn => exact (third_sub S.nd).2
    clear S
    intro h2 S
    dsimp only
    refine' hN _ ?_
    refine' m_compEnd S0 hoL S ?_
    clear S S0 hoL
    intro h S
    repeat (walk_at "m")
    refine' m_cutFrom (a := out.1 + 1) S ?hm ?hs ?hz ?ha ?he ?_
    case hm => walk_at "mem"
    case hs => walk_at "mem"
    case hz => exact hwz ()
    case ha => rfl
    case he => with_unfolding_all rfl
    clear S
    intro lc2 h S
    rw [sv_drop] at S
    repeat (walk_at "m")
    obtain ⟨cw2, hcl2, hcw2, S⟩ := behind_words hws S
    have hrc := fun tk0 => eqW_lists (prog := PySem.Challenge.rw_km0063_02.row.prog) (w := w) (A := callerA.deeper (lawEnv L fa cd)) (s := ⟨h, G, D, tk0, O⟩) (xs := strValues ds) (ys := strValues cw2) (S.at (.tail _ (.head _))) (S.at (.head _)) (by rw [sv_len, sv_len]; omega) (fun k x y e1 e2 => by
      rw [sv_get] at e1 e2
      have hk : k < cw2.length := by
        obtain ⟨c, hc, _⟩ := Option.map_eq_some_iff.mp e2
        exact (List.getElem?_eq_some_iff.mp hc).1
      obtain ⟨t1, ht1⟩ := hds k (by omega)
      obtain ⟨t2, ht2⟩ := hcw2 k hk
      rw [ht1] at e1
      rw [ht2] at e2
      have e1 : Value.str (wordAt fs (out.1 + 1 + k)) t1 = x := Option.some.inj e1
      have e2 : Value.str (wordAt fs (out.1 + 1 + k)) t2 = y := Option.some.inj e2
      rw [← e1, ← e2]
      exact EqW.strs) hu0
    refine' hrc _ _ _ ?_
    exact q _ _ _ _ ps S (by simp)
end Mine

namespace Mine
open PySem PySem.W PySem.Spec PySem.Calls PyProof.Rows

theorem lineText_is (msg : Str) (n : Int) : msg ++ lineText n = netText msg n := by
  unfold lineText netText
  have e : Str.ofString " (file, line " = Str.ofString " (" ++ Str.ofString "file" ++ Str.ofString ", line " := by decide +kernel
  rw [e]
  simp only [Str.append_assoc]
theorem three_empty (l : List (Str × Tok)) (a b c : Tok) : strValues l ++ [.str (Str.ofString "") a, .str (Str.ofString "") b, .str (Str.ofString "") c] = strValues (l ++ [(Str.ofString "", a), (Str.ofString "", b), (Str.ofString "", c)]) := sv_append l [(Str.ofString "", a), (Str.ofString "", b), (Str.ofString "", c)]
theorem due_lt : ∀ (l : List Str) (i : Nat) (st : DSt) (H : Hosts) (out : Nat × Str × Hosts), due l i st H = some out → out.1 < i + l.length
  | [], _, _, _, _, h => by simp [due] at h
  | x :: r, i, st, H, out, h => by
    have ih := due_lt r (i + 1)
    rw [List.length_cons]
    cases st with
    | top =>
      simp only [due] at h
      split at h
      · cases h; show i < _; omega
      · split at h
        · have := ih _ _ _ h; omega
        · split at h
          · have := ih _ _ _ h; omega
          · cases h; show i < _; omega
    | name =>
      simp only [due] at h
      split at h
      · cases h; show i < _; omega
      · have := ih _ _ _ h; omega
    | follow n e =>
      simp only [due] at h
      split at h
      · split at h
        · cases h; show i < _; omega
        · split at h
          · have := ih _ _ _ h; omega
          · have := ih _ _ _ h; omega
      · split at h
        · have := ih _ _ _ h; omega
        · cases h; show i < _; omega
    | value n e k =>
      simp only [due] at h
      have := ih _ _ _ h; omega

theorem m_endsIdx {prog : Program} {w : World} {A : Around} {E : Value → Shared → Prop} {g h : Heap} {L l : Addr} {lo : List (Str × Value)} {own : List (Addr × Obj)} {G : Array GenState} {D : Drawn} {tk n : Nat} {O : OsState} {value slice : Expr} {fs : List Nat} {ts : List Tok} {i : Nat} {T u : Tok} {Q : Value → Shared → Prop} (S : St g L h lo own)
    (hm : (l, listOf (endsV fs ts ++ [Value.int ((textOf fs).length : Int) T, Value.int ((textOf fs).length : Int) T, Value.int ((textOf fs).length : Int) T]).toArray n) ∈ own) (hl : ts.length = fs.length) (hi : i < fs.length + 3) (hf : fs.length ≤ 14)
    (hs : subscripted slice false (.ref l) (.int (i : Int) u) = operate [.ref l, .int (i : Int) u] (getItem (.ref l) (.int (i : Int) u)))
    (q : ∀ v, Q (.int ((posOf fs (i + 1) : Nat) : Int) v) ⟨h, G, D, tk, O⟩) : wpAny (model prog w) A (subscriptTail value slice (.ref l) (.int (i : Int) u)) Q E ⟨h, G, D, tk, O⟩ := by
  obtain ⟨v, hv⟩ := ends_get (fs := fs) hl hi T
  refine' m_idx S hm ?hz ?h0 ?hx hs (q v)
  case hz => exact small_fit (by rw [List.length_append, endsV_len]; simp only [List.length_cons, List.length_nil]; omega)
  case h0 => omega
  case hx => rw [Int.toNat_natCast]; exact hv
theorem law_fin {w : World} {g : Heap} {p : Program} {loose : List Str} {mg mb : Str → Option Value} {mean : ExcName → Option Value} (X : (hd2.heap_39 w.params).In g) (T0 : Top p loose mean mg mb g)
    (KB : Below callerA g [] g) {h : Heap} {G : Array GenState} {D : Drawn} {tk : Nat} {O : OsState} {L fa : Addr} {cd : Value} {r : Rig} (ok : RigOk r) {fs : List Nat} (ht : r.text = textOf fs) (hf : ∀ f ∈ fs, f < 12) (hfl : fs.length ≤ 14) {dA le wA : Addr} {tA tL tt : Tok} {nP ne nw : Nat} {oX od : Obj} (hoX : oX.data = .cell (some (.ref r.xL)))
    {out : Nat × Str × Hosts} (hd : due (wl fs) 0 .top [] = some out) {tks : List Tok} (htk : tks.length = fs.length) {ws : List (Str × Tok)} (hws : ws.map (·.1) = fs.map wordOf) (hdA : 1 < dA)
    {v : Value} {ex ts zs : List (Addr × Obj)} {kvs : List (Str × Value)} (hv : WrongV fs out v ex) (hod : od.IsDictOf (strKind PySem.Challenge.rw_km0063_02.row.prog w) kvs) (hrel : Rel (IsE PySem.Challenge.rw_km0063_02.row.prog w ts) kvs out.2.2) (hkl : kvs.length ≤ 20) (hex : ∀ p ∈ ex, p ∈ zs) (hts : ∀ p ∈ ts, p ∈ zs) {ps : Array Value}
    (S : St g L h [("wrong", v), ("hosts", .ref dA), ("ends", .ref le), ("text", .str (textOf fs) tt), ("words", .ref wA)] ((dA, od) :: ((r.with [] nP).own (posOf fs (out.1 + 1)) tA (lnsOf fs (out.1 + 1)) tL ++ ((L + 1 + 1, oX) :: (le, listOf (endsV fs tks).toArray ne) :: (wA, listOf (strValues ws).toArray nw) :: (100, tabObj ps) :: zs))))
    {Q : Flow → Shared → Prop} {E : Value → Shared → Prop} (q : ∀ h' tk' lo own ps, St g L h' lo own → (100, tabObj ps) ∈ own → Q (.ret (.bool true)) ⟨h', G, D, tk', O⟩) :
    wpAny (model PySem.Challenge.rw_km0063_02.row.prog w) (callerA.deeper (lawEnv L fa cd)) (execs (lawB.drop 8) (lawEnv L fa cd)) Q E ⟨h, G, D, tk, O⟩ := by
  have T := topRead_of T0
  have _kf : (hd2.heap_39 w.params).In g ∧ PySem.Challenge.rw_km0063_02 = PySem.Challenge.rw_km0063_02 := by (k_fill; exact ⟨X, rfl⟩)
  clear _kf
  have hclX : (lawCl L).lookup ("lex" : Str) = some (L + 1 + 1) := rfl
  have hwl : ws.length = fs.length := by have := congrArg List.length hws; simpa using this
  have hout := due_lt _ _ _ _ _ hd
  rw [wl_len, Nat.zero_add] at hout
  have hw8 : ∀ c ∈ ws, c.1.length ≤ 8 := fun c hc => by
    have : c.1 ∈ fs.map wordOf := hws ▸ List.mem_map_of_mem (f := (·.1)) hc
    obtain ⟨f, _, e⟩ := List.mem_map.mp this
    rw [← e]; exact word_len f
  have htl := textOf_len fs
  with_unfolding_all refine' m_execs_cons ?_
  repeat (walk_at "m")
  refine' m_cwK (fnAt_K X S ?hlk) ?hs ?hp ?_
  case hlk => rfl
  case hs => with_unfolding_all rfl
  case hp => with_unfolding_all rfl
  repeat (walk_at "m")
  refine' and_K (fnAt_K X S ?hlk2) ?_
  case hlk2 => rfl
  obtain ⟨c3, hc3, hc8, S⟩ : ∃ c3 : List (Str × Tok), c3.map (·.1) = [Str.empty, Str.empty, Str.empty] ∧ (∀ c ∈ c3, c.1.length ≤ 8) ∧ St g L h [("wrong", v), ("hosts", .ref dA), ("ends", .ref le), ("text", .str (textOf fs) tt), ("words", .ref wA)] ((ls, listOf (strValues (ws ++ c3)).toArray 0) :: (dA, od) :: ((r.with [] nP).own (posOf fs (out.1 + 1)) tA (lnsOf fs (out.1 + 1)) tL ++ ((L + 1 + 1, oX) :: (le, listOf (endsV fs tks).toArray ne) :: (wA, listOf (strValues ws).toArray nw) :: (100, tabObj ps) :: zs))) := by
    rw [three_empty] at S
    refine ⟨_, ?_, ?_, S.drop2⟩
    · rw [e_empty]; rfl
    · rw [e_empty]
      intro c hc
      rcases List.mem_cons.mp hc with rfl | hc
      · exact Nat.zero_le 8
      · rcases List.mem_cons.mp hc with rfl | hc
        · exact Nat.zero_le 8
        · rcases List.mem_singleton.mp hc with rfl
          exact Nat.zero_le 8
  have hc3l : c3.length = 3 := by have := congrArg List.length hc3; simpa using this
  refine' m_callF ?_
  have hsub : ∀ p ∈ [(ls, listOf (strValues (ws ++ c3)).toArray 0)], p ∈ (ls, listOf (strValues (ws ++ c3)).toArray 0) :: (dA, od) :: ((r.with [] nP).own (posOf fs (out.1 + 1)) tA (lnsOf fs (out.1 + 1)) tL ++ ((L + 1 + 1, oX) :: (le, listOf (endsV fs tks).toArray ne) :: (wA, listOf (strValues ws).toArray nw) :: (100, tabObj ps) :: zs)) := fun p hp => by rcases List.mem_singleton.mp hp with rfl; exact .head _
  refine' law_due (A := callerA.deeper (lawEnv L fa cd)) (out := out) X T0 ?hr ?hu ?hh (ws := ws ++ c3) ?hz ?h8 (fun p hp => S.at (a := p.1) (o := p.2) (hsub p hp)) (S.stays (fun _ _ e => e) hsub) ?hdd ?_
  case hr => show callerA.depth + 1 < 500; decide
  case hu => show callerA.units + 3 < 500; decide
  case hh => rfl
  case hz => rw [List.length_append]; omega
  case h8 => intro c hc; rcases List.mem_append.mp hc with hc | hc; exact hw8 c hc; exact hc8 c hc
  case hdd => rw [List.map_append, hws, hc3]; exact hd
  intro rA dB ob kvb tb tm ti h' tk' hdB hk2 hn2 hnd2 hob hrelb hklb
  have S' := S.afterNew (own1 := (ls, listOf (strValues (ws ++ c3)).toArray 0) :: (dA, od) :: ((r.with [] nP).own (posOf fs (out.1 + 1)) tA (lnsOf fs (out.1 + 1)) tL ++ ((L + 1 + 1, oX) :: (le, listOf (endsV fs tks).toArray ne) :: (wA, listOf (strValues ws).toArray nw) :: (100, tabObj ps) :: zs))) (ks := []) (fun b o e _ => hk2 b o e) (fun b hb => nomatch hb) (fun p hp => hk2 _ _ (S.nw p hp).1) rfl hn2 hnd2
  have S2 : St g L h' _ (((rA, tupOf [.int (out.1 : Int) ti, .str out.2.1 tm, .ref dB]) :: (dB, ob) :: tb) ++ ((ls, listOf (strValues (ws ++ c3)).toArray 0) :: ((dA, od) :: ((r.with [] nP).own (posOf fs (out.1 + 1)) tA (lnsOf fs (out.1 + 1)) tL ++ ((L + 1 + 1, oX) :: (le, listOf (endsV fs tks).toArray ne) :: (wA, listOf (strValues ws).toArray nw) :: (100, tabObj ps) :: zs))))) := S'
  clear S S' hsub
  have S := S2.pick (own' := ((rA, tupOf [.int (out.1 : Int) ti, .str out.2.1 tm, .ref dB]) :: (dB, ob) :: tb) ++ ((dA, od) :: ((r.with [] nP).own (posOf fs (out.1 + 1)) tA (lnsOf fs (out.1 + 1)) tL ++ ((L + 1 + 1, oX) :: (le, listOf (endsV fs tks).toArray ne) :: (wA, listOf (strValues ws).toArray nw) :: (100, tabObj ps) :: zs)))) (List.Sublist.append_left (List.sublist_cons_self _ _) _)
  clear S2
  obtain ⟨zb, hzb⟩ : ∃ zb, zb = tb ++ zs := ⟨_, rfl⟩
  replace S : St g L h' [("wrong", v), ("hosts", .ref dA), ("ends", .ref le), ("text", .str (textOf fs) tt), ("words", .ref wA)] ((rA, tupOf [.int (out.1 : Int) ti, .str out.2.1 tm, .ref dB]) :: (dB, ob) :: (dA, od) :: ((r.with [] nP).own (posOf fs (out.1 + 1)) tA (lnsOf fs (out.1 + 1)) tL ++ ((L + 1 + 1, oX) :: (le, listOf (endsV fs tks).toArray ne) :: (wA, listOf (strValues ws).toArray nw) :: (100, tabObj ps) :: zb))) := by
    have z := S.perm (own' := (rA, tupOf [.int (out.1 : Int) ti, .str out.2.1 tm, .ref dB]) :: (dB, ob) :: (((dA, od) :: ((r.with [] nP).own (posOf fs (out.1 + 1)) tA (lnsOf fs (out.1 + 1)) tL ++ [(L + 1 + 1, oX), (le, listOf (endsV fs tks).toArray ne), (wA, listOf (strValues ws).toArray nw), (100, tabObj ps)])) ++ (tb ++ zs))) (List.Perm.cons _ (List.Perm.cons _ (List.perm_append_comm_assoc tb ((dA, od) :: ((r.with [] nP).own (posOf fs (out.1 + 1)) tA (lnsOf fs (out.1 + 1)) tL ++ [(L + 1 + 1, oX), (le, listOf (endsV fs tks).toArray ne), (wA, listOf (strValues ws).toArray nw), (100, tabObj ps)])) zs)))
    rw [hzb]
    exact z
  have hexb : ∀ p ∈ ex, p ∈ zb := fun p hp => hzb ▸ List.mem_append_right _ (hex p hp)
  have htsb : ∀ p ∈ ts, p ∈ zb := fun p hp => hzb ▸ List.mem_append_right _ (hts p hp)
  have htbb : ∀ p ∈ tb, p ∈ zb := fun p hp => hzb ▸ List.mem_append_left _ hp
  clear hk2 hn2 hnd2 hzb hex hts hc3 hc8 hc3l
  dsimp only
  refine' m_unpack S (.head _) rfl rfl rfl ?_
  clear S
  intro h S
  repeat (first | walk_at "m" | refine' m_inOrder ?_)
  refine' m_inOrder0 ?_
  replace S := S.pick (List.sublist_cons_self _ _)
  have htl2 : (textOf fs).length ≤ 168 := by omega
  repeat (walk_at "m")
  obtain ⟨lf, hlf⟩ : ∃ x, x = l := ⟨l, rfl⟩
  rw [← hlf] at S ⊢
  clear hlf
  refine' m_mulList3 S (.head _) ?_
  clear S
  intro l3 h S
  repeat (walk_at "m")
  refine' m_addLists S ?hl ?hb ?hz ?_
  case hl => walk_at "mem"
  case hb => walk_at "mem"
  case hz => exact small_fit (by rw [endsV_len]; simp only [List.length_cons, List.length_nil]; omega)
  clear S
  intro l4 h S
  repeat (walk_at "m")
  refine' m_endsIdx S (.head _) htk hout hfl ?hs ?_
  case hs => with_unfolding_all rfl
  intro u5
  repeat (walk_at "m")
  refine' m_cutSto S ?hs2 ?hz2 ?he2 ?_
  case hs2 => exact .head _
  case hz2 => exact tot_ok (Nat.le_trans htl2 (by decide))
  case he2 => with_unfolding_all rfl
  intro t6 tk
  refine' m_getCount ?_
  repeat (walk_at "m")
  refine' m_count ?_
  intro t7 tk
  repeat (walk_at "m")
  rw [line_count] at S
  have hlns := lns_bound fs hfl (out.1 + 1)
  replace S := S.pick (own' := (dB, ob) :: (dA, od) :: ((r.with [] nP).own (posOf fs (out.1 + 1)) tA (lnsOf fs (out.1 + 1)) tL ++ ((L + 1 + 1, oX) :: (wA, listOf (strValues ws).toArray nw) :: (100, tabObj ps) :: zb))) (.cons _ (.cons _ (.cons _ (.cons _ (.cons₂ _ (.cons₂ _ (List.Sublist.append_left (.cons₂ _ (.cons _ (List.Sublist.refl _))) _)))))))
  replace S := S.low (lo' := [("lines", .int (lnsOf fs (out.1 + 1)) _), ("whole", .ref dB), ("due", .str out.2.1 tm), ("i", .int (out.1 : Int) ti), ("wrong", v), ("hosts", .ref dA), ("words", .ref wA)]) (lo_cons rfl (lo_cons rfl (lo_cons rfl (lo_cons rfl (lo_cons rfl (lo_cons rfl (lo_cons rfl lo_nil)))))))
  apply m_ifb <;> intro hdu
  · have hbad : out.2.1.length ≤ 40 := by
      cases hv with
      | done t e => rw [e] at hdu; exact absurd hdu (by decide +kernel)
      | bad _ _ _ _ _ _ _ _ h => exact h
    have l1 : (lineText (lnsOf fs (out.1 + 1))).length ≤ 24 := by
      have h1 : (Str.ofString " (file, line ").length = 13 := by decide +kernel
      have h2 : (Str.ofString ")").length = 1 := by decide +kernel
      have h3 := figs_len (a := lnsOf fs (out.1 + 1)) (by omega) (by omega)
      unfold lineText
      rw [Str.length_append, Str.length_append]
      omega
    refine' wpAny_mono (Q := fun f s' => f = Flow.next ∧ ∃ (h : Heap) (tk : Nat) (v2 : Value) (ex2 : List (Addr × Obj)) (tl : Tok), s' = ⟨h, G, D, tk, O⟩ ∧ WrongV fs out v2 ex2 ∧
      St g L h [("lines", .int (lnsOf fs (out.1 + 1)) tl), ("whole", .ref dB), ("due", v2), ("i", .int (out.1 : Int) ti), ("wrong", v), ("hosts", .ref dA), ("words", .ref wA)] (ex2 ++ (dB, ob) :: (dA, od) :: ((r.with [] nP).own (posOf fs (out.1 + 1)) tA (lnsOf fs (out.1 + 1)) tL ++ ((L + 1 + 1, oX) :: (wA, listOf (strValues ws).toArray nw) :: (100, tabObj ps) :: zb)))) ?if1 ?rest1 (fun _ _ x => x)
    case if1 =>
      repeat (walk_at "m")
      refine' m_modLine (by omega) (by omega) ?_
      intro t8 tk
      repeat (walk_at "m")
      rw [lineText_is] at S
      exact ⟨rfl, h, _, _, _, _, rfl, .bad _ _ _ _ _ _ _ hdu hbad, S.low (lo_cons rfl (lo_cons rfl (lo_cons rfl (lo_cons rfl (lo_cons rfl (lo_cons rfl (lo_cons rfl lo_nil)))))))⟩
    case rest1 =>
      clear S
      rintro f s' ⟨rfl, h, tk, v2, ex2, tl, rfl, hv2, S⟩
      dsimp only
      obtain ⟨zc, hzc⟩ : ∃ zc, zc = zb ++ ex2 := ⟨_, rfl⟩
      have S6 := S.perm (List.perm_append_comm (l₁ := ex2))
      replace S : St g L h _ ((dB, ob) :: (dA, od) :: ((r.with [] nP).own (posOf fs (out.1 + 1)) tA (lnsOf fs (out.1 + 1)) tL ++ ((L + 1 + 1, oX) :: (wA, listOf (strValues ws).toArray nw) :: (100, tabObj ps) :: (zb ++ ex2)))) := S6
      rw [← hzc] at S
      exact law_end X T0 KB ok ht hf hfl hoX hout hws hdA hdB hv hv2 hod hrel hkl hob hrelb hklb (fun p hp => hzc ▸ List.mem_append_left _ (hexb p hp)) (fun p hp => hzc ▸ List.mem_append_right _ hp) (fun p hp => hzc ▸ List.mem_append_left _ (htsb p hp)) (fun p hp => hzc ▸ List.mem_append_left _ (htbb p hp)) S q
  · have he : out.2.1 = Str.ofString "" := by simpa [bne] using hdu
    refine' wpAny_execs_nil ?_
    dsimp only
    rw [he] at S
    exact law_end X T0 KB ok ht hf hfl hoX hout hws hdA hdB hv (.done tm he) hod hrel hkl hob hrelb hklb hexb (ex2 := []) (fun p hp => nomatch hp) htsb htbb S q
end Mine

namespace Mine
open PySem PySem.W PySem.Spec PySem.Calls PyProof.Rows

theorem words_of {ks : List (Str × Tok)} (hks : ks.map (·.1) = kindsW) {f : Nat} (hf : f < 12) : ∃ t, (strValues ks)[f]? = some (.str (wordOf f) t) := by
  have hl : ks.length = 12 := by have := congrArg List.length hks; rw [List.length_map] at this; exact this
  have h1 : (ks.map (·.1))[f]? = some (wordOf f) := by
    rw [hks]
    unfold wordOf
    rw [List.getD_eq_getElem?_getD]
    have : f < kindsW.length := hf
    rw [List.getElem?_eq_getElem this]; rfl
  rw [List.getElem?_map, List.getElem?_eq_getElem (by omega)] at h1
  refine ⟨(ks[f]'(by omega)).2, ?_⟩
  rw [sv_get, List.getElem?_eq_getElem (by omega)]
  have h2 : (ks[f]'(by omega)).1 = wordOf f := Option.some.inj h1
  rw [← h2]; rfl
theorem law_body {w : World} {g : Heap} {p : Program} {loose : List Str} {mg mb : Str → Option Value} {mean : ExcName → Option Value} (X : (hd2.heap_39 w.params).In g) (T0 : Top p loose mean mg mb g)
    (KB : Below callerA g [] g) {h : Heap} {G : Array GenState} {D : Drawn} {tk : Nat} {O : OsState} {L fa sA : Addr} {cd : Value} {vs : List Value} {ns : List Int} {oX oK : Obj} {B : List Stmt} (hB : lawB = B) (hl : g.IsList sA vs.toArray) (hi : IntsAre vs ns) (hcd : CodeHd g 104 100)
    (hoX : oX.data = .cell none) (hoK : oK.data = .cell none)
    (S : St g L h [("script", .ref sA)] [(L + 1 + 1, oX), (L + 1, oK), (100, tabObj #[])])
    {Q : Flow → Shared → Prop} {E : Value → Shared → Prop} (q : ∀ h' tk' lo own ps, St g L h' lo own → (100, tabObj ps) ∈ own → Q (.ret (.bool true)) ⟨h', G, D, tk', O⟩) :
    wpAny (model PySem.Challenge.rw_km0063_02.row.prog w) (callerA.deeper (lawEnv L fa cd)) (execs B (lawEnv L fa cd)) Q E ⟨h, G, D, tk, O⟩ := by
  subst hB
  have T := topRead_of T0
  have _kf : (hd2.heap_39 w.params).In g ∧ PySem.Challenge.rw_km0063_02 = PySem.Challenge.rw_km0063_02 := by (k_fill; exact ⟨X, rfl⟩)
  clear _kf
  have hclK : (lawCl L).lookup ("kinds" : Str) = some (L + 1) := by rfl
  have hclX : (lawCl L).lookup ("lex" : Str) = some (L + 1 + 1) := by rfl
  have hL1 : 1 < L := by
    have := Heap.lt_size (S.gkeep _ _ (X _ _ (show (hd2.heap_39 w.params).lookup 63 = some _ from rfl)))
    obtain ⟨m, F, _⟩ := S.fr
    have h2 := Heap.lt_size (X _ _ (show (hd2.heap_39 w.params).lookup 63 = some _ from rfl))
    have h3 : (63 : Nat) < L := Nat.lt_of_lt_of_le h2 F.above
    show (1 : Nat) < L
    omega
  with_unfolding_all refine' m_execs_cons ?_
  repeat (walk_at "m")
  obtain ⟨lK, hlK⟩ : ∃ x, x = l := ⟨l, rfl⟩
  rw [← hlK] at S ⊢
  clear hlK
  obtain ⟨ks, hks, S⟩ : ∃ ks : List (Str × Tok), ks.map (·.1) = kindsW ∧ St g L h [("script", .ref sA)] [(lK, listOf (strValues ks).toArray 0), (L + 1 + 1, oX), (L + 1, oK), (100, tabObj #[])] := by
    refine ⟨[(_, _), (_, _), (_, _), (_, _), (_, _), (_, _), (_, _), (_, _), (_, _), (_, _), (_, _), (_, _)], ?_, S⟩
    with_unfolding_all rfl
  have hkl : ks.length = 12 := by have := congrArg List.length hks; rw [List.length_map] at this; exact this
  have hkz : Unit → (strValues ks).length ≤ sizeLine := fun _ => small_fit (by rw [sv_len, hkl]; decide)
  refine' m_storeC' (c := L + 1) (fun o => [(lK, listOf (strValues ks).toArray 0), (L + 1 + 1, oX), (L + 1, o), (100, tabObj #[])]) (by assumption) ?hx ?hk hclK ?hU hoK ?_
  case hU => intro o'; walk_at "at"
  case hx => with_unfolding_all rfl
  case hk => with_unfolding_all rfl
  clear S hoK
  intro h oK hoK S
  repeat (walk_at "m")
  refine' m_cwK (fnAt_K X S ?hlk) ?hs ?hp ?_
  case hlk => rfl
  case hs => with_unfolding_all rfl
  case hp => with_unfolding_all rfl
  repeat (walk_at "m")
  refine' and_K (fnAt_K X S ?hlk2) ?_
  case hlk2 => rfl
  refine' m_callF ?_
  refine' law_figures X T0 ?hr ?hu ?hh ?hl hi S.gkeep ?_
  case hr => show callerA.depth + 1 < 500; decide
  case hu => show callerA.units + 3 < 500; decide
  case hh => rfl
  case hl =>
    obtain ⟨o, ho, r⟩ := hl
    exact ⟨o, S.gkeep _ _ ho, r⟩
  intro lF h' tk' nF cs hk hr hrn hcs0 hcl hck
  replace S := S.new hk hrn hr
  clear hk hr hrn
  dsimp only
  repeat (walk_at "m")
  refine' m_AssignComp (cl := [("kinds", L + 1)]) ?hsw ?hclos ?hkind ?hnames ?hfs ?_
  case hsw => with_unfolding_all rfl
  case hclos => rfl
  case hkind => rfl
  case hnames => decide +kernel
  case hfs => intro _; rfl
  iterate 1 (walk_at "m")
  refine' m_iter S (.head _) ?_
  clear S
  intro it h S
  have S0 := S
  refine' m_compGo S ?hcell ?hkind2 ?_
  case hcell => decide +kernel
  case hkind2 => rfl
  clear S
  intro Dl C h' tk oL hoL S
  refine' (fun hloop => codeAny_compStart_list hloop (wpAny_pyIter_listiter (l := lF) (i := 0) ⟨_, S.at (.tail _ (.tail _ (.head _))), rfl, rfl⟩ hloop)) ?_
  refine' m_compJ (fun n s' => ∃ (h : Heap) (tk j nn : Nat) (ds : List (Str × Tok)), s' = ⟨h, G, D, tk, O⟩ ∧ j ≤ cs.length ∧ n = cs.length - j ∧ ds.map (·.1) = ((cs.map (·.1)).take j).map wordOf ∧
    St g C h [] ((Dl, listOf (strValues ds).toArray nn) :: (L, oL) :: (it, iterOf lF j) :: (lF, listOf (intV cs).toArray nF) :: [(lK, listOf (strValues ks).toArray 0), (L + 1 + 1, oX), (L + 1, oK), (100, tabObj #[])])) ?turn2 cs.length ?init2 ?ht2
  case ht2 => intro _; rfl
  case init2 => exact ⟨h', tk, 0, 0, [], rfl, Nat.zero_le _, rfl, rfl, S⟩
  clear S
  rintro n s' ⟨h2, tk2, j, nn, ds, rfl, hj, hn, hds, S⟩ J N1 E1 hJ hN
  have hdl : ds.length = j := by
    have := congrArg List.length hds
    rw [List.length_map, List.length_map, List.length_take, List.length_map] at this
    omega
  rcases Nat.lt_or_ge j cs.length with hlt | hge
  · obtain ⟨c, hc⟩ : ∃ c, cs[j]? = some c := ⟨_, List.getElem?_eq_getElem hlt⟩
    have hc12 := hck c (List.mem_of_getElem? hc)
    refine' m_next S (.there (.there .here)) (.tail _ (.tail _ (.tail _ (.head _)))) (by rw [List.getElem?_map, hc]; rfl) ?_
    clear S
    intro h2 S
    dsimp only
    refine' m_assignName ?_
    refine' me_store S rfl ?hx ?hk ?_
    case hx => with_unfolding_all rfl
    case hk => rfl
    clear S
    intro h2 tk2 S
    refine' wpAny_tests_nil ?_
    refine' m_ift ?_
    repeat (walk_at "m")
    obtain ⟨u7, hu7⟩ := words_of hks hc12
    refine' m_idx S ?hm ?hz ?h0 ?hx ?hs ?_
    case hm => walk_at "mem"
    case hz => exact hkz ()
    case h0 => exact nat_nonneg _
    case hx => rw [Int.toNat_natCast]; exact hu7
    case hs => with_unfolding_all rfl
    refine' m_append S .here (small_fit (by rw [sv_len, hdl]; exact Nat.le_trans hj (Nat.le_trans hcl (by decide)))) ?_
    clear S
    intro h2 S
    have hsn : strValues ds ++ [.str (wordOf c.1) u7] = strValues (ds ++ [(wordOf c.1, u7)]) := sv_append ds [(wordOf c.1, u7)]
    rw [hsn] at S
    refine hJ (cs.length - (j + 1)) _ (lt_turn hn hlt) ⟨_, _, j + 1, _, ds ++ [(wordOf c.1, u7)], rfl, hlt, rfl, ?_, S.low lo_nil⟩
    rw [List.map_append, hds, List.take_add_one, List.getElem?_map, hc, List.map_append]
    rfl
  · have hje : j = cs.length := by omega
    refine' m_nextEnd (own' := (Dl, listOf (strValues ds).toArray nn) :: (L, oL) :: (lF, listOf (intV cs).toArray nF) :: [(lK, listOf (strValues ks).toArray 0), (L + 1 + 1, oX), (L + 1, oK), (100, tabObj #[])]) S rfl (.tail _ (.tail _ (.head _))) (.tail _ (.tail _ (.tail _ (.head _)))) (List.getElem?_eq_none (by rw [List.length_map]; omega)) ?hs ?hn ?_
    case hs => exact (third_sub S.nd).1
    case hn => exact (third_sub S.nd).2
    clear S
    intro h2 S
    dsimp only
    refine' hN _ ?_
    refine' m_compEndU S0 hoL S ?hx6 ?hk6 ?_
    case hx6 => with_unfolding_all rfl
    case hk6 => rfl
    clear S S0 hoL
    intro h tk S
    have hds2 : ds.map (·.1) = (cs.map (·.1)).map wordOf := by
      rw [hds, List.take_of_length_le (by rw [List.length_map]; omega)]
    repeat (walk_at "m")
    refine' m_cwK (fnAt_K X S ?hlk) ?hs ?hp ?_
    case hlk => rfl
    case hs => with_unfolding_all rfl
    case hp => with_unfolding_all rfl
    repeat (walk_at "m")
    refine' and_K (fnAt_K X S ?hlk2) ?_
    case hlk2 => rfl
    refine' m_callF ?_
    have hsub : ∀ p ∈ [(Dl, listOf (strValues ds).toArray nn), (lF, listOf (intV cs).toArray nF)], p ∈ (Dl, listOf (strValues ds).toArray nn) :: (lF, listOf (intV cs).toArray nF) :: [(lK, listOf (strValues ks).toArray 0), (L + 1 + 1, oX), (L + 1, oK), (100, tabObj #[])] := fun p hp => List.mem_append_left (as := [(Dl, listOf (strValues ds).toArray nn), (lF, listOf (intV cs).toArray nF)]) _ hp
    refine' law_written X T0 ?hr ?hu ?hh hds2 hcl hck (fun p hp => S.at (a := p.1) (o := p.2) (hsub p hp)) (S.apart (.tail _ (.head _)) |> fun z => by first | exact z | exact S.apart (.head _)) (S.stays (fun _ _ e => e) hsub) ?_
    case hr => show callerA.depth + 1 < 500; decide
    case hu => show callerA.units + 3 < 500; decide
    case hh => rfl
    intro rT le h' tk' nE tt tks hk2 htk hr1 hr2 hr3 hr4 hr5
    have S' := S.afterNew (own1 := (Dl, listOf (strValues ds).toArray nn) :: (lF, listOf (intV cs).toArray nF) :: [(lK, listOf (strValues ks).toArray 0), (L + 1 + 1, oX), (L + 1, oK), (100, tabObj #[])]) (new := [(rT, tupOf [.str (textOf (cs.map (·.1))) tt, .ref le]), (le, listOf (endsV (cs.map (·.1)) tks).toArray nE)]) (ks := []) (fun b o e _ => hk2 b o e) (fun b hb => nomatch hb) (fun p hp => hk2 _ _ (S.nw p hp).1) rfl (fun p hp => by
      rcases List.mem_cons.mp hp with rfl | hp
      · exact ⟨hr1, hr2⟩
      · rcases List.mem_singleton.mp hp with rfl; exact ⟨hr3, hr4⟩) (by show [rT, le].Nodup; simp [hr5])
    clear S hsub hk2 hr1 hr2 hr3 hr4 hr5
    have S : St g L h' [("words", .ref Dl)] ((rT, tupOf [.str (textOf (cs.map (·.1))) tt, .ref le]) :: (le, listOf (endsV (cs.map (·.1)) tks).toArray nE) :: (Dl, listOf (strValues ds).toArray nn) :: [(L + 1 + 1, oX), (L + 1, oK), (100, tabObj #[])]) := (S'.pick (.cons₂ _ (.cons₂ _ (.cons₂ _ (.cons _ (.cons _ (List.Sublist.refl _))))))).low (lo_cons rfl lo_nil)
    clear S'
    dsimp only
    refine' m_unpack S (.head _) rfl rfl rfl ?_
    clear S
    intro h S
    repeat (first | walk_at "m" | refine' m_inOrder ?_)
    refine' m_inOrder0 ?_
    replace S := S.pick (List.sublist_cons_self _ _)
    repeat (walk_at "m")
    have hxl : (textOf (cs.map (·.1))).length ≤ 900 := by
      have := textOf_len (cs.map (·.1))
      rw [List.length_map] at this
      omega
    refine' m_cwCls S X ?hk3 ?hs ?hp ?_
    case hk3 => k_is
    case hs => with_unfolding_all rfl
    case hp => with_unfolding_all rfl
    repeat (walk_at "m")
    refine' m_cwK (fnAt_K X S ?hlk) ?hs ?hp ?_
    case hlk => rfl
    case hs => with_unfolding_all rfl
    case hp => with_unfolding_all rfl
    repeat (walk_at "m")
    refine' and_K (fnAt_K X S ?hlk2) ?_
    case hlk2 => rfl
    obtain ⟨lA, hlA⟩ : ∃ x, x = l := ⟨l, rfl⟩
    obtain ⟨t0, ht0⟩ : ∃ x, x = t := ⟨t, rfl⟩
    rw [← hlA, ← ht0] at S
    rw [← hlA]
    clear hlA ht0
    refine' m_callF ?_
    replace S := S.perm (own' := [(100, tabObj #[])] ++ [(lA, listOf [.int 0 t0].toArray 0), (le, listOf (endsV (cs.map (·.1)) tks).toArray nE), (Dl, listOf (strValues ds).toArray nn), (L + 1 + 1, oX), (L + 1, oK)]) (List.perm_append_comm (l₁ := [(lA, listOf [.int 0 t0].toArray 0), (le, listOf (endsV (cs.map (·.1)) tks).toArray nE), (Dl, listOf (strValues ds).toArray nn), (L + 1 + 1, oX), (L + 1, oK)]) (l₂ := [(100, tabObj #[])]))
    have hsub : ∀ p ∈ [((100 : Addr), tabObj #[])], p ∈ [(100, tabObj #[])] ++ [(lA, listOf [.int 0 t0].toArray 0), (le, listOf (endsV (cs.map (·.1)) tks).toArray nE), (Dl, listOf (strValues ds).toArray nn), (L + 1 + 1, oX), (L + 1, oK)] := fun p hp => List.mem_append_left _ hp
    refine' law_stream (oL := oX) X T0 ?hr hxl (fun p hp => S.at (a := p.1) (o := p.2) (hsub p hp)) (S.stays (fun _ _ e => e) hsub) hcd ?_
    case hr => show callerA.depth + 1 < 390; decide
    intro r h' tk' ps ok0 ert erA hk2 h100 hnews hnnd
    have S' := St.turn (mid := [(100, tabObj #[])]) (mid' := [(100, tabObj ps)]) S hk2 (fun p hp => by rcases List.mem_singleton.mp hp with rfl; exact h100) rfl hnews hnnd
    clear S hsub hk2 h100 hnews hnnd
    have S := S'
    clear S'
    dsimp only
    repeat (walk_at "m")
    refine' and_K (S.hasK X) ?_
    refine' m_newInst (by assumption) X ?hm ?hi ?hf ?_
    case hm => k_is
    case hi => k_is
    case hf => k_is
    clear S
    intro xL dL h S
    have hdep : (callerA.deeper (lawEnv L fa cd)).depth < 400 := by show callerA.depth + 1 < 400; decide
    have hsub2 : ∀ p ∈ [(xL, instObj 80 dL), (dL, dictOf [] 0)], p ∈ (xL, instObj 80 dL) :: (dL, dictOf [] 0) :: (r.news ++ ([(100, tabObj ps)] ++ [(lA, listOf [.int 0 t0].toArray 0), (le, listOf (endsV (cs.map (·.1)) tks).toArray nE), (Dl, listOf (strValues ds).toArray nn), (L + 1 + 1, oX), (L + 1, oK)])) := fun p hp => List.mem_append_left (as := [(xL, instObj 80 dL), (dL, dictOf [] 0)]) _ hp
    refine' lex_init X T0 (depth_type2 hdep) (fun p hp => S.at (a := p.1) (o := p.2) (hsub2 p hp)) (S.apart (.head _)) (S.stays (fun _ _ e => e) hsub2) ?_
    intro h' tk' c1 c2 c3 c4 cl cw lP hk2 hd2 hl2 hl3
    have S' := St.turn (mid := [(dL, dictOf [] 0)]) (mid' := [(dL, dictOf (lexEs w c1 c2 c3 c4 1 cl (.ref r.xS) cw lP) 4)]) (new := [(lP, listOf ([] : List Value).toArray 0)]) S.swap hk2 (fun p hp => by rcases List.mem_singleton.mp hp with rfl; exact hd2) rfl (fun p hp => by rcases List.mem_singleton.mp hp with rfl; exact ⟨hl2, hl3⟩) (by simp)
    clear S hsub2 hk2 hd2 hl2 hl3
    have S : St g L h' [("ends", .ref le), ("text", .str (textOf (cs.map (·.1))) tt), ("words", .ref Dl)] ([(lP, listOf ([] : List Value).toArray 0), (dL, dictOf (lexEs w c1 c2 c3 c4 1 cl (.ref r.xS) cw lP) 4), (xL, instObj 80 dL), (r.cA, r.oA), (r.cT, r.oT), (r.xS, instObj 80 r.dS), (r.dS, dictOf r.esS r.nS), (r.fG, fnMade "_law_give" "_law_stream.<locals>._law_give" gA gB gS r.cl r.doc r.pm r.cd r.ctv), (r.cd, r.oc), (100, tabObj ps), (lA, listOf [.int 0 t0].toArray 0), (le, listOf (endsV (cs.map (·.1)) tks).toArray nE), (Dl, listOf (strValues ds).toArray nn), (L + 1 + 1, oX), (L + 1, oK)]) := S'.low (lo_cons rfl (lo_cons rfl (lo_cons rfl lo_nil)))
    clear S'
    refine ⟨rfl, ?_⟩
    dsimp only
    refine' m_storeC' (c := L + 1 + 1) (fun o => [(lP, listOf ([] : List Value).toArray 0), (dL, dictOf (lexEs w c1 c2 c3 c4 1 cl (.ref r.xS) cw lP) 4), (xL, instObj 80 dL), (r.cA, r.oA), (r.cT, r.oT), (r.xS, instObj 80 r.dS), (r.dS, dictOf r.esS r.nS), (r.fG, fnMade "_law_give" "_law_stream.<locals>._law_give" gA gB gS r.cl r.doc r.pm r.cd r.ctv), (r.cd, r.oc), (100, tabObj ps), (lA, listOf [.int 0 t0].toArray 0), (le, listOf (endsV (cs.map (·.1)) tks).toArray nE), (Dl, listOf (strValues ds).toArray nn), (L + 1 + 1, o), (L + 1, oK)]) S ?hx ?hk hclX ?hU hoX ?_
    case hU => intro o'; walk_at "at"
    case hx => with_unfolding_all rfl
    case hk => with_unfolding_all rfl
    clear S hoX
    intro h oX hoX S
    iterate 8 (walk_at "m")
    replace S := S.first (pre := [_, _, _, _, _, _, _, _, _, _, _, _, _, _, _]) rfl
    replace S := S.first (pre := [_, _, _, _, _, _, _, _, _, _, _]) rfl
    replace S := S.first (pre := [_, _, _, _, _, _, _, _, _, _, _, _, _, _]) rfl
    replace S := S.first (pre := [_, _, _, _, _, _, _, _, _, _, _, _, _, _]) rfl
    replace S := S.first (pre := [_, _, _, _, _, _, _, _, _, _, _, _, _, _, _]) rfl
    replace S := S.first (pre := [_, _, _, _, _, _, _, _, _, _, _, _, _, _]) rfl
    replace S := S.first (pre := [_, _, _, _, _, _, _, _, _, _, _, _, _, _]) rfl
    replace S := S.first (pre := [_, _, _, _, _, _, _, _, _, _]) rfl
    replace S := S.first (pre := [_, _, _, _, _, _, _, _, _, _, _, _, _, _]) rfl
    replace S := S.first (pre := [_, _, _, _, _, _, _, _, _, _, _, _, _, _]) rfl
    replace S := S.first (pre := [_, _, _, _, _, _, _, _, _, _, _, _, _, _]) rfl
    replace S := S.first (pre := [_, _, _, _, _, _, _, _, _, _, _, _, _, _]) rfl
    replace S := S.first (pre := [_, _, _, _, _, _, _, _, _, _, _, _, _]) rfl
    replace S := S.first (pre := [_, _, _, _, _, _, _, _, _, _, _, _, _, _]) rfl
    replace S := S.first (pre := [_, _, _, _, _, _, _, _, _, _, _, _, _, _, _]) rfl
    replace S := S.first (pre := [_, _, _, _, _, _, _, _, _, _, _, _, _, _, _]) rfl
    obtain ⟨fs, hfs⟩ : ∃ fs, fs = cs.map (·.1) := ⟨_, rfl⟩
    have hfl : fs.length ≤ 14 := by rw [hfs, List.length_map]; exact hcl
    have hf : ∀ f ∈ fs, f < 12 := fun f hm => by
      rw [hfs] at hm
      obtain ⟨c, hc, e⟩ := List.mem_map.mp hm
      rw [← e]; exact hck c hc
    have htk2 : tks.length = fs.length := by rw [hfs, List.length_map]; exact htk
    rw [← hfs] at S ert hds2
    have hdA := above1 hL1 hdL
    have e1 : ((posOf fs 0 : Nat) : Int) = 0 := rfl
    have e2 : lnsOf fs 0 = 1 := rfl
    obtain ⟨r2, ok, ht, S⟩ : ∃ r2 : Rig, RigOk r2 ∧ r2.text = textOf fs ∧ oX.data = .cell (some (.ref r2.xL)) ∧ St g L h [("wrong", .str (Str.ofString "") _), ("hosts", .ref d), ("ends", .ref le), ("text", .str (textOf fs) tt), ("words", .ref Dl)] ((d, dict0) :: ((r2.with [] 0).own (posOf fs 0) t0 (lnsOf fs 0) cl ++ ((L + 1 + 1, oX) :: [(le, listOf (endsV fs tks).toArray nE), (Dl, listOf (strValues ds).toArray nn), (100, tabObj ps)]))) := by
      rw [e1, e2]
      have S9 := S.pick (own' := [(d, dict0), (lA, listOf [.int 0 t0].toArray 0), (dL, dictOf (lexEs w c1 c2 c3 c4 1 cl (.ref r.xS) cw lP) 4), (lP, listOf ([] : List Value).toArray 0), (r.cA, r.oA), (r.cT, r.oT), (r.xS, instObj 80 r.dS), (r.dS, dictOf r.esS r.nS), (xL, instObj 80 dL), (r.fG, fnMade "_law_give" "_law_stream.<locals>._law_give" gA gB gS r.cl r.doc r.pm r.cd r.ctv), (r.cd, r.oc), (L + 1 + 1, oX), (le, listOf (endsV fs tks).toArray nE), (Dl, listOf (strValues ds).toArray nn), (100, tabObj ps)]) (List.sublist_append_left _ [_])
      refine ⟨{ r with lA := lA, xL := xL, dL := dL, lP := lP, pb := [], nA := 0, nP := 0, nL := 4, esL := fun ln tl => lexEs w c1 c2 c3 c4 ln tl (.ref r.xS) cw lP }, ?_, ert, hoX, S9⟩
      exact { a := by rw [← erA]; exact ok0.a, t := ok0.t, cdf := ok0.cdf, cla := ok0.cla, clt := ok0.clt, ln := fun _ _ => rfl, ins := fun _ _ => rfl, psh := fun _ _ => rfl, wsp := ⟨cw, fun _ _ => rfl⟩, rc := fun _ _ => rfl, gt := fun _ _ => rfl, pt := fun _ _ => rfl, rd := ok0.rd, put := fun _ _ _ _ _ _ => rfl, putn := fun _ _ => rfl, esz := fun _ _ => Nat.le_of_ble_eq_true rfl, len := ok0.len }
    obtain ⟨hoX2, S⟩ := S
    obtain ⟨out, hout⟩ := due_ends (fs.map wordOf) 0 .top []
    dsimp only
    refine law_try X T0 KB ok ht hf hfl hoX2 hout (lo := [("ends", .ref le), ("text", .str (textOf fs) tt), ("words", .ref Dl)]) (fun x v e hx => ?_) S ?_
    · subst hx
      rw [lk_miss (by decide +kernel) (lk_miss (by decide +kernel) (lk_miss (by decide +kernel) rfl))] at e
      cases e
    · intro h' tk' v ex nP od kvs ts tA tL hv hod hrel hkl2 S
      have hp : List.Perm (ex ++ (d, od) :: ((r2.with [] nP).own (posOf fs (out.1 + 1)) tA (lnsOf fs (out.1 + 1)) tL ++ (ts ++ ((L + 1 + 1, oX) :: [(le, listOf (endsV fs tks).toArray nE), (Dl, listOf (strValues ds).toArray nn), (100, tabObj ps)])))) ((d, od) :: ((r2.with [] nP).own (posOf fs (out.1 + 1)) tA (lnsOf fs (out.1 + 1)) tL ++ ((L + 1 + 1, oX) :: (le, listOf (endsV fs tks).toArray nE) :: (Dl, listOf (strValues ds).toArray nn) :: (100, tabObj ps) :: (ex ++ ts)))) := by
        refine (List.perm_append_comm_assoc ex ((d, od) :: (r2.with [] nP).own (posOf fs (out.1 + 1)) tA (lnsOf fs (out.1 + 1)) tL) (ts ++ ((L + 1 + 1, oX) :: [(le, listOf (endsV fs tks).toArray nE), (Dl, listOf (strValues ds).toArray nn), (100, tabObj ps)]))).trans ?_
        refine List.Perm.append_left ((d, od) :: (r2.with [] nP).own (posOf fs (out.1 + 1)) tA (lnsOf fs (out.1 + 1)) tL) ?_
        rw [← List.append_assoc]
        exact List.perm_append_comm (l₂ := (L + 1 + 1, oX) :: [(le, listOf (endsV fs tks).toArray nE), (Dl, listOf (strValues ds).toArray nn), (100, tabObj ps)])
      exact law_fin X T0 KB ok ht hf hfl hoX2 hout htk2 hds2 hdA (zs := ex ++ ts) hv hod hrel hkl2 (fun p hp => List.mem_append_left _ hp) (fun p hp => List.mem_append_right _ hp) (S.perm hp) q
end Mine

open PySem PySem.W PySem.Spec PySem.Calls PyProof.Rows
theorem Mine.lo_fn {m : Str → Option Value} {y : Str} {u : Value} (e : m y = some u) : ∀ x v, [(y, u)].lookup x = some v → m x = some v := fun x v q => by
  rw [List.lookup_cons] at q
  by_cases z : x = y
  · subst z
    have : v = u := by simpa using q.symm
    rw [this]; exact e
  · have : (x == y) = false := by simpa using z
    rw [this] at q
    cases q
theorem PySem.Challenge.cw_km0063_02_holds : PySem.Challenge.rw_km0063_02.Holds := by
  exact Mine.hd2 (by
  w_on
  w_strict (
  k_go0;
  rename_i hI hrA hc1 hc2 hD h1 tk1 oX oK hoX hoK X0 X1 T1 K1 F1 N1 l0;
  show wpAny _ (callerA.deeper (Mine.lawEnv _ _ _)) (execs Mine.lawB (Mine.lawEnv _ _ _)) _ _ _
  generalize hB : Mine.lawB = B
  refine Mine.law_body X1 T1 K1 hB lifted hI codeHd (hoX.trans (by with_unfolding_all rfl)) (hoK.trans (by with_unfolding_all rfl)) ⟨⟨_, F1, ?hlo⟩, N1, ?hnd⟩ ?hq
  case hlo => 
    exact Mine.lo_fn (by with_unfolding_all rfl)
  case hnd =>
    simp only [List.map_cons, List.map_nil, List.nodup_cons, List.mem_cons, List.not_mem_nil, List.nodup_nil, not_or]
    refine ⟨⟨?_, ?_, not_false⟩, ⟨?_, not_false⟩, not_false, trivial⟩ <;> (show (_ : Nat) ≠ _; omega)
  case hq =>
    intro h' tk' lo own ps S hm
    refine ⟨?_, ⟨ps, (S.nw _ hm).1⟩, trivial⟩
    obtain ⟨m, F, _⟩ := S.fr
    kc_bool
    refine goodW_bool F (by assumption) (raisesW_false ?_) ?_
    · wrow_none_raised
    · kc_post))
