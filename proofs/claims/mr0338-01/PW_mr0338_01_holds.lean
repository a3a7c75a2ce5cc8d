import PyProof.Rows.All
import Wide.All
import OpenK.AllK
import Wide.FinOn
import PySem.Challenge.RW_mr0338_01
set_option Elab.async false
set_option linter.unusedVariables false
set_option linter.all false
set_option maxRecDepth 100000
set_option maxHeartbeats 8000000
namespace Mine
open PySem PySem.W PyProof.Rows
/-- the text as the head sees it: without the names that it leaves loose -/
noncomputable def viewP : Program := { PySem.Challenge.rw_mr0338_01.row.prog with main := { PySem.Challenge.rw_mr0338_01.row.prog.main with body := [0, 7, 8, 9, 10, 11, 13, 14, 15, 16, 17, 18, 19, 20, 21].filterMap fun i => PySem.Challenge.rw_mr0338_01.row.prog.main.body[i]? } }
noncomputable def looseP : List Str := [Str.ofString "insort_right", Str.ofString "bisect_right", Str.ofString "insort_left", Str.ofString "bisect_left", Str.ofString "_NodeInfo"]
noncomputable def seesP (s : Shared) : Bool := xlAt viewP [] s && recOk (RowW.records (OpenRow.toRowW (OpenLaw.row PySem.Challenge.rw_mr0338_01))) s
noncomputable def topQ (p : Program) (w : World) (N : Nat) (s₀ : Shared) : Option Shared :=
  match s₀.heap.isNs mainGlobals && s₀.gens.size == 0 with
  | true => (PySem.W.Fast.tw14082659384304107361 PySem.W.Fast.tw14364793385576792824 p w s₀.heap.objs.size (s₀.heap.nsMap mainGlobals "__annotations__") N s₀ (topStub p)).bind fun s₁ => match staticsOk (importedModules p.main.body) s₀.heap s₁.heap && namesBound p s₁.heap && gensDone s₁ && laidKept s₀.heap s₁.heap with
      | true => some s₁
      | false => none
  | false => none
theorem topQ_eq (p : Program) (w : World) (N : Nat) (s₀ : Shared) : topFrom treeTable p w N s₀ = topQ p w N s₀ := by
  unfold topFrom topQ
  rw [PySem.W.Fast.te14082659384304107361, PySem.W.Fast.te14364793385576792824]
  rfl
theorem left_boot {p q : Program} {loose : List Str} {Xt : Shared → Bool} {α : Type} {Yf : Shared → α} {Ya : World → α} {N : Nat}
    (e : opening p = plainProg p.main.scope.names) (hN : Nat.ble 600 N = true) (f : ∀ s, fenceModules? p s = some s)
    (h : ∀ (w : World) (os : OsState), (topQ p w N ⟨boot_heap w.params, #[], boot_drawn, boot_toks, os⟩).map (fun s => (@PySem.W.Fast.tw4187177175401517315 q loose (importedModules p.main.body) Xt true s, Yf s)) = some (openGood q loose, Ya w)) :
    LeftO p q loose Xt Yf Ya N := fun w => by
  obtain ⟨⟨hp, gs, dr, tk, os⟩, hs, hv⟩ := Option.map_eq_some_iff.mp (boot_open e hN f w)
  cases hv
  unfold openEnds
  rw [hs]
  show (topFrom treeTable p w N _).map _ = _
  rw [topQ_eq, PySem.W.Fast.te4187177175401517315]
  exact h w os
theorem said : OpenLaw.wellSaid PySem.Challenge.rw_mr0338_01 = true := (congrFun PySem.W.Fast.te9446332074065402090 _).trans (by kernel_rfl)
theorem top_open (H : Hook) {d : DefRec} {kwd : List (Str × Expr)}
    (hl : LeftO PySem.Challenge.rw_mr0338_01.row.prog viewP looseP seesP H.obs H.val 3060)
    (hd : defOf viewP PySem.Challenge.rw_mr0338_01.row.name = some (d, kwd))
    (hp : PySem.Challenge.rw_mr0338_01.row.prog.theDef PySem.Challenge.rw_mr0338_01.row.name = some (d.params, d.body, d.scope))
    (hk : kwWritten? d.params.kwonlyargs d.params.kw_defaults = some kwd)
    (hw : PySem.Challenge.rw_mr0338_01.row.toRowW.promised)
    (hc : WalkO viewP looseP (XL viewP []) H.says PySem.Challenge.rw_mr0338_01.row.toRowW d kwd fun f vs => PySem.call f vs) : PySem.Challenge.rw_mr0338_01.row.Holds :=
  holds_open (q := viewP) (loose := looseP) (Xt := seesP) (XP := XL viewP []) (N := 3060) hl H.of H.keeps (fun s e => xl_of s (Bool.and_eq_true_iff.mp e).1) XL.keeps hd hp hk
    (fun s e => recFacts_of (Bool.and_eq_true_iff.mp e).2) (by rfl) (row_said said) (by decide +kernel) ⟨rfl, rfl, rfl, rfl, rfl, by decide +kernel⟩ hw hc
local macro_rules
  | `(tactic| o_law) => `(tactic| refine holds_law Mine.said fun _ => ?_)
set_option hygiene false in
local macro_rules
  | `(tactic| o_head $H) => `(tactic| (refine Mine.top_open $H ?hl (by rfl) (by rfl) (by rfl) ?hw ?hc; (case hl => refine Mine.left_boot (by kernel_rfl) (by kernel_rfl) (by intro s; kernel_rfl) ?_; intro w os; kernel_rfl)))
open_top hd for PySem.Challenge.rw_mr0338_01
end Mine

namespace Mine
open PySem PySem.W PyProof.Rows

/-! ## plain data -/
inductive V where
  | none
  | bool (b : Bool)
  | int (i : Int)
  | ref (a : Addr)
  | blt (s : String)
  | typ (s : String)

inductive VR : V → Value → Prop where
  | none : VR .none .none
  | bool (b : Bool) : VR (.bool b) (.bool b)
  | int (i : Int) (t : Tok) : VR (.int i) (.int i t)
  | ref (a : Addr) : VR (.ref a) (.ref a)
  | blt (s : String) : VR (.blt s) (.builtin s)
  | typ (s : String) : VR (.typ s) (.type s)

inductive VRs : List V → List Value → Prop where
  | nil : VRs [] []
  | cons {v x vs xs} : VR v x → VRs vs xs → VRs (v :: vs) (x :: xs)

inductive O where
  | list (xs : List V)
  | tuple (xs : List V)
  | rng (a b c : Int)
  | cell (v : Option V)
  | raw (o : Obj)
  | sat (P : Obj → Prop)
  | sdict (m : List (Str × V))
  | idict (m : List (Int × V)) (ep : Nat)
  | iset (xs : List Int)
  | iter (l : Addr) (i : Nat)
  | slots (C dx : Addr) (vs : List (Option V))
  | tab (ts : List (Nat × Nat × Addr))
  | code (q : Str)
  | lam (q : Str) (params : Arguments) (body : Expr) (scope : Scope) (cl : List (Str × Addr)) (c : Addr)

inductive VRo : Option V → Option Value → Prop where
  | none : VRo .none .none
  | some {v x} : VR v x → VRo (some v) (some x)

inductive VRos : List (Option V) → List (Option Value) → Prop where
  | nil : VRos [] []
  | cons {v x vs xs} : VRo v x → VRos vs xs → VRos (v :: vs) (x :: xs)

inductive IEs : List (Int × V) → List DictEntry → Prop where
  | nil : IEs [] []
  | cons {k : Int} {v : V} {x : Value} {t : Tok} {m es} : VR v x → IEs m es → IEs ((k, v) :: m) (⟨hashInt k, .int k t, x⟩ :: es)

inductive SEs : List (Str × V) → List DictEntry → Prop where
  | nil : SEs [] []
  | cons {k : Str} {v : V} {x : Value} {t : Tok} {hsh : Int} {m es} : VR v x → SEs m es → SEs ((k, v) :: m) (⟨hsh, .str k t, x⟩ :: es)

noncomputable def tabL (ts : List (Nat × Nat × Addr)) : List Value := ts.flatMap fun t => [rawInt t.1, rawInt t.2.1, .ref t.2.2]

noncomputable def OR : O → Obj → Prop
  | .list xs, ob => ∃ items n, ob = { cls := .type "list", data := .seq items n } ∧ VRs xs items.toList
  | .tuple xs, ob => ∃ items n, ob = { cls := .type "tuple", data := .seq items n } ∧ VRs xs items.toList
  | .rng a b c, ob => ∃ t u v, ob = { cls := .type "range", data := .fields #[.int a t, .int b u, .int c v] }
  | .cell v, ob => ∃ x, ob.data = .cell x ∧ VRo v x
  | .raw o, ob => ob = o
  | .sat P, ob => P ob
  | .sdict m, ob => ∃ es n, ob = { cls := .type "dict", data := .dict (List.toArray es) n } ∧ SEs m es
  | .idict m ep, ob => ob.ExactDict ∧ ∃ es, ob.data = .dict es ep ∧ IEs m es.toList ∧ (m.map (·.1)).Nodup
  | .iset xs, ob => ob.ExactSet ∧ ∃ es ep t, ob.data = .set es ep t ∧ (∀ e ∈ es.toList, ∃ k u, e = (hashInt k, Value.int k u)) ∧ (∀ k, k ∈ xs ↔ ∃ e ∈ es.toList, Value.isInt k e.2 = true) ∧ es.size < scanBound ∧ t.fits es.size = true ∧ es.size ≤ xs.length
  | .iter l i, ob => ob.cls = .type "list_iterator" ∧ ob.data = .fields #[.ref l, .int i 0]
  | .slots C dx vs, ob => ∃ sl, ob = { cls := .ref C, dict := some dx, data := .plain, slots := sl } ∧ VRos vs sl.toList
  | .tab ts, ob => ob = tabObj (tabL ts).toArray
  | .code q, ob => ∃ vs t, ob.data = .fields vs ∧ vs[1]? = some (.str q t)
  | .lam q ps b sc cl c, ob => ∃ pm ctv, ob = { cls := .type "function", data := .func (kla_fn "<lambda>" q ps b sc cl pm (.ref c) ctv) }

noncomputable abbrev AH := Addr → Option O
noncomputable abbrev Loc := List (Str × V)
noncomputable def AH.set (σ : AH) (a : Addr) (o : O) : AH := fun b => if b = a then some o else σ b
noncomputable def Loc.set (m : Loc) (x : Str) (v : V) : Loc :=
  match m with
  | [] => [(x, v)]
  | (y, u) :: r => if y == x then (y, v) :: r else (y, u) :: Loc.set r x v

theorem AH.set_self (σ : AH) (a : Addr) (o : O) : (σ.set a o) a = some o := if_pos rfl
theorem AH.set_ne (σ : AH) {a b : Addr} (o : O) (h : b ≠ a) : (σ.set a o) b = σ b := if_neg h
theorem AH.set_set (σ : AH) (a : Addr) (o o' : O) : (σ.set a o).set a o' = σ.set a o' := by
  funext b; unfold AH.set; split <;> rfl
theorem AH.set_eq (σ : AH) {a : Addr} {o : O} (h : σ a = some o) : σ.set a o = σ := by
  funext b; unfold AH.set; split
  · rename_i e; rw [e, h]
  · rfl
theorem AH.set_comm (σ : AH) {a b : Addr} (o o' : O) (h : a ≠ b) : (σ.set a o).set b o' = (σ.set b o').set a o := by
  funext c; unfold AH.set
  by_cases h1 : c = b
  · subst h1; simp [Ne.symm h]
  · simp [h1]

theorem Loc.lookup_set (m : Loc) (x : Str) (v : V) (y : Str) : (m.set x v).lookup y = if y = x then some v else m.lookup y := by
  induction m with
  | nil =>
    show List.lookup y [(x, v)] = _
    by_cases h : y = x
    · subst h; rw [if_pos rfl, List.lookup_cons, beq_self_eq_true]
    · rw [if_neg h, List.lookup_cons, beq_eq_false_iff_ne.mpr h]
  | cons p r ih =>
    obtain ⟨z, u⟩ := p
    show List.lookup y (if (z == x) = true then (z, v) :: r else (z, u) :: Loc.set r x v) = _
    by_cases hz : z = x
    · subst hz
      rw [if_pos (beq_self_eq_true z), List.lookup_cons, List.lookup_cons]
      by_cases h : y = z
      · subst h; rw [if_pos rfl, beq_self_eq_true]
      · rw [if_neg h, beq_eq_false_iff_ne.mpr h]
    · rw [if_neg (by rw [beq_eq_false_iff_ne.mpr hz]; exact Bool.false_ne_true), List.lookup_cons, List.lookup_cons, ih]
      by_cases h : y = x
      · subst h
        rw [beq_eq_false_iff_ne.mpr (fun e => hz e.symm)]
      · rw [if_neg h, if_neg h]

/-! ## the relation to the heap -/
structure Sim (g : Heap) (L : Addr) (m : Loc) (σ : AH) (h : Heap) : Prop where
  base : ∀ b o, g.get? b = some o → h.get? b = some o
  gL : g.get? L = none
  offL : σ L = none
  off : ∀ a, σ a ≠ none → g.get? a = none
  ns : ∃ M, h.Ns L M ∧ ∀ x v, m.lookup x = some v → ∃ v', M x = some v' ∧ VR v v'
  fit : ∀ a o, σ a = some o → ∃ ob, h.get? a = some ob ∧ OR o ob

structure Tr (L : Addr) (σ σ' : AH) (h h' : Heap) : Prop where
  keep : ∀ b o, h.get? b = some o → σ b = none → b ≠ L → h'.get? b = some o
  fresh : ∀ a, σ' a ≠ none → σ a ≠ none ∨ (h.get? a = none ∧ a ≠ L)

theorem Tr.refl (L : Addr) (σ : AH) (h : Heap) : Tr L σ σ h h := ⟨fun _ _ e _ _ => e, fun _ e => .inl e⟩
theorem Tr.trans {L : Addr} {σ₁ σ₂ σ₃ : AH} {h₁ h₂ h₃ : Heap} (x : Tr L σ₁ σ₂ h₁ h₂) (y : Tr L σ₂ σ₃ h₂ h₃) : Tr L σ₁ σ₃ h₁ h₃ := by
  refine ⟨fun b o e hs hL => ?_, fun a e => ?_⟩
  · refine y.keep b o (x.keep b o e hs hL) ?_ hL
    cases q : σ₂ b with
    | none => rfl
    | some o' =>
      rcases x.fresh b (by rw [q]; simp) with z | z
      · exact absurd hs z
      · rw [z.1] at e; cases e
  · rcases y.fresh a e with z | z
    · exact x.fresh a z
    · cases q : h₁.get? a with
      | none => exact .inr ⟨rfl, z.2⟩
      | some o =>
        cases q' : σ₁ a with
        | some o' => exact .inl (by simp)
        | none => rw [x.keep a o q q' z.2] at z; cases z.1

theorem size_none (h : Heap) : h.get? h.objs.size = none := by
  cases q : h.get? h.objs.size with
  | none => rfl
  | some o => exact absurd (Heap.lt_size q) (Nat.lt_irrefl _)

theorem Sim.lt {g : Heap} {L : Addr} {m : Loc} {σ : AH} {h : Heap} (S : Sim g L m σ h) {a : Addr} {o : O} (e : σ a = some o) : a < h.objs.size := by
  obtain ⟨ob, ho, _⟩ := S.fit a o e
  exact Heap.lt_size ho
theorem Sim.ne {g : Heap} {L : Addr} {m : Loc} {σ : AH} {h : Heap} (S : Sim g L m σ h) {a : Addr} {o : O} (e : σ a = some o) : a ≠ L := fun q => by
  subst q; rw [S.offL] at e; cases e
theorem Sim.fresh {g : Heap} {L : Addr} {m : Loc} {σ : AH} {h : Heap} (S : Sim g L m σ h) : σ h.objs.size = none := by
  cases q : σ h.objs.size with
  | none => rfl
  | some o => exact absurd (S.lt q) (Nat.lt_irrefl _)
theorem Sim.ltL {g : Heap} {L : Addr} {m : Loc} {σ : AH} {h : Heap} (S : Sim g L m σ h) : L < h.objs.size := let ⟨_, q, _⟩ := S.ns; q.lt
theorem Sim.gfresh {g : Heap} {L : Addr} {m : Loc} {σ : AH} {h : Heap} (S : Sim g L m σ h) {a : Addr} (ha : h.objs.size ≤ a) : g.get? a = none := by
  cases q : g.get? a with
  | none => rfl
  | some o => exact absurd (Heap.lt_size (S.base _ _ q)) (Nat.not_lt.mpr ha)

section
variable {g : Heap} {L : Addr} {m : Loc} {σ : AH} {h h' : Heap}

theorem Sim.grow (S : Sim g L m σ h) (k : ∀ b o, h.get? b = some o → h'.get? b = some o) : Sim g L m σ h' :=
  ⟨fun b o e => k _ _ (S.base b o e), S.gL, S.offL, S.off, let ⟨M, a, b⟩ := S.ns; ⟨M, a.keeps k, b⟩, fun a o e => let ⟨ob, x, y⟩ := S.fit a o e; ⟨ob, k _ _ x, y⟩⟩
theorem Tr.grow (k : ∀ b o, h.get? b = some o → h'.get? b = some o) : Tr L σ σ h h' :=
  ⟨fun b o e _ _ => k b o e, fun _ e => .inl e⟩

theorem Sim.storeL (S : Sim g L m σ h) {M : Str → Option Value} {x : Str} {v : V} {v' : Value} (hM : h.Ns L M) (hm : ∀ y u, m.lookup y = some u → ∃ u', M y = some u' ∧ VR u u')
    (hn : h'.Ns L (fun y => if y = x then some v' else M y)) (hs : Heap.SameBut L h h') (hv : VR v v') : Sim g L (m.set x v) σ h' := by
  refine ⟨fun b o e => ?_, S.gL, S.offL, S.off, ⟨_, hn, fun y u e => ?_⟩, fun a o e => ?_⟩
  · rw [hs.2 b (fun q => by subst q; rw [S.gL] at e; cases e)]; exact S.base b o e
  · rw [Loc.lookup_set] at e
    by_cases hy : y = x
    · rw [if_pos hy] at e; cases e; exact ⟨v', if_pos hy, hv⟩
    · rw [if_neg hy] at e
      obtain ⟨u', q1, q2⟩ := hm y u e
      exact ⟨u', by rw [if_neg hy]; exact q1, q2⟩
  · obtain ⟨ob, q1, q2⟩ := S.fit a o e
    exact ⟨ob, by rw [hs.2 a (S.ne e)]; exact q1, q2⟩
theorem Tr.storeL (hs : Heap.SameBut L h h') : Tr L σ σ h h' :=
  ⟨fun b o e _ hb => by rw [hs.2 b hb]; exact e, fun _ e => .inl e⟩

theorem Sim.upd (S : Sim g L m σ h) {a : Addr} {o o' : O} (ha : σ a = some o) (hs : Heap.SameBut a h h') {ob : Obj} (hb : h'.get? a = some ob) (hr : OR o' ob) : Sim g L m (σ.set a o') h' := by
  have hg := S.off a (by rw [ha]; simp)
  refine ⟨fun b x e => ?_, S.gL, ?_, fun b e => ?_, ?_, fun b x e => ?_⟩
  · rw [hs.2 b (fun q => by subst q; rw [hg] at e; cases e)]; exact S.base b x e
  · rw [AH.set_ne _ _ (Ne.symm (S.ne ha))]; exact S.offL
  · by_cases q : b = a
    · subst q; exact hg
    · rw [AH.set_ne _ _ q] at e; exact S.off b e
  · obtain ⟨M, q1, q2⟩ := S.ns
    exact ⟨M, q1.sameBut hs (Ne.symm (S.ne ha)), q2⟩
  · by_cases q : b = a
    · subst q; rw [AH.set_self] at e; cases e; exact ⟨ob, hb, hr⟩
    · rw [AH.set_ne _ _ q] at e
      obtain ⟨y, q1, q2⟩ := S.fit b x e
      exact ⟨y, by rw [hs.2 b q]; exact q1, q2⟩
theorem Tr.upd {a : Addr} {o o' : O} (ha : σ a = some o) (hs : Heap.SameBut a h h') : Tr L σ (σ.set a o') h h' := by
  refine ⟨fun b x e q _ => ?_, fun b e => ?_⟩
  · rw [hs.2 b (fun z => by subst z; rw [ha] at q; cases q)]; exact e
  · by_cases q : b = a
    · subst q; exact .inl (by rw [ha]; simp)
    · rw [AH.set_ne _ _ q] at e; exact .inl e

theorem Sim.alloc (S : Sim g L m σ h) {o : O} {ob : Obj} (hf : ob.isFreed = false) (hr : OR o ob) : Sim g L m (σ.set h.objs.size o) (h.push ob) := by
  have hg := S.gfresh (Nat.le_refl _)
  refine ⟨fun b x e => Heap.get?_push_of_some _ (S.base b x e), S.gL, ?_, fun b e => ?_, ?_, fun b x e => ?_⟩
  · rw [AH.set_ne _ _ (Nat.ne_of_lt S.ltL)]; exact S.offL
  · by_cases q : b = h.objs.size
    · subst q; exact hg
    · rw [AH.set_ne _ _ q] at e; exact S.off b e
  · obtain ⟨M, q1, q2⟩ := S.ns
    exact ⟨M, q1.push _, q2⟩
  · by_cases q : b = h.objs.size
    · subst q; rw [AH.set_self] at e; cases e; exact ⟨ob, Heap.get?_push_size _ hf, hr⟩
    · rw [AH.set_ne _ _ q] at e
      obtain ⟨y, q1, q2⟩ := S.fit b x e
      exact ⟨y, Heap.get?_push_of_some _ q1, q2⟩
theorem Tr.alloc (S : Sim g L m σ h) {o : O} {ob : Obj} : Tr L σ (σ.set h.objs.size o) h (h.push ob) := by
  refine ⟨fun b x e _ _ => Heap.get?_push_of_some _ e, fun b e => ?_⟩
  by_cases q : b = h.objs.size
  · subst q; exact .inr ⟨size_none h, Nat.ne_of_gt S.ltL⟩
  · rw [AH.set_ne _ _ q] at e; exact .inl e
end

/-- knowledge may be forgotten -/
noncomputable def Sub (σ σ' : AH) : Prop := ∀ a o, σ a = some o → σ' a = some o
theorem Sub.refl (σ : AH) : Sub σ σ := fun _ _ e => e
theorem Sim.forget {g : Heap} {L : Addr} {m : Loc} {σ σ' : AH} {h : Heap} (S : Sim g L m σ' h) (k : Sub σ σ') : Sim g L m σ h :=
  { base := S.base
    gL := S.gL
    offL := by
      cases q : σ L with
      | none => rfl
      | some o => have := k _ _ q; rw [S.offL] at this; cases this
    off := fun a e => S.off a (by
      cases q : σ a with
      | none => exact absurd q e
      | some o => rw [k _ _ q]; simp)
    ns := S.ns
    fit := fun a o e => S.fit a o (k a o e) }

/-! ## the calculus -/
section
variable (prog : Program) (w : World) (g : Heap)
/-- from every state that bears the knowledge (m, σ), the tree ends without a raise, and what it gives and leaves is as Φ says -/
noncomputable def AW {α β : Type} (R : β → α → Prop) (A : Around) (L : Addr) (t : Sem α) (m : Loc) (σ : AH) (Φ : β → Loc → AH → Prop) : Prop :=
  ∀ (s : Shared) (Q : α → Shared → Prop) (E : Value → Shared → Prop), Sim g L m σ s.heap →
    (∀ b a m' σ' h' tk, Φ b m' σ' → R b a → Sim g L m' σ' h' → Tr L σ σ' s.heap h' → Q a { s with heap := h', toks := tk }) → wpAny (model prog w) A t Q E s
end

section
variable {prog : Program} {w : World} {g : Heap} {α β α' β' : Type} {R : β → α → Prop} {R' : β' → α' → Prop} {A : Around} {L : Addr} {m : Loc} {σ : AH} {Φ : β → Loc → AH → Prop}

theorem AW.mono {t : Sem α} {Φ' : β → Loc → AH → Prop} (h : AW prog w g R A L t m σ Φ) (k : ∀ b m' σ', Φ b m' σ' → Φ' b m' σ') : AW prog w g R A L t m σ Φ' :=
  fun s Q E S c => h s Q E S fun b a m' σ' h' tk p r S' T => c b a m' σ' h' tk (k _ _ _ p) r S' T

theorem AW.bind {t : Sem α} {f : α → Sem α'} {Φ : β' → Loc → AH → Prop} (h : AW prog w g R A L t m σ fun b m₁ σ₁ => ∀ a, R b a → AW prog w g R' A L (f a) m₁ σ₁ Φ) :
    AW prog w g R' A L (t >>= f) m σ Φ := fun s Q E S c =>
  wpAny_bind (h s _ E S fun b a m₁ σ₁ h₁ tk p r S₁ T₁ => p a r { s with heap := h₁, toks := tk } Q E S₁ fun b' a' m₂ σ₂ h₂ tk₂ p₂ r₂ S₂ T₂ => c b' a' m₂ σ₂ h₂ tk₂ p₂ r₂ S₂ (T₁.trans T₂))

theorem AW.pure {a : α} {b : β} (r : R b a) (h : Φ b m σ) : AW prog w g R A L (Pure.pure a) m σ Φ := fun s Q E S c =>
  wpAny_pure (c b a m σ s.heap s.toks h r S (Tr.refl ..))

/-- a tree that does not touch the heap (tokens may be drawn) -/
theorem AW.still {t : Sem α} {b : β} (h : ∀ s Q E, Sim g L m σ s.heap → (∀ a tk, R b a → Q a { s with toks := tk }) → wpAny (model prog w) A t Q E s) (p : Φ b m σ) : AW prog w g R A L t m σ Φ := fun s Q E S c =>
  h s Q E S fun a tk r => c b a m σ s.heap tk p r S (Tr.refl ..)

theorem AW.holding {t : Sem α} {vs : List Value} (h : AW prog w g R A L t m σ Φ) : AW prog w g R A L (holding vs t) m σ Φ := fun s Q E S c => wpAny_holding (h s Q E S c)
end
end Mine

namespace Mine
open PySem PySem.W PyProof.Rows

inductive F where
  | next | brk | cont
  | ret (v : V)
inductive FR : F → Flow → Prop where
  | next : FR .next .next
  | brk : FR .brk .brk
  | cont : FR .cont .cont
  | ret {v x} : VR v x → FR (.ret v) (.ret x)

/-- what stands of the program, at the ground -/
structure Gd (K : Frag) (g : Heap) : Prop where
  inK : K.In g
  gl : ∃ mg, g.Ns mainGlobals mg ∧ ∃ bm ob, mg "__builtins__" = some (.ref bm) ∧ bm ≠ builtinsNs ∧ g.get? bm = some ob ∧ ob.cls = .type "module" ∧ ob.dict = some builtinsNs ∧ ob.data = .plain
  bl : ∃ mb, g.Ns builtinsNs mb ∧ ∀ x : Str, x ≠ "__name__" → mb x = bootBuiltins x
  nolimit : g.NoLimit

section
variable (prog : Program) (w : World) (g : Heap) (A : Around) (env : Env)
noncomputable def AE (e : Expr) (m : Loc) (σ : AH) (Φ : V → Loc → AH → Prop) : Prop := AW prog w g VR A env.locals (eval e env) m σ Φ
noncomputable def AT (e : Expr) (m : Loc) (σ : AH) (Φ : Bool → Loc → AH → Prop) : Prop := AW prog w g Eq A env.locals (isTrue e env (eval e env)) m σ Φ
noncomputable def AX (st : Stmt) (m : Loc) (σ : AH) (Φ : F → Loc → AH → Prop) : Prop := AW prog w g FR A env.locals (exec st env) m σ Φ
noncomputable def AXs (l : List Stmt) (m : Loc) (σ : AH) (Φ : F → Loc → AH → Prop) : Prop := AW prog w g FR A env.locals (execs l env) m σ Φ
noncomputable def A1 {α : Type} (f : Value → Sem α) {β : Type} (R : β → α → Prop) (x : V) (m : Loc) (σ : AH) (Φ : β → Loc → AH → Prop) : Prop := ∀ a, VR x a → AW prog w g R A env.locals (f a) m σ Φ
noncomputable def A2 (f : Value → Value → Sem Value) (x y : V) (m : Loc) (σ : AH) (Φ : V → Loc → AH → Prop) : Prop := ∀ a b, VR x a → VR y b → AW prog w g VR A env.locals (f a b) m σ Φ
end

section
variable {prog : Program} {w : World} {K : Frag} {g : Heap} {A : Around} {env : Env} {m : Loc} {σ : AH}

theorem AXs_nil {Φ : F → Loc → AH → Prop} (h : Φ .next m σ) : AXs prog w g A env [] m σ Φ := fun s Q E S c =>
  wpAny_execs_nil (c _ _ _ _ s.heap s.toks h .next S (Tr.refl ..))

noncomputable abbrev SeqK (prog : Program) (w : World) (g : Heap) (A : Around) (env : Env) (rest : List Stmt) (Φ : F → Loc → AH → Prop) : F → Loc → AH → Prop := fun f m₁ σ₁ => match f with | .next => AXs prog w g A env rest m₁ σ₁ Φ | f => Φ f m₁ σ₁
theorem AXs_cons {st : Stmt} {rest : List Stmt} {Φ : F → Loc → AH → Prop}
    (h : AX prog w g A env st m σ (SeqK prog w g A env rest Φ)) : AXs prog w g A env (st :: rest) m σ Φ := fun s Q E S c => by
  refine wpAny_execs_cons (h s _ E S fun f fl m₁ σ₁ h₁ tk p r S₁ T₁ => ?_)
  cases r with
  | next => exact p { s with heap := h₁, toks := tk } Q E S₁ fun b a m₂ σ₂ h₂ tk₂ p₂ r₂ S₂ T₂ => c b a m₂ σ₂ h₂ tk₂ p₂ r₂ S₂ (T₁.trans T₂)
  | brk => exact c _ _ _ _ h₁ tk p .brk S₁ T₁
  | cont => exact c _ _ _ _ h₁ tk p .cont S₁ T₁
  | ret r => exact c _ _ _ _ h₁ tk p (.ret r) S₁ T₁

noncomputable abbrev KB2 (prog : Program) (w : World) (g : Heap) (A : Around) (env : Env) (f : Value → Value → Sem Value) (x : V) (Φ : V → Loc → AH → Prop) : V → Loc → AH → Prop := fun y m₂ σ₂ => A2 prog w g A env f x y m₂ σ₂ Φ
noncomputable abbrev KB1 (prog : Program) (w : World) (g : Heap) (A : Around) (env : Env) (f : Value → Value → Sem Value) (r : Expr) (Φ : V → Loc → AH → Prop) : V → Loc → AH → Prop := fun x m₁ σ₁ => AE prog w g A env r m₁ σ₁ (KB2 prog w g A env f x Φ)
noncomputable abbrev KTr (prog : Program) (w : World) (g : Heap) (A : Around) (env : Env) (Φ : Bool → Loc → AH → Prop) : V → Loc → AH → Prop := fun v m₃ σ₃ => A1 prog w g A env truthy Eq v m₃ σ₃ Φ
noncomputable abbrev KIf (prog : Program) (w : World) (g : Heap) (A : Around) (env : Env) (body orelse : List Stmt) (Φ : F → Loc → AH → Prop) : Bool → Loc → AH → Prop := fun b m₁ σ₁ => (b = true → AXs prog w g A env body m₁ σ₁ Φ) ∧ (b = false → AXs prog w g A env orelse m₁ σ₁ Φ)
noncomputable abbrev KAs (x : Str) (Φ : F → Loc → AH → Prop) : V → Loc → AH → Prop := fun v m₁ σ₁ => Φ .next (m₁.set x v) σ₁
noncomputable abbrev KRt (Φ : F → Loc → AH → Prop) : V → Loc → AH → Prop := fun v m₁ σ₁ => Φ (.ret v) m₁ σ₁
theorem X_If {test : Expr} {body orelse : List Stmt} {pos : Pos} {Φ : F → Loc → AH → Prop}
    (h : AT prog w g A env test m σ (KIf prog w g A env body orelse Φ)) : AX prog w g A env (.If test body orelse pos) m σ Φ := fun s Q E S c => by
  refine wpAny_If (h s _ E S fun b a m₁ σ₁ h₁ tk p r S₁ T₁ => ?_)
  subst r
  cases b with
  | true => exact p.1 rfl { s with heap := h₁, toks := tk } Q E S₁ fun b a m₂ σ₂ h₂ tk₂ p₂ r₂ S₂ T₂ => c b a m₂ σ₂ h₂ tk₂ p₂ r₂ S₂ (T₁.trans T₂)
  | false => exact p.2 rfl { s with heap := h₁, toks := tk } Q E S₁ fun b a m₂ σ₂ h₂ tk₂ p₂ r₂ S₂ T₂ => c b a m₂ σ₂ h₂ tk₂ p₂ r₂ S₂ (T₁.trans T₂)

theorem T_Compare1 {l : Expr} {op : CmpOp} {r : Expr} {pos : Pos} {Φ : Bool → Loc → AH → Prop}
    (h : AE prog w g A env l m σ (KB1 prog w g A env (compareOp op) r (KTr prog w g A env Φ)))
    (hm : behindInMarks op r = false := by kernel_rfl!) : AT prog w g A env (.Compare l [op] [r] pos) m σ Φ := fun s Q E S c => by
  refine wpAny_isTrue_Compare1 (h s _ E S fun x a m₁ σ₁ h₁ tk p r S₁ T₁ => ?_) hm
  refine p { s with heap := h₁, toks := tk } _ E S₁ fun y b m₂ σ₂ h₂ tk₂ p₂ r₂ S₂ T₂ => ?_
  refine p₂ a b r r₂ { s with heap := h₂, toks := tk₂ } _ E S₂ fun v c' m₃ σ₃ h₃ tk₃ p₃ r₃ S₃ T₃ => ?_
  exact p₃ c' r₃ { s with heap := h₃, toks := tk₃ } _ E S₃ fun b a m₄ σ₄ h₄ tk₄ p₄ r₄ S₄ T₄ => c b a m₄ σ₄ h₄ tk₄ p₄ r₄ S₄ (T₁.trans (T₂.trans (T₃.trans T₄)))

theorem E_Compare1 {l : Expr} {op : CmpOp} {r : Expr} {pos : Pos} {Φ : V → Loc → AH → Prop}
    (h : AE prog w g A env l m σ (KB1 prog w g A env (compareOp op) r Φ))
    (hm : behindInMarks op r = false := by kernel_rfl!) : AE prog w g A env (.Compare l [op] [r] pos) m σ Φ := fun s Q E S c => by
  refine wpAny_Compare1 (h s _ E S fun x a m₁ σ₁ h₁ tk p r S₁ T₁ => ?_) hm
  refine p { s with heap := h₁, toks := tk } _ E S₁ fun y b m₂ σ₂ h₂ tk₂ p₂ r₂ S₂ T₂ => ?_
  exact p₂ a b r r₂ { s with heap := h₂, toks := tk₂ } _ E S₂ fun v c' m₃ σ₃ h₃ tk₃ p₃ r₃ S₃ T₃ => c v c' m₃ σ₃ h₃ tk₃ p₃ r₃ S₃ (T₁.trans (T₂.trans T₃))

theorem E_BinOp {l : Expr} {op : Operator} {r : Expr} {pos : Pos} {Φ : V → Loc → AH → Prop}
    (h : AE prog w g A env l m σ (KB1 prog w g A env (binaryOp op) r Φ)) : AE prog w g A env (.BinOp l op r pos) m σ Φ := fun s Q E S c => by
  refine wpAny_BinOp (h s _ E S fun x a m₁ σ₁ h₁ tk p r S₁ T₁ => ?_)
  refine p { s with heap := h₁, toks := tk } _ E S₁ fun y b m₂ σ₂ h₂ tk₂ p₂ r₂ S₂ T₂ => ?_
  exact p₂ a b r r₂ { s with heap := h₂, toks := tk₂ } _ E S₂ fun v c' m₃ σ₃ h₃ tk₃ p₃ r₃ S₃ T₃ => c v c' m₃ σ₃ h₃ tk₃ p₃ r₃ S₃ (T₁.trans (T₂.trans T₃))

/-! names -/
theorem E_Local {x : Str} {pos : Pos} {v : V} {Φ : V → Loc → AH → Prop} (hv : m.lookup x = some v) (h : Φ v m σ)
    (hk : env.scope.kind = .function := by kernel_rfl!) (hl : env.kindOf x = some .local := by kernel_rfl!) (hd : (x == ("__debug__" : Str)) = false := by kernel_rfl!) : AE prog w g A env (.Name x pos) m σ Φ := fun s Q E S c => by
  obtain ⟨M, hn, hM⟩ := S.ns
  obtain ⟨v', e, r⟩ := hM x v hv
  exact wpAny_Name (wpAny_loadName_local hk hl hn e (c _ _ _ _ s.heap s.toks h r S (Tr.refl ..))) hd

theorem Sim.cell {L : Addr} {h : Heap} (S : Sim g L m σ h) {a : Addr} {v : Option V} (e : σ a = some (.cell v)) : ∃ x, h.IsCell a x ∧ VRo v x := by
  obtain ⟨ob, ho, x, hx, r⟩ := S.fit a _ e
  exact ⟨x, ⟨ob, ho, hx⟩, r⟩

theorem E_Cell {x : Str} {pos : Pos} {a : Addr} {v : V} {Φ : V → Loc → AH → Prop} (hc : env.cells.lookup x = some a) (hv : σ a = some (.cell (some v))) (h : Φ v m σ)
    (hk : env.scope.kind = .function := by kernel_rfl!) (hl : env.kindOf x = some .cell := by kernel_rfl!) (hd : (x == ("__debug__" : Str)) = false := by kernel_rfl!) : AE prog w g A env (.Name x pos) m σ Φ := fun s Q E S c => by
  obtain ⟨x', hx, r⟩ := S.cell hv
  cases r with
  | some r => exact wpAny_Name (wpAny_loadName_cell hk hl hc hx (c _ _ _ _ s.heap s.toks h r S (Tr.refl ..))) hd

theorem E_Free {x : Str} {pos : Pos} {a : Addr} {v : V} {Φ : V → Loc → AH → Prop} (hc : env.cells.lookup x = some a) (hv : σ a = some (.cell (some v))) (h : Φ v m σ)
    (hk : env.scope.kind = .function := by kernel_rfl!) (hl : env.kindOf x = some .free := by kernel_rfl!) (hd : (x == ("__debug__" : Str)) = false := by kernel_rfl!) (hn : (x == ("__classdict__" : Str)) = false := by kernel_rfl!) : AE prog w g A env (.Name x pos) m σ Φ := fun s Q E S c => by
  obtain ⟨x', hx, r⟩ := S.cell hv
  cases r with
  | some r => exact wpAny_Name (wpAny_loadName_free hk hl hc hx (c _ _ _ _ s.heap s.toks h r S (Tr.refl ..)) hn) hd

theorem E_Global (G : Gd K g) {x : Str} {pos : Pos} {v : V} {v' : Value} {Φ : V → Loc → AH → Prop} (e : nsIn K mainGlobals x = some (some v')) (r : VR v v') (h : Φ v m σ)
    (hg : env.globals = mainGlobals := by kernel_rfl!) (hk : env.scope.kind = .function := by kernel_rfl!) (hx : env.kindOf x = some .globalImplicit := by kernel_rfl!) (hd : (x == ("__debug__" : Str)) = false := by kernel_rfl!) : AE prog w g A env (.Name x pos) m σ Φ := fun s Q E S c => by
  obtain ⟨mg, hmg, _⟩ := G.gl
  exact Calls.Name_function_global hk hx (Calls.loadGlobal_global (env := env) (by rw [hg]; exact hmg.keeps S.base) (mg_of G.inK hmg e) (c _ _ _ _ s.heap s.toks h r S (Tr.refl ..))) hd

theorem E_Builtin (G : Gd K g) {x : Str} {pos : Pos} {v : V} {v' : Value} {Φ : V → Loc → AH → Prop} (e : nsIn K mainGlobals x = some none) (hv : bootBuiltins x = some v') (r : VR v v') (h : Φ v m σ) (hn : x ≠ "__name__" := by decide)
    (hg : env.globals = mainGlobals := by kernel_rfl!) (hb : env.builtins = builtinsNs := by kernel_rfl!) (hk : env.scope.kind = .function := by kernel_rfl!) (hx : env.kindOf x = some .globalImplicit := by kernel_rfl!) (hd : (x == ("__debug__" : Str)) = false := by kernel_rfl!) :
    AE prog w g A env (.Name x pos) m σ Φ := fun s Q E S c => by
  obtain ⟨mg, hmg, _⟩ := G.gl
  obtain ⟨mb, hmb, hbo⟩ := G.bl
  exact Calls.Name_function_global hk hx (Calls.loadGlobal_builtin (env := env) (by rw [hg]; exact hmg.keeps S.base) (mg_none_of G.inK hmg e) (by rw [hb]; exact hmb.keeps S.base) ((hbo x hn).trans hv)
    (c _ _ _ _ s.heap s.toks h r S (Tr.refl ..))) hd

/-! constants -/
theorem E_Int {i : Int} {k : Nat} {pos : Pos} {Φ : V → Loc → AH → Prop} (h : Φ (.int i) m σ) : AE prog w g A env (.Constant (.int i) k pos) m σ Φ := fun s Q E S c =>
  wpAny_Constant_int (c _ _ _ _ s.heap _ h (.int ..) S (Tr.refl ..))
theorem E_Bool {b : Bool} {k : Nat} {pos : Pos} {Φ : V → Loc → AH → Prop} (h : Φ (.bool b) m σ) : AE prog w g A env (.Constant (.bool b) k pos) m σ Φ := fun s Q E S c =>
  wpAny_Constant_bool (c _ _ _ _ s.heap s.toks h (.bool ..) S (Tr.refl ..))
theorem E_None {k : Nat} {pos : Pos} {Φ : V → Loc → AH → Prop} (h : Φ .none m σ) : AE prog w g A env (.Constant .none k pos) m σ Φ := fun s Q E S c =>
  wpAny_Constant_none (c _ _ _ _ s.heap s.toks h .none S (Tr.refl ..))

/-! assignments -/
theorem A_storeLocal {x : Str} {v : V} {v' : Value} {Φ : Unit → Loc → AH → Prop} (r : VR v v') (h : Φ () (m.set x v) σ) (hk : env.scope.kind = .function) (hl : env.kindOf x = some .local) :
    AW prog w g (fun _ _ => True) A env.locals (storeName env x v') m σ Φ := fun s Q E S c => by
  obtain ⟨M, hn, hM⟩ := S.ns
  refine wpAny_storeName_local hl hn (fun h' hn' hs => ?_) (by rw [hk]; rfl)
  exact c () () _ _ h' _ h trivial (S.storeL hn hM hn' hs r) (Tr.storeL hs)

theorem A_storeCell {x : Str} {a : Addr} {v : V} {v' : Value} {ov : Option V} {Φ : Unit → Loc → AH → Prop} (r : VR v v') (hc : env.cells.lookup x = some a) (ho : σ a = some (.cell ov)) (h : Φ () m (σ.set a (.cell (some v))))
    (hk : env.scope.kind = .function) (hl : env.kindOf x = some .cell) :
    AW prog w g (fun _ _ => True) A env.locals (storeName env x v') m σ Φ := fun s Q E S c => by
  obtain ⟨x', hx, _⟩ := S.cell ho
  refine wpAny_storeName_cell hk hl hc hx (fun h' hc' hs => ?_)
  obtain ⟨ob, hb, hd⟩ := hc'
  exact c () () _ _ h' s.toks h trivial (S.upd ho hs hb ⟨_, hd, .some r⟩) (Tr.upd ho hs)

theorem X_AssignLocal {x : Str} {pos' pos : Pos} {value : Expr} {Φ : F → Loc → AH → Prop} (h : AE prog w g A env value m σ (KAs x Φ))
    (hk : env.scope.kind = .function := by kernel_rfl!) (hl : env.kindOf x = some .local := by kernel_rfl!) (hs : swapsWith value (some (.Name x pos')) pos.line env = pure false := by kernel_rfl!) : AX prog w g A env (.Assign [.Name x pos'] value pos) m σ Φ := fun s Q E S c => by
  refine wpAny_Assign_Name (h s _ E S fun v a m₁ σ₁ h₁ tk p r S₁ T₁ => ?_) hs
  refine A_storeLocal (Φ := fun _ m₂ σ₂ => Φ .next m₂ σ₂) r p hk hl { s with heap := h₁, toks := tk } _ E S₁ fun _ _ m₂ σ₂ h₂ tk₂ p₂ _ S₂ T₂ => c _ _ _ _ h₂ tk₂ p₂ .next S₂ (T₁.trans T₂)

theorem X_AssignCell {x : Str} {pos' pos : Pos} {value : Expr} {a : Addr} {Φ : F → Loc → AH → Prop} (hc : env.cells.lookup x = some a)
    (h : AE prog w g A env value m σ fun v m₁ σ₁ => (∃ ov, σ₁ a = some (.cell ov)) ∧ Φ .next m₁ (σ₁.set a (.cell (some v))))
    (hk : env.scope.kind = .function := by kernel_rfl!) (hl : env.kindOf x = some .cell := by kernel_rfl!) (hs : swapsWith value (some (.Name x pos')) pos.line env = pure false := by kernel_rfl!) : AX prog w g A env (.Assign [.Name x pos'] value pos) m σ Φ := fun s Q E S c => by
  refine wpAny_Assign_Name (h s _ E S fun v a m₁ σ₁ h₁ tk p r S₁ T₁ => ?_) hs
  obtain ⟨⟨ov, ho⟩, p⟩ := p
  refine A_storeCell (Φ := fun _ m₂ σ₂ => Φ .next m₂ σ₂) r hc ho p hk hl { s with heap := h₁, toks := tk } _ E S₁ fun _ _ m₂ σ₂ h₂ tk₂ p₂ _ S₂ T₂ => c _ _ _ _ h₂ tk₂ p₂ .next S₂ (T₁.trans T₂)

theorem X_Return {e : Expr} {pos : Pos} {Φ : F → Loc → AH → Prop} (h : AE prog w g A env e m σ (KRt Φ)) : AX prog w g A env (.Return (some e) pos) m σ Φ := fun s Q E S c =>
  wpAny_Return_some (h s _ E S fun v a m₁ σ₁ h₁ tk p r S₁ T₁ => c _ _ _ _ h₁ tk p (.ret r) S₁ T₁)
theorem X_Pass {pos : Pos} {Φ : F → Loc → AH → Prop} (h : Φ .next m σ) : AX prog w g A env (.Pass pos) m σ Φ := fun s Q E S c =>
  wpAny_Pass (c _ _ _ _ s.heap s.toks h .next S (Tr.refl ..))
theorem X_Break {pos : Pos} {Φ : F → Loc → AH → Prop} (h : Φ .brk m σ) : AX prog w g A env (.Break pos) m σ Φ := fun s Q E S c =>
  wpAny_Break (c _ _ _ _ s.heap s.toks h .brk S (Tr.refl ..))
theorem X_Continue {pos : Pos} {Φ : F → Loc → AH → Prop} (h : Φ .cont m σ) : AX prog w g A env (.Continue pos) m σ Φ := fun s Q E S c =>
  wpAny_Continue (c _ _ _ _ s.heap s.toks h .cont S (Tr.refl ..))

/-- locals may be forgotten -/
noncomputable def LSub (m m' : Loc) : Prop := ∀ x v, m.lookup x = some v → m'.lookup x = some v
theorem LSub.refl (m : Loc) : LSub m m := fun _ _ e => e
theorem LSub.pre (m r : Loc) : LSub m (m ++ r) := fun x v e => by rw [List.lookup_append, e]; rfl
theorem LSub.nil (m : Loc) : LSub [] m := fun x v e => by cases e
theorem Sim.forgetL {L : Addr} {m m' : Loc} {σ : AH} {h : Heap} (S : Sim g L m' σ h) (k : LSub m m') : Sim g L m σ h :=
  ⟨S.base, S.gL, S.offL, S.off, let ⟨M, a, b⟩ := S.ns; ⟨M, a, fun x v e => b x v (k x v e)⟩, S.fit⟩
theorem Tr.forget {L : Addr} {σ σ' σ'' : AH} {h h' : Heap} (T : Tr L σ σ' h h') (k : Sub σ'' σ') : Tr L σ σ'' h h' :=
  ⟨T.keep, fun a e => T.fresh a (fun q => by
    cases z : σ'' a with
    | none => exact e z
    | some o => rw [k a o z] at q; cases q)⟩
noncomputable def Fgt (P : Loc → AH → Prop) (m : Loc) (σ : AH) : Prop := ∃ m' σ', LSub m' m ∧ Sub σ' σ ∧ P m' σ'
theorem Fgt.now {P : Loc → AH → Prop} {m : Loc} {σ : AH} (h : P m σ) : Fgt P m σ := ⟨m, σ, LSub.refl _, Sub.refl _, h⟩
theorem Fgt.now' {P : Loc → AH → Prop} {m m' : Loc} {σ : AH} (k : LSub m' m) (h : P m' σ) : Fgt P m σ := ⟨m', σ, k, Sub.refl _, h⟩
theorem AW.fgt {α β : Type} {R : β → α → Prop} {L : Addr} {t : Sem α} {Φ : β → Loc → AH → Prop} (h : AW prog w g R A L t m σ fun b => Fgt (Φ b)) : AW prog w g R A L t m σ Φ := fun s Q E S c =>
  h s Q E S fun b a m' σ' h' tk p r S' T => let ⟨m'', σ'', k1, k2, p⟩ := p; c b a m'' σ'' h' tk p r ((S'.forgetL k1).forget k2) (T.forget k2)

noncomputable abbrev LoopK (J : Loc → AH → Prop) (Φ : F → Loc → AH → Prop) : F → Loc → AH → Prop := fun f m₂ σ₂ => match f with
  | .next => Fgt J m₂ σ₂
  | .cont => Fgt J m₂ σ₂
  | .brk => Φ .next m₂ σ₂
  | .ret v => Φ (.ret v) m₂ σ₂

/-! while -/
theorem X_While {test : Expr} {body orelse : List Stmt} {pos : Pos} {Φ : F → Loc → AH → Prop} (I : Nat → Loc → AH → Prop) (n : Nat) (h : I n m σ)
    (turn : ∀ n m σ, I n m σ → AT prog w g A env test m σ fun b m₁ σ₁ =>
      (b = true → AXs prog w g A env body m₁ σ₁ (LoopK (fun m₃ σ₃ => ∃ k, k < n ∧ I k m₃ σ₃) Φ)) ∧ (b = false → AXs prog w g A env orelse m₁ σ₁ Φ)) : AX prog w g A env (.While test body orelse pos) m σ Φ := fun s Q E S c => by
  refine wpAny_While ?_
  refine codeAny_whileLoop (fun n s' => ∃ m₁ σ₁ h' tk, s' = { s with heap := h', toks := tk } ∧ I n m₁ σ₁ ∧ Sim g env.locals m₁ σ₁ h' ∧ Tr env.locals σ σ₁ s.heap h') ?_ n ⟨m, σ, s.heap, s.toks, rfl, h, S, Tr.refl ..⟩
  rintro n _ ⟨m₁, σ₁, h₁, tk, rfl, hI, S₁, T₁⟩
  refine turn n m₁ σ₁ hI _ _ _ S₁ fun b a m₂ σ₂ h₂ tk₂ p r S₂ T₂ => ?_
  subst r
  cases b with
  | true =>
    refine p.1 rfl { s with heap := h₂, toks := tk₂ } _ _ S₂ fun f fl m₃ σ₃ h₃ tk₃ p₃ r₃ S₃ T₃ => ?_
    have T := T₁.trans (T₂.trans T₃)
    cases r₃ with
    | next => obtain ⟨m₄, σ₄, k1, k2, k, hk, q⟩ := p₃; exact ⟨k, hk, m₄, σ₄, h₃, tk₃, rfl, q, (S₃.forgetL k1).forget k2, T.forget k2⟩
    | cont => obtain ⟨m₄, σ₄, k1, k2, k, hk, q⟩ := p₃; exact ⟨k, hk, m₄, σ₄, h₃, tk₃, rfl, q, (S₃.forgetL k1).forget k2, T.forget k2⟩
    | brk => exact c _ _ _ _ h₃ tk₃ p₃ .next S₃ T
    | ret r => exact c _ _ _ _ h₃ tk₃ p₃ (.ret r) S₃ T
  | false =>
    exact p.2 rfl { s with heap := h₂, toks := tk₂ } _ _ S₂ fun f fl m₃ σ₃ h₃ tk₃ p₃ r₃ S₃ T₃ => c _ _ _ _ h₃ tk₃ p₃ r₃ S₃ (T₁.trans (T₂.trans T₃))

/-! leaves: ints -/
theorem add_I {x y : Int} {Φ : V → Loc → AH → Prop} (h : Φ (.int (x + y)) m σ) : A2 prog w g A env (binaryOp .Add) (.int x) (.int y) m σ Φ := fun a b r r' s Q E S c => by
  cases r; cases r'; exact PySem.P.add_int (c _ _ _ _ s.heap _ h (.int ..) S (Tr.refl ..))
theorem sub_I {x y : Int} {Φ : V → Loc → AH → Prop} (h : Φ (.int (x - y)) m σ) : A2 prog w g A env (binaryOp .Sub) (.int x) (.int y) m σ Φ := fun a b r r' s Q E S c => by
  cases r; cases r'; exact PySem.P.sub_int (c _ _ _ _ s.heap _ h (.int ..) S (Tr.refl ..))
theorem lt_I {x y : Int} {Φ : V → Loc → AH → Prop} (h : Φ (.bool (decide (x < y))) m σ) : A2 prog w g A env (compareOp .Lt) (.int x) (.int y) m σ Φ := fun a b r r' s Q E S c => by
  cases r; cases r'; exact PySem.P.lt_int (c _ _ _ _ s.heap s.toks h (.bool ..) S (Tr.refl ..))
theorem le_I {x y : Int} {Φ : V → Loc → AH → Prop} (h : Φ (.bool (decide (x ≤ y))) m σ) : A2 prog w g A env (compareOp .LtE) (.int x) (.int y) m σ Φ := fun a b r r' s Q E S c => by
  cases r; cases r'; exact PySem.P.le_int (c _ _ _ _ s.heap s.toks h (.bool ..) S (Tr.refl ..))
theorem ge_I {x y : Int} {Φ : V → Loc → AH → Prop} (h : Φ (.bool (decide (x ≥ y))) m σ) : A2 prog w g A env (compareOp .GtE) (.int x) (.int y) m σ Φ := fun a b r r' s Q E S c => by
  cases r; cases r'; exact PySem.P.ge_int (c _ _ _ _ s.heap s.toks h (.bool ..) S (Tr.refl ..))
theorem eq_I {x y : Int} {Φ : V → Loc → AH → Prop} (h : Φ (.bool (x == y)) m σ) : A2 prog w g A env (compareOp .Eq) (.int x) (.int y) m σ Φ := fun a b r r' s Q E S c => by
  cases r; cases r'; exact PySem.P.eq_int (c _ _ _ _ s.heap s.toks h (.bool ..) S (Tr.refl ..))
theorem ne_I {x y : Int} {Φ : V → Loc → AH → Prop} (h : Φ (.bool (x != y)) m σ) : A2 prog w g A env (compareOp .NotEq) (.int x) (.int y) m σ Φ := fun a b r r' s Q E S c => by
  cases r; cases r'; exact PySem.P.ne_int (c _ _ _ _ s.heap s.toks h (.bool ..) S (Tr.refl ..))
theorem tr_B {b : Bool} {Φ : Bool → Loc → AH → Prop} (h : Φ b m σ) : A1 prog w g A env truthy Eq (.bool b) m σ Φ := fun a r s Q E S c => by
  cases r; exact wpAny_truthy_bool (c _ _ _ _ s.heap s.toks h rfl S (Tr.refl ..))
end
end Mine

namespace Mine
open PySem PySem.W PyProof.Rows

inductive KRs : List (Str × V) → List (Str × Value) → Prop where
  | nil : KRs [] []
  | cons {k v x vs xs} : VR v x → KRs vs xs → KRs ((k, v) :: vs) ((k, x) :: xs)

theorem KRs.lookup {l : Loc} {l' : List (Str × Value)} (r : KRs l l') : ∀ x v, l.lookup x = some v → ∃ v', l'.lookup x = some v' ∧ VR v v' := by
  induction r with
  | nil => intro x v e; cases e
  | @cons k v x vs xs r1 _ ih =>
    intro y u e
    rw [List.lookup_cons] at e ⊢
    cases q : y == k with
    | true => rw [q] at e; cases e; exact ⟨_, rfl, r1⟩
    | false => rw [q] at e; exact ih y u e
theorem KRs.append {a b : Loc} {a' b' : List (Str × Value)} (r : KRs a a') (r' : KRs b b') : KRs (a ++ b) (a' ++ b') := by
  induction r with
  | nil => exact r'
  | cons h _ ih => exact .cons h ih
theorem KRs.reverse {l : Loc} {l' : List (Str × Value)} (r : KRs l l') : KRs l.reverse l'.reverse := by
  induction r with
  | nil => exact .nil
  | cons h _ ih => rw [List.reverse_cons, List.reverse_cons]; exact ih.append (.cons h .nil)
theorem KRs.length {l : Loc} {l' : List (Str × Value)} (r : KRs l l') : l'.length = l.length := by
  induction r with
  | nil => rfl
  | cons _ _ ih => simp [ih]
theorem KRs.names {l : Loc} {l' : List (Str × Value)} (r : KRs l l') : l'.map (·.1) = l.map (·.1) := by
  induction r with
  | nil => rfl
  | cons _ _ ih => simp [ih]
theorem VRs.length {l : List V} {l' : List Value} (r : VRs l l') : l'.length = l.length := by
  induction r with
  | nil => rfl
  | cons _ _ ih => simp [ih]
theorem VRs.append {a b : List V} {a' b' : List Value} (r : VRs a a') (r' : VRs b b') : VRs (a ++ b) (a' ++ b') := by
  induction r with
  | nil => exact r'
  | cons h _ ih => exact .cons h ih
theorem VRs.get {l : List V} {l' : List Value} (r : VRs l l') : ∀ {i : Nat} {v : V}, l[i]? = some v → ∃ x, l'[i]? = some x ∧ VR v x := by
  induction r with
  | nil => intro i v e; simp at e
  | cons h _ ih =>
    intro i v e
    cases i with
    | zero => simp at e; subst e; exact ⟨_, rfl, h⟩
    | succ i => simp at e; simpa using ih e

theorem VR.i {i : Int} {x : Value} (r : VR (.int i) x) : ∃ t, x = .int i t := by cases r; exact ⟨_, rfl⟩
theorem VR.r {a : Addr} {x : Value} (r : VR (.ref a) x) : x = .ref a := by cases r; rfl
theorem VR.n {x : Value} (r : VR .none x) : x = .none := by cases r; rfl
theorem VR.b {b : Bool} {x : Value} (r : VR (.bool b) x) : x = .bool b := by cases r; rfl
theorem VR.f {s : String} {x : Value} (r : VR (.blt s) x) : x = .builtin s := by cases r; rfl
theorem VR.t {s : String} {x : Value} (r : VR (.typ s) x) : x = .type s := by cases r; rfl
theorem VRs.c {v : V} {vs : List V} {l : List Value} (r : VRs (v :: vs) l) : ∃ x xs, l = x :: xs ∧ VR v x ∧ VRs vs xs := by cases r; exact ⟨_, _, rfl, by assumption, by assumption⟩
theorem VRs.n {l : List Value} (r : VRs [] l) : l = [] := by cases r; rfl
theorem KRs.n {l : List (Str × Value)} (r : KRs [] l) : l = [] := by cases r; rfl
theorem KRs.c {k : Str} {v : V} {vs : Loc} {l : List (Str × Value)} (r : KRs ((k, v) :: vs) l) : ∃ x xs, l = (k, x) :: xs ∧ VR v x ∧ KRs vs xs := by cases r; exact ⟨_, _, rfl, by assumption, by assumption⟩

structure AOk (A : Around) (k : Nat) : Prop where
  handled : A.handled = none
  depth : A.depth + 3 * k < recursionLimit
  units : A.units + 20 * k + 20 < cLine

section
variable (prog : Program) (w : World) (g : Heap) (A : Around) (L : Addr)
/-- a call of f, by place and by keyword -/
noncomputable def ACall (f : V) (pos : List V) (kw : List (Str × V)) (m : Loc) (σ : AH) (Φ : V → Loc → AH → Prop) : Prop :=
  ∀ f' pos' kw', VR f f' → VRs pos pos' → KRs kw kw' →
    AW prog w g (fun _ _ => True) A L (keeperOf f') m σ (fun (_ : Unit) m' σ' => m' = m ∧ σ' = σ) ∧ AW prog w g VR A L (call f' pos' kw') m σ Φ
end

section
variable {M : Model} {A : Around} {E : Value → Shared → Prop} {s : Shared}
theorem callWith_wp {pos : Pos} {f : Value} {first : List Value} {args : List (Bool × Sem Value)} {kws : List (Option Str × Sem Value)} {Q : Value → Shared → Prop}
    (h : wpAny M A (evalArgs f true args kws) (fun a s₁ => wpAny M A (keeperOf f) (fun _ s₂ => wpAny M A (call f (first ++ a.pos) a.kw) Q E s₂) E s₁) E s) :
    wpAny M A (callWith pos f first args kws) Q E s := by
  unfold callWith
  refine wpAny_bind (wpAny_holding (wpAny_mono h (fun a s₁ h₁ => wpAny_bind (wpAny_standAt ?_)) fun _ _ x => x))
  have tail : ∀ {s₂ : Shared} {t : Sem Value}, wpAny M A t Q E s₂ → wpAny M A (t >>= fun r => holding [r] point >>= fun _ => pure r) Q E s₂ :=
    fun ht => wpAny_bind (wpAny_mono ht (fun r s₂ hr => wpAny_bind (wpAny_holding (wpAny_point (wpAny_pure hr)))) fun _ _ x => x)
  refine wpAny_bind (m := keeperOf f) (wpAny_mono h₁ (fun k s₂ h₂ => ?_) fun _ _ x => x)
  split <;> (try split) <;> first
      | exact tail h₂
      | exact tail (by unfold callMarked; exact Calls.wpAny_keep h₂)
      | exact tail (wpAny_operating h₂)
end

section
variable (prog : Program) (w : World) (g : Heap) (A : Around) (env : Env)
noncomputable def AArgs (args : List Expr) (m : Loc) (σ : AH) (Φ : List V → Loc → AH → Prop) : Prop := ∀ pos, AW prog w g VRs A env.locals (spliced (backTo pos (starEach args env))) m σ Φ
noncomputable def AKws (kws : List Keyword) (m : Loc) (σ : AH) (Φ : List (Str × V) → Loc → AH → Prop) : Prop :=
  ∀ pos, AW prog w g (fun (ks : List (Str × V)) xs => KRs ks (((backToKw pos (keywordEach kws env)).filterMap (·.1)).zip xs)) A env.locals (evalAll ((backToKw pos (keywordEach kws env)).map (·.2))) m σ Φ
noncomputable def ACol (v : V) (m : Loc) (σ : AH) (Φ : List V → Loc → AH → Prop) : Prop := ∀ a, VR v a → AW prog w g VRs A env.locals (do
    if ← notIterableAtAll a then (do rule "star.not-iterable"; raiseError "TypeError" s!"Value after * must be an iterable, not {← typeNameOf a}")
    collect a) m σ Φ
noncomputable def AEArgs (args : List Expr) (kws : List Keyword) (m : Loc) (σ : AH) (Φ : List V → List (Str × V) → Loc → AH → Prop) : Prop :=
  ∀ f' pos, AW prog w g (fun (p : List V × List (Str × V)) (a : Args) => VRs p.1 a.pos ∧ KRs p.2 a.kw) A env.locals (evalArgs f' true (backTo pos (starEach args env)) (backToKw pos (keywordEach kws env))) m σ (fun p => Φ p.1 p.2)
end

section
variable {prog : Program} {w : World} {K : Frag} {g : Heap} {A : Around} {env : Env} {m : Loc} {σ : AH}

noncomputable abbrev KC' (v : V) (Φ : List V → Loc → AH → Prop) : List V → Loc → AH → Prop := fun vs m₂ σ₂ => Φ (v :: vs) m₂ σ₂
noncomputable abbrev KA' (prog : Program) (w : World) (g : Heap) (A : Around) (env : Env) (rest : List Expr) (Φ : List V → Loc → AH → Prop) : V → Loc → AH → Prop := fun v m₁ σ₁ => AArgs prog w g A env rest m₁ σ₁ (KC' v Φ)
noncomputable abbrev KA3 (v : V) (vs : List V) (Φ : List V → List (Str × V) → Loc → AH → Prop) : List (Str × V) → Loc → AH → Prop := fun ks m₃ σ₃ => Φ (v :: vs) ks m₃ σ₃
noncomputable abbrev KA2 (prog : Program) (w : World) (g : Heap) (A : Around) (env : Env) (kws : List Keyword) (v : V) (Φ : List V → List (Str × V) → Loc → AH → Prop) : List V → Loc → AH → Prop := fun vs m₂ σ₂ => AKws prog w g A env kws m₂ σ₂ (KA3 v vs Φ)
noncomputable abbrev KA1 (prog : Program) (w : World) (g : Heap) (A : Around) (env : Env) (rest : List Expr) (kws : List Keyword) (Φ : List V → List (Str × V) → Loc → AH → Prop) : V → Loc → AH → Prop := fun v m₁ σ₁ => AArgs prog w g A env rest m₁ σ₁ (KA2 prog w g A env kws v Φ)
noncomputable abbrev KF2 (prog : Program) (w : World) (g : Heap) (A : Around) (env : Env) (f : V) (Φ : V → Loc → AH → Prop) : List V → List (Str × V) → Loc → AH → Prop := fun vs ks m₂ σ₂ => ACall prog w g A env.locals f vs ks m₂ σ₂ Φ
noncomputable abbrev KF1 (prog : Program) (w : World) (g : Heap) (A : Around) (env : Env) (args : List Expr) (kws : List Keyword) (Φ : V → Loc → AH → Prop) : V → Loc → AH → Prop := fun f m₁ σ₁ => AEArgs prog w g A env args kws m₁ σ₁ (KF2 prog w g A env f Φ)
theorem Args_nil' {Φ : List V → Loc → AH → Prop} (h : Φ [] m σ) : AArgs prog w g A env [] m σ Φ := fun pos s Q E S c =>
  Calls.spliced_nil (c _ _ _ _ s.heap s.toks h .nil S (Tr.refl ..))
theorem Args_cons' {e : Expr} {rest : List Expr} {Φ : List V → Loc → AH → Prop} (h : AE prog w g A env e m σ (KA' prog w g A env rest Φ))
    (hs : starEach (e :: rest) env = (false, eval e env) :: starEach rest env := by kernel_rfl!) : AArgs prog w g A env (e :: rest) m σ Φ := fun pos s Q E S c => by
  rw [hs]
  refine Calls.spliced_cons (h s _ E S fun v a m₁ σ₁ h₁ tk p r S₁ T₁ => ?_)
  exact p pos { s with heap := h₁, toks := tk } _ E S₁ fun vs xs m₂ σ₂ h₂ tk₂ p₂ r₂ S₂ T₂ => c _ _ _ _ h₂ tk₂ p₂ (.cons r r₂) S₂ (T₁.trans T₂)

theorem Kws_nil {Φ : List (Str × V) → Loc → AH → Prop} (h : Φ [] m σ) : AKws prog w g A env [] m σ Φ := fun pos s Q E S c =>
  wpAny_evalAll_nil (c _ _ _ _ s.heap s.toks h .nil S (Tr.refl ..))
theorem Kws_cons {k : Str} {e : Expr} {p : Pos} {rest : List Keyword} {Φ : List (Str × V) → Loc → AH → Prop} (h : AE prog w g A env e m σ fun v m₁ σ₁ => AKws prog w g A env rest m₁ σ₁ fun ks m₂ σ₂ => Φ ((k, v) :: ks) m₂ σ₂) :
    AKws prog w g A env (⟨some k, e, p⟩ :: rest) m σ Φ := fun pos s Q E S c => by
  refine wpAny_evalAll_cons ?_
  show wpAny _ _ (eval e env >>= fun v => standAt pos >>= fun _ => pure v) _ E s
  refine wpAny_bind (h s _ E S fun v a m₁ σ₁ h₁ tk p r S₁ T₁ => wpAny_bind (wpAny_standAt (wpAny_pure ?_)))
  exact p pos { s with heap := h₁, toks := tk } _ E S₁ fun ks xs m₂ σ₂ h₂ tk₂ p₂ r₂ S₂ T₂ => c _ _ _ _ h₂ tk₂ p₂ (.cons r r₂) S₂ (T₁.trans T₂)

theorem Args_nil {kws : List Keyword} {Φ : List V → List (Str × V) → Loc → AH → Prop} (h : AKws prog w g A env kws m σ fun ks m₁ σ₁ => Φ [] ks m₁ σ₁)
    (hall : ∀ pos, (backToKw pos (keywordEach kws env)).all (·.1.isSome) = true := by intro _; kernel_rfl!) : AEArgs prog w g A env [] kws m σ Φ := fun f' pos s Q E S c => by
  refine evalArgs_kw_nil (hall pos) (h pos s _ E S fun ks xs m₁ σ₁ h₁ tk p r S₁ T₁ => ?_)
  exact c ([], ks) _ _ _ h₁ tk p ⟨.nil, r⟩ S₁ T₁
theorem Args_cons {e : Expr} {rest : List Expr} {kws : List Keyword} {Φ : List V → List (Str × V) → Loc → AH → Prop}
    (h : AE prog w g A env e m σ (KA1 prog w g A env rest kws Φ))
    (hs : starEach (e :: rest) env = (false, eval e env) :: starEach rest env := by kernel_rfl!) (hall : ∀ pos, (backToKw pos (keywordEach kws env)).all (·.1.isSome) = true := by intro _; kernel_rfl!) : AEArgs prog w g A env (e :: rest) kws m σ Φ := fun f' pos s Q E S c => by
  rw [hs]
  refine evalArgs_kw (hall pos) (Calls.spliced_cons (h s _ E S fun v a m₁ σ₁ h₁ tk p r S₁ T₁ => ?_))
  refine p pos { s with heap := h₁, toks := tk } _ E S₁ fun vs xs m₂ σ₂ h₂ tk₂ p₂ r₂ S₂ T₂ => ?_
  refine p₂ pos { s with heap := h₂, toks := tk₂ } _ E S₂ fun ks xs m₃ σ₃ h₃ tk₃ p₃ r₃ S₃ T₃ => ?_
  exact c (_ :: _, ks) _ _ _ h₃ tk₃ p₃ ⟨.cons r r₂, r₃⟩ S₃ (T₁.trans (T₂.trans T₃))

theorem E_Call {func : Expr} {args : List Expr} {kws : List Keyword} {pos : Pos} {Φ : V → Loc → AH → Prop}
    (h : AE prog w g A env func m σ (KF1 prog w g A env args kws Φ))
    (he : eval (.Call func args kws pos) env = (do callWith pos (← eval func env) [] (backTo pos (starEach args env)) (backToKw pos (keywordEach kws env))) := by kernel_rfl!) :
    AE prog w g A env (.Call func args kws pos) m σ Φ := fun s Q E S c => by
  rw [he]
  refine wpAny_bind (h s _ E S fun f f' m₁ σ₁ h₁ tk p r S₁ T₁ => callWith_wp ?_)
  refine p f' pos { s with heap := h₁, toks := tk } _ E S₁ fun pk a m₂ σ₂ h₂ tk₂ p₂ r₂ S₂ T₂ => ?_
  obtain ⟨k, cl⟩ := p₂ f' a.pos a.kw r r₂.1 r₂.2
  refine k { s with heap := h₂, toks := tk₂ } _ E S₂ fun _ _ m₃ σ₃ h₃ tk₃ p₃ _ S₃ T₃ => ?_
  obtain ⟨rfl, rfl⟩ := p₃
  exact cl { s with heap := h₃, toks := tk₃ } _ E S₃ fun v x m₄ σ₄ h₄ tk₄ p₄ r₄ S₄ T₄ => c _ _ _ _ h₄ tk₄ p₄ r₄ S₄ (T₁.trans (T₂.trans (T₃.trans T₄)))

/-! lists of ints -/
noncomputable def ivs (xs : List Int) : List V := xs.map V.int
theorem ivs_get {xs : List Int} {i : Nat} (h : i < xs.length) : (ivs xs)[i]? = some (.int (xs.getD i 0)) := by
  unfold ivs; simp [h]
theorem ivs_length (xs : List Int) : (ivs xs).length = xs.length := by simp [ivs]

/-! subscripts of lists and tuples -/
theorem Sim.list {L : Addr} {h : Heap} (S : Sim g L m σ h) {a : Addr} {xs : List V} (e : σ a = some (.list xs)) : ∃ items, h.IsList a items ∧ VRs xs items.toList := by
  obtain ⟨ob, ho, items, n, rfl, r⟩ := S.fit a _ e
  exact ⟨items, ⟨_, ho, rfl, n, rfl⟩, r⟩
theorem Sim.plist {L : Addr} {h : Heap} (S : Sim g L m σ h) {a : Addr} {xs : List V} (e : σ a = some (.list xs)) : ∃ items, h.PlainList a items ∧ VRs xs items.toList := by
  obtain ⟨ob, ho, items, n, rfl, r⟩ := S.fit a _ e
  exact ⟨items, ⟨n, ho⟩, r⟩
theorem Sim.tuple {L : Addr} {h : Heap} (S : Sim g L m σ h) {a : Addr} {xs : List V} (e : σ a = some (.tuple xs)) : ∃ items, h.IsTuple a items ∧ VRs xs items.toList := by
  obtain ⟨ob, ho, items, n, rfl, r⟩ := S.fit a _ e
  exact ⟨items, ⟨_, ho, rfl, n, rfl⟩, r⟩

theorem E_Sub {value slice : Expr} {pos : Pos} {Φ : V → Loc → AH → Prop}
    (h : AE prog w g A env value m σ (KB1 prog w g A env (subscriptTail value slice) slice Φ)) : AE prog w g A env (.Subscript value slice pos) m σ Φ := fun s Q E S c => by
  refine Subscript_ (h s _ E S fun x a m₁ σ₁ h₁ tk p r S₁ T₁ => ?_)
  refine p { s with heap := h₁, toks := tk } _ E S₁ fun y b m₂ σ₂ h₂ tk₂ p₂ r₂ S₂ T₂ => ?_
  exact p₂ a b r r₂ { s with heap := h₂, toks := tk₂ } _ E S₂ fun v c' m₃ σ₃ h₃ tk₃ p₃ r₃ S₃ T₃ => c v c' m₃ σ₃ h₃ tk₃ p₃ r₃ S₃ (T₁.trans (T₂.trans T₃))

theorem sub_list {value slice : Expr} {l : Addr} {xs : List V} {k : Int} {v : V} {Φ : V → Loc → AH → Prop} (hl : σ l = some (.list xs)) (h0 : 0 ≤ k) (h1 : k < 2 ^ 63) (hx : xs[k.toNat]? = some v) (h : Φ v m σ)
    (hs : ∀ a b, subscripted slice false a b = operate [a, b] (getItem a b) := by intro _ _; kernel_rfl!) : A2 prog w g A env (subscriptTail value slice) (.ref l) (.int k) m σ Φ := fun a b r r' s Q E S c => by
  cases r; cases r'
  obtain ⟨items, hi, rs⟩ := S.list hl
  obtain ⟨x, hx', rx⟩ := rs.get hx
  exact tail_any hi.typeIs slot_list_getitem.lookup (wpAny_getItem_list hi h0 h1 (by simpa using hx') (c _ _ _ _ s.heap s.toks h rx S (Tr.refl ..))) (hs _ _)

theorem sub_listN {value slice : Expr} {l : Addr} {xs : List V} {k : Nat} {v : V} {Φ : V → Loc → AH → Prop} (hl : σ l = some (.list xs)) (h1 : (k : Int) < 2 ^ 63) (hx : xs[k]? = some v) (h : Φ v m σ)
    (hs : ∀ a b, subscripted slice false a b = operate [a, b] (getItem a b) := by intro _ _; kernel_rfl!) : A2 prog w g A env (subscriptTail value slice) (.ref l) (.int (k : Int)) m σ Φ :=
  sub_list hl (Int.natCast_nonneg _) h1 hx h hs

/-! builtins -/
theorem keeper_blt {L : Addr} {id : String} : AW prog w g (fun _ _ => True) A L (keeperOf (.builtin id)) m σ (fun (_ : Unit) m' σ' => m' = m ∧ σ' = σ) := AW.pure (b := ()) trivial ⟨rfl, rfl⟩
theorem keeper_typ {L : Addr} {id : String} : AW prog w g (fun _ _ => True) A L (keeperOf (.type id)) m σ (fun (_ : Unit) m' σ' => m' = m ∧ σ' = σ) := AW.pure (b := ()) trivial ⟨rfl, rfl⟩

theorem call_len_list {L l : Addr} {xs : List V} {Φ : V → Loc → AH → Prop} (hl : σ l = some (.list xs)) (h : Φ (.int xs.length) m σ) (hz : xs.length < 2 ^ 63) : ACall prog w g A L (.blt "len") [.ref l] [] m σ Φ := by
  intro f' pos' kw' r rs rk
  cases r; cases rk; cases rs with | cons r rs => cases rs; cases r; exact ⟨keeper_blt, fun s Q E S c => by
    obtain ⟨items, hi, rs⟩ := S.list hl
    have e : items.size = xs.length := by rw [← Array.length_toList]; exact rs.length
    exact len_list hi (by rw [e]; omega) (c _ _ _ _ s.heap _ h (by rw [e]; exact .int ..) S (Tr.refl ..))⟩

/-! small leaves -/
theorem fdiv2_I {x : Int} {Φ : V → Loc → AH → Prop} (h : Φ (.int (x.fdiv 2)) m σ) : A2 prog w g A env (binaryOp .FloorDiv) (.int x) (.int 2) m σ Φ := fun a b r r' s Q E S c => by
  cases r; cases r'; exact floordiv_int (by decide) (c _ _ _ _ s.heap _ h (.int ..) S (Tr.refl ..)) (.inl (PyProof.noPylong_of_log2 (by decide +kernel)))

noncomputable def V.isNone : V → Bool
  | .none => true
  | _ => false
noncomputable def V.small : V → Bool
  | .blt _ => false
  | _ => true
theorem is_None {x : V} {Φ : V → Loc → AH → Prop} (hx : x.small = true) (h : Φ (.bool x.isNone) m σ) : A2 prog w g A env (compareOp .Is) x .none m σ Φ := fun a b r r' s Q E S c => by
  cases r' 
  cases r <;> first | exact wpAny_is_plain (by rfl) (c _ _ _ _ s.heap s.toks h (.bool ..) S (Tr.refl ..)) | cases hx
theorem isNot_None {x : V} {Φ : V → Loc → AH → Prop} (hx : x.small = true) (h : Φ (.bool (!x.isNone)) m σ) : A2 prog w g A env (compareOp .IsNot) x .none m σ Φ := fun a b r r' s Q E S c => by
  cases r' 
  cases r <;> first | exact wpAny_isNot_plain (by rfl) (c _ _ _ _ s.heap s.toks h (.bool ..) S (Tr.refl ..)) | cases hx
end
end Mine

namespace Mine
open PySem PySem.W PyProof.Rows

noncomputable def F.val : F → V
  | .ret v => v
  | _ => .none
noncomputable abbrev RetK (m : Loc) (Φ : V → Loc → AH → Prop) : F → Loc → AH → Prop := fun fl _ σ' => ∃ σ'', Sub σ'' σ' ∧ Φ fl.val m σ''
noncomputable def fnAt (K : Frag) (a : Addr) : FuncData := match K.lookup a with
  | some ⟨_, _, .func fd, _⟩ => fd
  | _ => default
noncomputable def bodyOf (fd : FuncData) : List Stmt := match fd.body with
  | .stmts b => b
  | _ => []

theorem AOk.deeper {A : Around} {k : Nat} (h : AOk A (k + 1)) (env : Env) : AOk (A.deeper env) k :=
  ⟨h.handled, by rw [depth_deeper]; have := h.depth; omega, by rw [units_deeper]; have := h.units; omega⟩
theorem AOk.le {A : Around} {j k : Nat} (h : AOk A k) (hj : j ≤ k) : AOk A j :=
  ⟨h.handled, by have := h.depth; omega, by have := h.units; omega⟩
theorem AOk.room {A : Around} {k : Nat} (h : AOk A k) : A.depth < recursionLimit := by have := h.depth; omega
theorem AOk.unitsOk {A : Around} {k : Nat} (h : AOk A k) : A.units < cLine := by have := h.units; omega

/-- behind a call: the caller's frame stands -/
theorem Sim.back {g : Heap} {L L' : Addr} {m m' : Loc} {σ₀ σ σ' : AH} {h h₁ h' : Heap} (S : Sim g L m σ₀ h) (hk : ∀ b o, h.get? b = some o → h₁.get? b = some o)
    (hsub : ∀ a, σ a ≠ none → σ₀ a ≠ none ∨ h.get? a = none) (hL' : h.get? L' = none) (S' : Sim g L' m' σ' h') (T' : Tr L' σ σ' h₁ h') : Sim g L m σ' h' ∧ Tr L σ₀ σ' h h' := by
  have none_of : ∀ b o, h.get? b = some o → σ₀ b = none → σ b = none := fun b o e q => by
    cases z : σ b with
    | none => rfl
    | some x =>
      rcases hsub b (by rw [z]; simp) with y | y
      · exact absurd q y
      · rw [y] at e; cases e
  have keep : ∀ b o, h.get? b = some o → σ₀ b = none → h'.get? b = some o := fun b o e q =>
    T'.keep b o (hk b o e) (none_of b o e q) (fun z => by rw [z, hL'] at e; cases e)
  obtain ⟨M, ⟨oL, es, ep, hoL, rL⟩, qM⟩ := S.ns
  have fr : ∀ a, σ' a ≠ none → σ₀ a ≠ none ∨ h.get? a = none := fun a e => by
    rcases T'.fresh a e with z | z
    · exact hsub a z
    · refine .inr ?_
      cases q : h.get? a with
      | none => rfl
      | some o => rw [hk a o q] at z; cases z.1
  have neL : ∀ a, σ' a ≠ none → a ≠ L := fun a e z => by
    rcases fr a e with y | y
    · rw [z] at y; exact y S.offL
    · rw [z, hoL] at y; cases y
  refine ⟨⟨S'.base, S.gL, ?_, S'.off, ⟨M, ⟨oL, es, ep, keep _ _ hoL S.offL, rL⟩, qM⟩, S'.fit⟩, ⟨fun b o e q _ => keep b o e q, fun a e => (fr a e).imp id fun z => ⟨z, neL a e⟩⟩⟩
  cases q : σ' L with
  | none => rfl
  | some o => exact absurd rfl (neL L (by rw [q]; simp))

noncomputable def ABind (K : Frag) (fd : FuncData) (pos : List V) (kw : List (Str × V)) (binds : Loc) : Prop :=
  ∀ pos' kw', VRs pos pos' → KRs kw kw' → ∃ binds', (∀ S, peek K S (bindArgs fd ⟨pos', kw'⟩) = some binds') ∧ KRs binds binds'

section
variable {prog : Program} {w : World} {K : Frag} {g : Heap} {A : Around} {L : Addr} {m : Loc} {σ : AH}

theorem keeper_fn (G : Gd K g) {f : Addr} {oc : Value} {od : Option Addr} {fd : FuncData} {osl : Array (Option Value)} (ho : K.lookup f = some ⟨oc, od, .func fd, osl⟩) :
    AW prog w g (fun _ _ => True) A L (keeperOf (.ref f)) m σ (fun (_ : Unit) m' σ' => m' = m ∧ σ' = σ) := fun s Q E S c => by
  unfold keeperOf
  refine wpAny_bind (wpAny_load (S.base _ _ (G.inK _ _ ho)) ?_)
  exact wpAny_pure (c () _ _ _ s.heap s.toks ⟨rfl, rfl⟩ trivial S (Tr.refl ..))

theorem call_def (G : Gd K g) {f : Addr} {oc : Value} {od : Option Addr} {fd : FuncData} {osl : Array (Option Value)} {pos : List V} {kw : List (Str × V)} {binds : Loc} {Φ : V → Loc → AH → Prop}
    (hA : A.depth < recursionLimit) (ho : K.lookup f = some ⟨oc, od, .func fd, osl⟩) (hcd : codeIn K fd.code fd.qualname = true) (hbody : fd.body = .stmts (bodyOf fd)) (hb : ABind K fd pos kw binds)
    (hcell : (fd.scope.names.all fun x => !(x.2 == .cell)) = true) (hloc : (binds.all fun x => decide (fd.scope.names.lookup x.1 = some .local)) = true)
    (h : ∀ L', AXs prog w g (A.deeper (callEnv fd L' f)) (callEnv fd L' f) (bodyOf fd) binds.reverse σ (RetK m Φ))
    (hco : fd.scope.isCoroutine = false) (hgen : fd.scope.isGenerator = false) (hk : fd.scope.kind = .function) :
    ACall prog w g A L (.ref f) pos kw m σ Φ := by
  intro f' pos' kw' r rs rk
  cases r
  refine ⟨keeper_fn G ho, fun s Q E S c => ?_⟩
  have X : K.In s.heap := G.inK.keeps S.base
  obtain ⟨binds', hp, rb⟩ := hb pos' kw' rs rk
  have hB : BindsTo s fd ⟨pos', kw'⟩ binds' := fun M A' E' Q' hq Γ p _ => wp_of_peek X hq _ (hp _)
  refine wpAny_call (codeAny_call_def hA (X _ _ ho) rfl (G.nolimit.keeps S.base) (codeRec_of X hcd) hbody hB (fun x hx e => by have := List.all_eq_true.mp hcell x hx; rw [e] at this; cases this) ?_ (fun h₁ hns hk₁ => ?_) hco hgen hk)
  · intro x hx
    have : x.1 ∈ binds'.map (·.1) := List.mem_map_of_mem hx
    rw [rb.names] at this
    obtain ⟨y, hy, e⟩ := List.mem_map.mp this
    rw [← e]
    exact of_decide_eq_true (List.all_eq_true.mp hloc y hy)
  · have hz : s.heap.objs.size < h₁.objs.size := hns.lt
    have S₁ : Sim g (callEnv fd s.heap.objs.size f).locals binds.reverse σ h₁ := by
      refine ⟨fun b o e => hk₁ _ _ (S.base b o e), S.gfresh (Nat.le_refl _), S.fresh, S.off, ⟨_, hns, rb.reverse.lookup⟩, fun a o e => ?_⟩
      obtain ⟨ob, x, y⟩ := S.fit a o e
      exact ⟨ob, hk₁ _ _ x, y⟩
    refine h s.heap.objs.size { s with heap := h₁, toks := s.toks + binds'.length } _ _ S₁ fun fl fl' m' σ' h' tk p r S' T' => ?_
    obtain ⟨σ'', hsub, p⟩ := p
    obtain ⟨S'', T''⟩ := S.back hk₁ (fun a e => .inl e) (size_none _) S' T'
    refine c fl.val _ _ _ h' tk p ?_ (S''.forget hsub) (T''.forget hsub)
    cases r <;> first | exact .none | assumption
end
end Mine

namespace Mine
open PySem PySem.W PyProof.Rows

theorem Tr.but {L : Addr} {σ σ' : AH} {h h₁ h' : Heap} {I : Addr} (T : Tr L σ σ' h h₁) (hI : h.get? I = none) (k : ∀ b o, b ≠ I → h₁.get? b = some o → h'.get? b = some o) : Tr L σ σ' h h' :=
  ⟨fun b o e q hL => k b o (fun z => by rw [z, hI] at e; cases e) (T.keep b o e q hL), T.fresh⟩
theorem Sim.but {g : Heap} {L : Addr} {m : Loc} {σ : AH} {h h' : Heap} {I : Addr} (S : Sim g L m σ h) (hI : σ I = none) (hL : I ≠ L) (hg : g.get? I = none) (k : ∀ b o, b ≠ I → h.get? b = some o → h'.get? b = some o) : Sim g L m σ h' := by
  refine ⟨fun b o e => k b o (fun z => by rw [z, hg] at e; cases e) (S.base b o e), S.gL, S.offL, S.off, ?_, fun a o e => ?_⟩
  · obtain ⟨M, ⟨o, es, ep, ho, r⟩, q⟩ := S.ns
    exact ⟨M, ⟨o, es, ep, k _ _ (Ne.symm hL) ho, r⟩, q⟩
  · obtain ⟨ob, x, y⟩ := S.fit a o e
    exact ⟨ob, k _ _ (fun z => by rw [z, hI] at e; cases e) x, y⟩
theorem Tr.off {L : Addr} {σ σ' : AH} {h h' : Heap} (T : Tr L σ σ' h h') {I : Addr} {o : Obj} (hI : σ I = none) (ho : h.get? I = some o) : σ' I = none := by
  cases q : σ' I with
  | none => rfl
  | some x =>
    rcases T.fresh I (by rw [q]; simp) with z | z
    · exact absurd hI z
    · rw [ho] at z; cases z.1

/-- an iterator that stands at the address I, over the items xs, while D holds of what is known -/
structure ItOk (prog : Program) (w : World) (g : Heap) (A : Around) (I : Addr) (xs : List V) (D : AH → Prop) (St : Nat → Heap → Prop) : Prop where
  frame : ∀ i h h', St i h → (∀ o, h.get? I = some o → h'.get? I = some o) → St i h'
  live : ∀ i h, St i h → ∃ o, h.get? I = some o
  item : ∀ i x L m σ (s : Shared) (Q : Option Value → Shared → Prop) (E : Value → Shared → Prop), xs[i]? = some x → St i s.heap → Sim g L m σ s.heap → D σ → I ≠ L → σ I = none →
    (∀ x' h' tk, VR x x' → St (i + 1) h' → (∀ b o, b ≠ I → s.heap.get? b = some o → h'.get? b = some o) → Q (some x') { s with heap := h', toks := tk }) → wpAny (model prog w) A (pyNext (.ref I)) Q E s
  done : ∀ L m σ (s : Shared) (Q : Option Value → Shared → Prop) (E : Value → Shared → Prop), St xs.length s.heap → Sim g L m σ s.heap → D σ → I ≠ L → σ I = none →
    (∀ h' tk, (∀ b o, b ≠ I → s.heap.get? b = some o → h'.get? b = some o) → Q none { s with heap := h', toks := tk }) → wpAny (model prog w) A (pyNext (.ref I)) Q E s
  self : ∀ i (s : Shared) (Q : Value → Shared → Prop) (E : Value → Shared → Prop), St i s.heap → Q (.ref I) s → wpAny (model prog w) A (pyIter (.ref I)) Q E s

noncomputable def AIter (prog : Program) (w : World) (g : Heap) (A : Around) (v : V) (xs : List V) (D : AH → Prop) : Prop :=
  ∀ L m σ a, VR v a → D σ → ∀ (s : Shared) (Q : Value → Shared → Prop) (E : Value → Shared → Prop), Sim g L m σ s.heap →
    (∀ I h' tk St, ItOk prog w g A I xs D St → St 0 h' → s.heap.get? I = none → (∀ b o, s.heap.get? b = some o → h'.get? b = some o) → Q (.ref I) { s with heap := h', toks := tk }) → wpAny (model prog w) A (pyIter a) Q E s

section
variable {prog : Program} {w : World} {g : Heap} {A : Around}

theorem iter_list (hA : A.handled = none) {l : Addr} {xs : List V} : AIter prog w g A (.ref l) xs (fun σ => σ l = some (.list xs)) := by
  intro L m σ a r hD s Q E S c
  cases r
  obtain ⟨items, hl, rs⟩ := S.list hD
  refine wpAny_pyIter_list hl ?_
  refine c s.heap.objs.size _ s.toks (fun i h => h.IsListIter s.heap.objs.size l i) ?_ ⟨_, Heap.get?_push_size _ rfl, rfl, rfl⟩ (size_none _) (fun b o e => Heap.get?_push_of_some _ e)
  generalize s.heap.objs.size = I
  refine ⟨fun i h h' st k => let ⟨o, ho, r⟩ := st; ⟨o, k _ ho, r⟩, fun i h st => let ⟨o, ho, _⟩ := st; ⟨o, ho⟩, ?_, ?_, fun i s Q E st q => wpAny_pyIter_listiter st q⟩
  · intro i x L m σ s Q E hx st S hD _ _ c
    obtain ⟨items, hl, rs⟩ := S.list hD
    obtain ⟨x', hx', rx⟩ := rs.get hx
    refine wpAny_pyNext_list_item st hl (by simpa using hx') fun h' st' hs => c x' h' s.toks rx st' fun b o hb e => (hs.2 b hb).trans e
  · intro L m σ s Q E st S hD _ _ c
    obtain ⟨items, hl, rs⟩ := S.list hD
    have e : items.size = xs.length := by rw [← Array.length_toList]; exact rs.length
    exact wpAny_pyNext_list_end hA st hl (by simp [e]) fun h' hs => c h' s.toks fun b o hb e => hs b o hb e

theorem iter_tuple (hA : A.handled = none) {l : Addr} {xs : List V} : AIter prog w g A (.ref l) xs (fun σ => σ l = some (.tuple xs)) := by
  intro L m σ a r hD s Q E S c
  cases r
  obtain ⟨items, hl, rs⟩ := S.tuple hD
  refine wpAny_pyIter_tuple hl ?_
  refine c s.heap.objs.size _ s.toks (fun i h => h.IsTupleIter s.heap.objs.size l i) ?_ ⟨_, Heap.get?_push_size _ rfl, rfl, rfl⟩ (size_none _) (fun b o e => Heap.get?_push_of_some _ e)
  generalize s.heap.objs.size = I
  refine ⟨fun i h h' st k => let ⟨o, ho, r⟩ := st; ⟨o, k _ ho, r⟩, fun i h st => let ⟨o, ho, _⟩ := st; ⟨o, ho⟩, ?_, ?_, fun i s Q E st q => wpAny_pyIter_tupleiter st q⟩
  · intro i x L m σ s Q E hx st S hD _ _ c
    obtain ⟨items, hl, rs⟩ := S.tuple hD
    obtain ⟨x', hx', rx⟩ := rs.get hx
    refine wpAny_pyNext_tuple_item st hl (by simpa using hx') fun h' st' hs => c x' h' s.toks rx st' fun b o hb e => (hs.2 b hb).trans e
  · intro L m σ s Q E st S hD _ _ c
    obtain ⟨items, hl, rs⟩ := S.tuple hD
    have e : items.size = xs.length := by rw [← Array.length_toList]; exact rs.length
    exact wpAny_pyNext_tuple_end hA st hl (by simp [e]) fun h' hs => c h' s.toks fun b o hb e => hs b o hb e

/-- the ints of a range -/
noncomputable def rngL (a c : Int) (n : Nat) : List V := (List.range n).map fun (i : Nat) => V.int (a + (i : Int) * c)

theorem iter_rng (hA : A.handled = none) {r : Addr} {a b c : Int} {n : Nat} (hsm : Builtin.Range.small a b c = true) (hn : Builtin.Range.rangeSize a b c = n) : AIter prog w g A (.ref r) (rngL a c n) (fun σ => σ r = some (.rng a b c)) := by
  intro L m σ _ r hD s Q E S k
  cases r
  obtain ⟨ob, ho, t, u, v, rfl⟩ := S.fit _ _ hD
  have W := Walks.range (prog := prog) (w := w) (A := A) hA s.heap.objs.size a c n
  refine wpAny_pyIter_range ho hsm ?_
  refine k s.heap.objs.size _ s.toks (fun i h => IsRangeIter h s.heap.objs.size (a + (i : Nat) * c) ((n : Int) - (i : Nat)) c) ?_ ?_ (size_none _) (fun b o e => Heap.get?_push_of_some _ e)
  · generalize s.heap.objs.size = I at W
    refine ⟨fun i h h' st k => k _ st, fun i h st => ⟨_, st⟩, ?_, ?_, fun i s Q E st q => W.self i s Q E st q⟩
    · intro i x L m σ s Q E hx st S hD _ _ c'
      have hi : i < n := by
        unfold rngL at hx
        have := List.getElem?_eq_some_iff.mp hx
        simpa using this.1
      have hx' : x = V.int (a + i * c) := by
        unfold rngL at hx
        simp [hi] at hx
        exact hx.symm
      subst hx'
      exact W.item i s Q E hi st fun v h' tk hv st' k => by
        obtain ⟨t, rfl⟩ := hv
        exact c' _ h' tk (.int ..) st' fun b o hb e => k b o (by simpa using hb) e
    · intro L m σ s Q E st S hD _ _ c'
      have : (rngL a c n).length = n := by simp [rngL]
      rw [this] at st
      exact W.done s Q E st fun h' tk k => c' h' tk fun b o hb e => k b o (by simpa using hb) e
  · show IsRangeIter _ _ _ _ _
    rw [← hn]
    simpa using Heap.get?_push_size _ rfl
end

section
variable {prog : Program} {w : World} {K : Frag} {g : Heap} {A : Around} {env : Env} {m : Loc} {σ : AH}

noncomputable def AAsg (prog : Program) (w : World) (g : Heap) (A : Around) (env : Env) (target : Expr) (x : V) (m : Loc) (σ : AH) (Φ : Loc → AH → Prop) : Prop :=
  ∀ a, VR x a → AW prog w g (fun (_ : Unit) (_ : Unit) => True) A env.locals (assign target env a) m σ fun _ m' σ' => Φ m' σ'

theorem asg_local {x : Str} {pos : Pos} {v : V} {Φ : Loc → AH → Prop} (h : Φ (m.set x v) σ) (hk : env.scope.kind = .function := by kernel_rfl!) (hl : env.kindOf x = some .local := by kernel_rfl!) :
    AAsg prog w g A env (.Name x pos) v m σ Φ := fun a r s Q E S c => wpAny_assign_Name (A_storeLocal (Φ := fun _ m σ => Φ m σ) r h hk hl s Q E S c)
theorem asg_cell {x : Str} {pos : Pos} {v : V} {c : Addr} {ov : Option V} {Φ : Loc → AH → Prop} (hc : env.cells.lookup x = some c) (ho : σ c = some (.cell ov)) (h : Φ m (σ.set c (.cell (some v))))
    (hk : env.scope.kind = .function := by kernel_rfl!) (hl : env.kindOf x = some .cell := by kernel_rfl!) :
    AAsg prog w g A env (.Name x pos) v m σ Φ := fun a r s Q E S c => wpAny_assign_Name (A_storeCell (Φ := fun _ m σ => Φ m σ) r hc ho h hk hl s Q E S c)

theorem X_For {target iter : Expr} {body orelse : List Stmt} {pos : Pos} {Φ : F → Loc → AH → Prop}
    (h : AE prog w g A env iter m σ fun v m₁ σ₁ => ∃ (xs : List V) (D : AH → Prop) (I : Nat → Loc → AH → Prop), AIter prog w g A v xs D ∧ I 0 m₁ σ₁ ∧ (∀ i m σ, I i m σ → D σ) ∧
      (∀ i x m σ, xs[i]? = some x → I i m σ → AAsg prog w g A env target x m σ fun m₁ σ₁ => AXs prog w g A env body m₁ σ₁ (LoopK (I (i + 1)) Φ)) ∧
      (∀ m σ, I xs.length m σ → AXs prog w g A env orelse m σ Φ))
    (hs : ∀ x, foldedSetIterable iter env x = pure x := by intro _; kernel_rfl!) (ht : ∀ it v, letOwnedTupleGo target it v = pure () := by intro _ _; kernel_rfl!) : AX prog w g A env (.For target iter body orelse pos) m σ Φ := fun s Q E S c => by
  refine wpAny_For (h s _ E S fun v a m₁ σ₁ h₁ tk p r S₁ T₁ => ?_) hs
  obtain ⟨xs, D, J, hit, h0, hD, turn, fin⟩ := p
  refine hit env.locals m₁ σ₁ a r (hD _ _ _ h0) { s with heap := h₁, toks := tk } _ E S₁ fun I h₂ tk₂ St W st hI hk => ?_
  have hgI : g.get? I = none := by
    cases q : g.get? I with
    | none => rfl
    | some o => rw [S₁.base _ _ q] at hI; cases hI
  have hIL : I ≠ env.locals := fun z => by
    obtain ⟨M, ⟨o, es, ep, ho, _⟩, _⟩ := S₁.ns
    rw [z, ho] at hI; cases hI
  have hσI : σ₁ I = none := by
    cases q : σ₁ I with
    | none => rfl
    | some o => obtain ⟨ob, ho, _⟩ := S₁.fit _ _ q; rw [ho] at hI; cases hI
  refine codeAny_forLoop (fun n s' => ∃ i m₂ σ₂ h₃ tk₃, s' = { s with heap := h₃, toks := tk₃ } ∧ n = xs.length - i ∧ i ≤ xs.length ∧ J i m₂ σ₂ ∧ St i h₃ ∧ Sim g env.locals m₂ σ₂ h₃ ∧ Tr env.locals σ₁ σ₂ h₁ h₃ ∧ σ₂ I = none) ?_ xs.length
    ⟨0, m₁, σ₁, h₂, tk₂, rfl, rfl, Nat.zero_le _, h0, st, S₁.grow hk, Tr.grow hk, hσI⟩ (ht _)
  rintro n _ ⟨i, m₂, σ₂, h₃, tk₃, rfl, rfl, hi, hJ, st₃, S₃, T₃, q₃⟩
  by_cases hlt : i < xs.length
  · have hx : xs[i]? = some xs[i] := by simp [hlt]
    refine W.item i xs[i] env.locals m₂ σ₂ { s with heap := h₃, toks := tk₃ } _ _ hx st₃ S₃ (hD _ _ _ hJ) hIL q₃ fun x' h₄ tk₄ rx st₄ k₄ => ?_
    have S₄ := S₃.but q₃ hIL hgI k₄
    have T₄ := T₃.but hI k₄
    refine turn i xs[i] m₂ σ₂ hx hJ x' rx { s with heap := h₄, toks := tk₄ } _ _ S₄ fun _ _ m₅ σ₅ h₅ tk₅ p₅ _ S₅ T₅ => ?_
    refine p₅ { s with heap := h₅, toks := tk₅ } _ _ S₅ fun f fl m₆ σ₆ h₆ tk₆ p₆ r₆ S₆ T₆ => ?_
    have T := T₄.trans (T₅.trans T₆)
    obtain ⟨oI, hoI⟩ := W.live _ _ st₄
    have keepI : ∀ o, h₄.get? I = some o → h₆.get? I = some o := fun o e => (T₅.trans T₆).keep I o e q₃ hIL
    have st₆ := W.frame _ _ _ st₄ keepI
    have q₆ : σ₆ I = none := (T₅.trans T₆).off q₃ hoI
    cases r₆ with
    | next =>
      obtain ⟨m₇, σ₇, k1, k2, p₆⟩ := p₆
      exact ⟨_, by omega, i + 1, m₇, σ₇, h₆, tk₆, rfl, rfl, hlt, p₆, st₆, (S₆.forgetL k1).forget k2, T.forget k2, by
        cases z : σ₇ I with
        | none => rfl
        | some o => rw [k2 _ _ z] at q₆; cases q₆⟩
    | cont =>
      obtain ⟨m₇, σ₇, k1, k2, p₆⟩ := p₆
      exact ⟨_, by omega, i + 1, m₇, σ₇, h₆, tk₆, rfl, rfl, hlt, p₆, st₆, (S₆.forgetL k1).forget k2, T.forget k2, by
        cases z : σ₇ I with
        | none => rfl
        | some o => rw [k2 _ _ z] at q₆; cases q₆⟩
    | brk => exact c _ _ _ _ h₆ tk₆ p₆ .next S₆ (T₁.trans T)
    | ret r => exact c _ _ _ _ h₆ tk₆ p₆ (.ret r) S₆ (T₁.trans T)
  · have hi' : i = xs.length := by omega
    subst hi'
    refine W.done env.locals m₂ σ₂ { s with heap := h₃, toks := tk₃ } _ _ st₃ S₃ (hD _ _ _ hJ) hIL q₃ fun h₄ tk₄ k₄ => ?_
    have S₄ := S₃.but q₃ hIL hgI k₄
    have T₄ := T₃.but hI k₄
    exact fin m₂ σ₂ hJ { s with heap := h₄, toks := tk₄ } _ _ S₄ fun f fl m₅ σ₅ h₅ tk₅ p₅ r₅ S₅ T₅ => c _ _ _ _ h₅ tk₅ p₅ r₅ S₅ (T₁.trans (T₄.trans T₅))
end
end Mine

namespace Mine
open PySem PySem.W PyProof.Rows

section
variable {prog : Program} {w : World} {K : Frag} {g : Heap} {A : Around} {env : Env} {m : Loc} {σ : AH}

/-- the tests of a comprehension, one behind the other -/
noncomputable def ATests (prog : Program) (w : World) (g : Heap) (A : Around) (env : Env) (ifs : List Expr) (m : Loc) (σ : AH) (Φ : Bool → Loc → AH → Prop) : Prop :=
  AW prog w g Eq A env.locals (forIn ifs true fun c r => if r = true then do let ok ← isTrue c env (eval c env); pure (ForInStep.yield ok) else pure (ForInStep.yield r)) m σ Φ

theorem tests_none {Φ : Bool → Loc → AH → Prop} (h : Φ true m σ) : ATests prog w g A env [] m σ Φ := fun s Q E S c => by
  rw [List.forIn_nil]; exact wpAny_pure (c _ _ _ _ s.heap s.toks h rfl S (Tr.refl ..))
theorem tests_one {e : Expr} {Φ : Bool → Loc → AH → Prop} (h : AT prog w g A env e m σ Φ) : ATests prog w g A env [e] m σ Φ := fun s Q E S c => by
  rw [List.forIn_cons]
  rw [if_pos rfl]
  refine wpAny_bind (wpAny_bind (h s _ E S fun b a m₁ σ₁ h₁ tk p r S₁ T₁ => wpAny_pure ?_))
  subst r
  dsimp only
  rw [List.forIn_nil]
  exact wpAny_pure (c _ _ _ _ h₁ tk p rfl S₁ T₁)

/-- what a comprehension's loop does: from the iterator on -/
theorem comp_core {elt iter : Expr} {x : Str} {px : Pos} {ifs : List Expr} {scope : Scope} {cl : List (Str × Addr)} {pos : Pos} {use : Option (Value → Sem Unit)} {Q : Value → Shared → Prop} {E : Value → Shared → Prop} {s : Shared}
    (hcell : ∀ y ∈ scope.names, y.2 ≠ .cell) (hkind : scope.kind = .function) (hx : scope.names.lookup x = some .local)
    {I : Addr} {xs : List V} {D : AH → Prop} {St : Nat → Heap → Prop} (W : ItOk prog w g A I xs D St) (st : St 0 s.heap) {h₀ : Heap} (S : Sim g env.locals m σ h₀) (hk₀ : ∀ b o, h₀.get? b = some o → s.heap.get? b = some o) (hI : h₀.get? I = none)
    (hz : xs.length ≤ sizeLine) (J : Nat → List V → AH → Prop) (h0 : J 0 [] σ) (hD : ∀ i ys σ, J i ys σ → D σ) (hlen : ∀ i ys σ, J i ys σ → ys.length ≤ i)
    (turn : ∀ C i v ys σ, xs[i]? = some v → J i ys σ → ATests prog w g A (compEnvC scope cl C env) ifs [(x, v)] σ fun b m₁ σ₁ =>
      (b = true → AE prog w g A (compEnvC scope cl C env) elt m₁ σ₁ fun y m₂ σ₂ => ∃ σ₃, Sub σ₃ σ₂ ∧ J (i + 1) (ys ++ [y]) σ₃) ∧ (b = false → ∃ σ₃, Sub σ₃ σ₁ ∧ J (i + 1) ys σ₃))
    (fin : ∀ ys σ' Da C h' tk, J xs.length ys σ' → σ' Da = none → h₀.get? Da = none → (∃ M, h'.Ns C M) → h₀.get? C = none → σ' C = none → Da ≠ C → (∀ h'', Heap.SameBut C h' h'' → Sim g env.locals m (σ'.set Da (.list ys)) h'' ∧ Tr env.locals σ (σ'.set Da (.list ys)) h₀ h'') →
      compPost (model prog w) A E use Q (.ref Da) C (.ok .next) { s with heap := h', toks := tk }) :
    wpAny (model prog w) A (newList []) (fun acc s₃ => wpAny (model prog w) A (newFunctionEnv scope env.globals cl [] env.qual none .none (some env)) (fun cenv s₄ =>
      codeAny (model prog w) A (.compStart (.ListComp elt [⟨.Name x px, iter, ifs, 0⟩] scope pos) 0 (.ref I) acc { cenv with scope := relabel scope env }) (compPost (model prog w) A E use Q acc cenv.locals) s₄) E s₃) E s := by
  refine wpAny_newObj_type (wpAny_newFunctionEnv hcell (by intro y hy; simp at hy) (fun h₁ hns₁ hsb₁ => ?_) hkind)
  dsimp only at hns₁ hsb₁ ⊢
  generalize hDa : s.heap.objs.size = Da at hns₁ hsb₁ ⊢
  generalize hH2 : s.heap.push { cls := .type "list", dict := none, data := .seq ([] : List Value).toArray } = H2 at hns₁ hsb₁ ⊢
  generalize hC : H2.objs.size = C at hns₁ hsb₁ ⊢
  have hDaN : s.heap.get? Da = none := hDa ▸ size_none _
  have hH2C : H2.get? C = none := hC ▸ size_none _
  have hH2D : H2.get? Da = some { cls := .type "list", data := .seq #[] } := by rw [← hH2, ← hDa]; exact Heap.get?_push_size _ rfl
  have up2 : ∀ b o, s.heap.get? b = some o → H2.get? b = some o := fun b o e => by rw [← hH2]; exact Heap.get?_push_of_some _ e
  have hsC : s.heap.get? C = none := by
    cases q : s.heap.get? C with
    | none => rfl
    | some o => rw [up2 _ _ q] at hH2C; cases hH2C
  have hDC : Da ≠ C := fun z => by rw [z, hH2C] at hH2D; cases hH2D
  have up1 : ∀ b o, H2.get? b = some o → h₁.get? b = some o := fun b o e => hsb₁.extBut b o (fun z => by rw [z, hH2C] at e; cases e) (Heap.get?_push_of_some _ e)
  have old : ∀ b o, s.heap.get? b = some o → h₁.get? b = some o := fun b o e => up1 b o (up2 b o e)
  have h0D : h₀.get? Da = none := by
    cases q : h₀.get? Da with
    | none => rfl
    | some o => rw [hk₀ _ _ q] at hDaN; cases hDaN
  have h0C : h₀.get? C = none := by
    cases q : h₀.get? C with
    | none => rfl
    | some o => rw [hk₀ _ _ q] at hsC; cases hsC
  have gN : ∀ a, h₀.get? a = none → g.get? a = none := fun a e => by
    cases q : g.get? a with
    | none => rfl
    | some o => rw [S.base _ _ q] at e; cases e
  have σN : ∀ a, h₀.get? a = none → σ a = none := fun a e => by
    cases q : σ a with
    | none => rfl
    | some o => obtain ⟨ob, ho, _⟩ := S.fit _ _ q; rw [ho] at e; cases e
  obtain ⟨oI, hoI⟩ := W.live _ _ st
  have hIC : I ≠ C := fun z => by rw [z, hsC] at hoI; cases hoI
  have hID : I ≠ Da := fun z => by rw [z, hDaN] at hoI; cases hoI
  have LN : ∀ a, h₀.get? a = none → a ≠ env.locals := fun a e z => by
    obtain ⟨M, ⟨o, es, ep, ho, _⟩, _⟩ := S.ns
    rw [z, ho] at e; cases e
  have S₁ : Sim g (compEnvC scope cl C env).locals [] σ h₁ := by
    refine ⟨fun b o e => old b o (hk₀ _ _ (S.base b o e)), gN C h0C, σN C h0C, S.off, ⟨_, hns₁, fun x v e => by cases e⟩, fun a o e => ?_⟩
    obtain ⟨ob, x, y⟩ := S.fit a o e
    exact ⟨ob, old _ _ (hk₀ _ _ x), y⟩
  have st₁ : St 0 h₁ := W.frame _ _ _ st fun o e => old _ _ e
  have loop : codeAny (model prog w) A (.compLoop (.ListComp elt [⟨.Name x px, iter, ifs, 0⟩] scope pos) 0 (.ref I) (.ref Da) (compEnvC scope cl C env)) (compPost (model prog w) A E use Q (.ref Da) C) { s with heap := h₁, toks := s.toks + ([] : List (Str × Value)).length } := by
    refine codeAny_compLoop_tests (fun n s' => ∃ i ys σ₂ h₃ tk₃ items, ∃ mm : Loc, s' = { s with heap := h₃, toks := tk₃ } ∧ n = xs.length - i ∧ i ≤ xs.length ∧ J i ys σ₂ ∧ St i h₃ ∧ Sim g C mm σ₂ h₃ ∧ σ₂ I = none ∧ σ₂ Da = none ∧
        h₃.PlainList Da items ∧ VRs ys items.toList ∧ (∀ b o, h₀.get? b = some o → σ b = none → h₃.get? b = some o) ∧ (∀ a, σ₂ a ≠ none → σ a ≠ none ∨ h₀.get? a = none)) ?_ xs.length
      ⟨0, [], σ, h₁, _, #[], [], rfl, rfl, Nat.zero_le _, h0, st₁, S₁, σN I hI, σN Da h0D, ⟨0, up1 _ _ hH2D⟩, .nil, fun b o e _ => old b o (hk₀ _ _ e), fun a e => .inl e⟩ (by intro _; rfl)
    rintro n _ ⟨i, ys, σ₂, h₃, tk₃, items, mm, rfl, rfl, hi, hJ, st₃, S₃, qI, qD, hpl, rv, kp, fr⟩
    have gI := gN I hI
    have σ2N : ∀ b o, h₀.get? b = some o → σ b = none → σ₂ b = none := fun b o e q => by
      cases z : σ₂ b with
      | none => rfl
      | some x =>
        rcases fr b (by rw [z]; simp) with y | y
        · exact absurd q y
        · rw [y] at e; cases e
    have neI : ∀ b o, h₀.get? b = some o → b ≠ I := fun b o e z => by rw [z, hI] at e; cases e
    have neC : ∀ b o, h₀.get? b = some o → b ≠ C := fun b o e z => by rw [z, h0C] at e; cases e
    by_cases hlt : i < xs.length
    · have hxi : xs[i]? = some xs[i] := by simp [hlt]
      refine W.item i xs[i] C mm σ₂ { s with heap := h₃, toks := tk₃ } _ _ hxi st₃ S₃ (hD _ _ _ hJ) hIC qI fun x' h₄ tk₄ rx st₄ k₄ => ?_
      have S₄ := (S₃.forgetL (LSub.nil _)).but qI hIC gI k₄
      obtain ⟨oJ, hoJ⟩ := W.live _ _ st₄
      obtain ⟨nD, hD3⟩ := hpl
      have hD4 := k₄ _ _ (Ne.symm hID) hD3
      refine wpAny_assign_Name (A_storeLocal (prog := prog) (w := w) (g := g) (A := A) (env := compEnvC scope cl C env) (m := []) (σ := σ₂) (Φ := fun _ m' σ' => m' = [(x, xs[i])] ∧ σ' = σ₂) rx ⟨rfl, rfl⟩ hkind (lookup_relabel_local hx) { s with heap := h₄, toks := tk₄ } _ _ S₄ fun _ _ m₅ σ₅ h₅ tk₅ p₅ _ S₅ T₅ => ?_)
      obtain ⟨rfl, rfl⟩ := p₅
      have t := turn C i xs[i] ys σ₅ hxi hJ
      refine t { s with heap := h₅, toks := tk₅ } _ _ S₅ fun b b' m₆ σ₆ h₆ tk₆ p₆ r₆ S₆ T₆ => ?_
      subst r₆
      have nxt : ∀ {σ₇ σ₈ : AH} {h₇ : Heap}, Tr C σ₅ σ₇ h₄ h₇ → Sub σ₈ σ₇ → St (i + 1) h₇ ∧ σ₈ I = none ∧ σ₈ Da = none ∧ σ₇ Da = none ∧ h₇.PlainList Da items ∧ (∀ b o, h₀.get? b = some o → σ b = none → h₇.get? b = some o) ∧ (∀ a, σ₈ a ≠ none → σ a ≠ none ∨ h₀.get? a = none) := by
        intro σ₇ σ₈ h₇ T7 k7
        have z : ∀ a, σ₇ a = none → σ₈ a = none := fun a e => by
          cases q : σ₈ a with
          | none => rfl
          | some o => rw [k7 _ _ q] at e; cases e
        refine ⟨W.frame _ _ _ st₄ (fun o e => T7.keep I o e qI hIC), z _ (T7.off qI hoJ), z _ (T7.off qD hD4), T7.off qD hD4, ⟨nD, T7.keep _ _ hD4 qD hDC⟩, fun b o e q => T7.keep b o (k₄ _ _ (neI b o e) (kp b o e q)) (σ2N b o e q) (neC b o e), fun a e => ?_⟩
        have e7 : σ₇ a ≠ none := fun q => e (z a q)
        rcases T7.fresh a e7 with y | y
        · exact fr a y
        · cases q : h₀.get? a with
          | none => exact .inr rfl
          | some o =>
            refine .inl fun q' => ?_
            rw [k₄ _ _ (neI a o q) (kp a o q q')] at y
            cases y.1
      have T56 := T₅.trans T₆
      cases b with
      | false =>
        rw [if_neg Bool.false_ne_true]
        obtain ⟨σ₇, k7, hJ7⟩ := p₆.2 rfl
        obtain ⟨a1, a2, a3, _, a4, a5, a6⟩ := nxt T56 k7
        exact ⟨_, by omega, i + 1, ys, σ₇, h₆, tk₆, items, m₆, rfl, rfl, hlt, hJ7, a1, S₆.forget k7, a2, a3, a4, rv, a5, a6⟩
      | true =>
        rw [if_pos rfl]
        refine p₆.1 rfl { s with heap := h₆, toks := tk₆ } _ _ S₆ fun y y' m₇ σ₇ h₇ tk₇ p₇ r₇ S₇ T₇ => ?_
        obtain ⟨σ₈, k8, hJ8⟩ := p₇
        obtain ⟨a1, a2, a3, a3', a4, a5, a6⟩ := nxt (T56.trans T₇) k8
        have hitems : items.size ≤ sizeLine := by
          have e1 := rv.length
          have e2 := hlen _ _ _ hJ
          rw [Array.length_toList] at e1
          omega
        refine wpAny_list_append_plain a4 (fun h₈ hl₈ hs₈ => ?_) hitems
        have k₈ : ∀ b o, b ≠ Da → h₇.get? b = some o → h₈.get? b = some o := fun b o hb e => (hs₈.2 b hb).trans e
        refine ⟨_, by omega, i + 1, ys ++ [y], σ₈, h₈, tk₇, items.push y', m₇, rfl, rfl, hlt, hJ8, W.frame _ _ _ a1 (fun o e => k₈ _ _ hID e), (S₇.but a3' hDC (gN Da h0D) k₈).forget k8, a2, a3, hl₈, ?_, fun b o e q => k₈ b o (fun z => by rw [z, h0D] at e; cases e) (a5 b o e q), a6⟩
        rw [Array.toList_push]
        exact rv.append (.cons r₇ .nil)
    · have hi' : i = xs.length := by omega
      subst hi'
      refine W.done C mm σ₂ { s with heap := h₃, toks := tk₃ } _ _ st₃ S₃ (hD _ _ _ hJ) hIC qI fun h₄ tk₄ k₄ => ?_
      have S₄ := S₃.but qI hIC gI k₄
      obtain ⟨nD, hD3⟩ := hpl
      have hD4 := k₄ _ _ (Ne.symm hID) hD3
      refine fin ys σ₂ Da C h₄ tk₄ hJ qD h0D (let ⟨M, q, _⟩ := S₄.ns; ⟨M, q⟩) h0C S₃.offL hDC fun h'' hs'' => ?_
      have up : ∀ b o, h₀.get? b = some o → σ b = none → h''.get? b = some o := fun b o e q => (hs''.2 b (neC b o e)).trans (k₄ _ _ (neI b o e) (kp b o e q))
      obtain ⟨M, ⟨oL, es, ep, hoL, rL⟩, qM⟩ := S.ns
      refine ⟨⟨fun b o e => ?_, S.gL, ?_, fun a e => ?_, ⟨M, ⟨oL, es, ep, up _ _ hoL S.offL, rL⟩, qM⟩, fun a o e => ?_⟩, ⟨fun b o e q _ => up b o e q, fun a e => ?_⟩⟩
      · exact (hs''.2 b (fun z => by rw [z, gN C h0C] at e; cases e)).trans (S₄.base b o e)
      · rw [AH.set_ne _ _ (Ne.symm (LN Da h0D))]; exact σ2N _ _ hoL S.offL
      · by_cases q : a = Da
        · rw [q]; exact gN Da h0D
        · rw [AH.set_ne _ _ q] at e; exact S₃.off a e
      · by_cases q : a = Da
        · rw [q, AH.set_self] at e; cases e
          exact ⟨_, (hs''.2 a (by rw [q]; exact hDC)).trans (by rw [q]; exact hD4), items, nD, rfl, rv⟩
        · rw [AH.set_ne _ _ q] at e
          obtain ⟨ob, x, y⟩ := S₄.fit a o e
          exact ⟨ob, (hs''.2 a (S₄.ne e)).trans x, y⟩
      · by_cases q : a = Da
        · rw [q]; exact .inr ⟨h0D, LN Da h0D⟩
        · rw [AH.set_ne _ _ q] at e
          exact (fr a e).imp id fun z => ⟨z, LN a z⟩
  exact codeAny_compStart_list loop (W.self 0 _ _ _ st₁ loop)

/-- what is asked of a comprehension -/
noncomputable def CompP (prog : Program) (w : World) (g : Heap) (A : Around) (env : Env) (elt iter : Expr) (x : Str) (ifs : List Expr) (scope : Scope) (cl : List (Str × Addr)) (m : Loc) (σ : AH) (Φ : V → Loc → AH → Prop) : Prop :=
  AE prog w g A env iter m σ fun v m₁ σ₁ => ∃ (xs : List V) (D : AH → Prop) (J : Nat → List V → AH → Prop), AIter prog w g A v xs D ∧ xs.length ≤ sizeLine ∧ J 0 [] σ₁ ∧ (∀ i ys σ, J i ys σ → D σ ∧ ys.length ≤ i) ∧
    (∀ C i v ys σ, xs[i]? = some v → J i ys σ → ATests prog w g A (compEnvC scope cl C env) ifs [(x, v)] σ fun b m₁ σ₁ =>
      (b = true → AE prog w g A (compEnvC scope cl C env) elt m₁ σ₁ fun y m₂ σ₂ => ∃ σ₃, Sub σ₃ σ₂ ∧ J (i + 1) (ys ++ [y]) σ₃) ∧ (b = false → ∃ σ₃, Sub σ₃ σ₁ ∧ J (i + 1) ys σ₃)) ∧
    (∀ ys σ' Da, J xs.length ys σ' → σ' Da = none → Φ (.ref Da) m₁ (σ'.set Da (.list ys)))

theorem E_ListComp {elt iter : Expr} {x : Str} {px : Pos} {ifs : List Expr} {scope : Scope} {cl : List (Str × Addr)} {pos : Pos} {Φ : V → Loc → AH → Prop}
    (hclos : closureFor scope env = pure cl) (h : CompP prog w g A env elt iter x ifs scope cl m σ Φ) (hcell : ∀ y ∈ scope.names, y.2 ≠ .cell := by decide) (hkind : scope.kind = .function := by kernel_rfl!)
    (hnames : ∀ y ∈ scope.names, y.2 = .local → scope.names.lookup y.1 = some .local := by decide) (hx : scope.names.lookup x = some .local := by kernel_rfl!)
    (hs : ∀ x, foldedSetIterable iter env x = pure x := by intro _; kernel_rfl!) : AE prog w g A env (.ListComp elt [⟨.Name x px, iter, ifs, 0⟩] scope pos) m σ Φ := fun s Q E S c => by
  rw [eval_ListComp]
  refine wpAny_comprehension_free (use := none) rfl hs hclos hkind hnames (h s _ E S fun v a m₁ σ₁ h₁ tk p r S₁ T₁ => ?_)
  obtain ⟨xs, D, J, hit, hz, h0, hJ, turn, fin⟩ := p
  refine hit env.locals m₁ σ₁ a r (hJ _ _ _ h0).1 { s with heap := h₁, toks := tk } _ E S₁ fun I h₂ tk₂ St W st hI hk => ?_
  refine comp_core hcell hkind hx W st S₁ hk hI hz J h0 (fun i ys σ q => (hJ i ys σ q).1) (fun i ys σ q => (hJ i ys σ q).2) turn fun ys σ' Da C h' tk' hj qD h0D hn h0C qC hDC k => ?_
  obtain ⟨M, hn⟩ := hn
  refine ⟨M, hn, fun h'' hs'' => ?_⟩
  obtain ⟨S'', T''⟩ := k h'' hs''
  exact c _ _ _ _ h'' tk' (fin ys σ' Da hj qD) (.ref Da) S'' (T₁.trans T'')

theorem X_AssignComp {elt iter : Expr} {x y : Str} {px py : Pos} {ifs : List Expr} {scope : Scope} {cl : List (Str × Addr)} {pos spos : Pos} {Φ : F → Loc → AH → Prop}
    (hclos : closureFor scope env = pure cl) (h : CompP prog w g A env elt iter x ifs scope cl m σ fun v m₁ σ₁ => Φ .next (m₁.set y v) σ₁)
    (hsw : swapsWith (.ListComp elt [⟨.Name x px, iter, ifs, 0⟩] scope pos) (some (.Name y py)) spos.line env = pure true := by kernel_rfl!) (hcell : ∀ y ∈ scope.names, y.2 ≠ .cell := by decide) (hkind : scope.kind = .function := by kernel_rfl!)
    (hnames : ∀ y ∈ scope.names, y.2 = .local → scope.names.lookup y.1 = some .local := by decide) (hx : scope.names.lookup x = some .local := by kernel_rfl!)
    (hk : env.scope.kind = .function := by kernel_rfl!) (hy : env.kindOf y = some .local := by kernel_rfl!)
    (hs : ∀ x, foldedSetIterable iter env x = pure x := by intro _; kernel_rfl!) : AX prog w g A env (.Assign [.Name y py] (.ListComp elt [⟨.Name x px, iter, ifs, 0⟩] scope pos) spos) m σ Φ := fun s Q E S c => by
  rw [exec_Assign_Name_used _ _ _ _ hsw]
  refine wpAny_bind (wpAny_standAt (wpAny_bind ?_))
  show wpAny _ A (do let _ ← comprehension (.ListComp elt [⟨.Name x px, iter, ifs, 0⟩] scope pos) scope env _ (newList []) false (eval iter env) (some (assign (.Name y py) env))) _ _ s
  refine wpAny_bind (wpAny_mono (wpAny_comprehension_free (use := some (assign (.Name y py) env)) (Q := fun _ s' => Q .next s') rfl hs hclos hkind hnames
    (h s _ E S fun v a m₁ σ₁ h₁ tk p r S₁ T₁ => ?_)) (fun _ s' hq => wpAny_pure (wpAny_pure hq)) fun _ _ e => e)
  obtain ⟨xs, D, J, hit, hz, h0, hJ, turn, fin⟩ := p
  refine hit env.locals m₁ σ₁ a r (hJ _ _ _ h0).1 { s with heap := h₁, toks := tk } _ E S₁ fun I h₂ tk₂ St W st hI hk' => ?_
  refine comp_core hcell hkind hx W st S₁ hk' hI hz J h0 (fun i ys σ q => (hJ i ys σ q).1) (fun i ys σ q => (hJ i ys σ q).2) turn fun ys σ' Da C h' tk' hj qD h0D hn h0C qC hDC k => ?_
  obtain ⟨M, hn⟩ := hn
  obtain ⟨S'', T''⟩ := k h' (Heap.SameBut.refl ..)
  have hCL : C ≠ env.locals := fun z => by
    obtain ⟨M', ⟨o, es, ep, ho, _⟩, _⟩ := S₁.ns
    rw [z, ho] at h0C; cases h0C
  have hgC : g.get? C = none := by
    cases q : g.get? C with
    | none => rfl
    | some o => rw [S₁.base _ _ q] at h0C; cases h0C
  have qC' : (σ'.set Da (.list ys)) C = none := by rw [AH.set_ne _ _ (Ne.symm hDC)]; exact qC
  refine wpAny_assign_Name (A_storeLocal (Φ := fun _ m₂ σ₂ => Φ .next m₂ σ₂ ∧ σ₂ = σ'.set Da (.list ys)) (.ref Da) ⟨fin ys σ' Da hj qD, rfl⟩ hk hy { s with heap := h', toks := tk' } _ E S'' fun _ _ m₃ σ₃ h₃ tk₃ p₃ _ S₃ T₃ => ?_)
  obtain ⟨p₃, rfl⟩ := p₃
  obtain ⟨oC, esC, epC, hoC, rC⟩ := hn
  refine ⟨M, ⟨oC, esC, epC, T₃.keep _ _ hoC qC' hCL, rC⟩, fun h₄ hs₄ => ?_⟩
  have k₄ : ∀ b o, b ≠ C → h₃.get? b = some o → h₄.get? b = some o := fun b o hb e => (hs₄.2 b hb).trans e
  exact c _ _ _ _ h₄ tk₃ p₃ .next (S₃.but qC' hCL hgC k₄) (T₁.trans ((T''.trans T₃).but h0C k₄))
end
end Mine

namespace Mine
open PySem PySem.W PyProof.Rows

section
variable {prog : Program} {w : World} {K : Frag} {g : Heap} {A : Around} {env : Env} {m : Loc} {σ : AH}

/-! calls of attributes -/
noncomputable def ACallee (prog : Program) (w : World) (g : Heap) (A : Around) (env : Env) (few : Bool) (o : Expr) (name : Str) (ov : V) (m : Loc) (σ : AH) (Φ : V → List V → Loc → AH → Prop) : Prop :=
  ∀ a, VR ov a → AW prog w g (fun (p : V × List V) (q : Value × List Value) => VR p.1 q.1 ∧ VRs p.2 q.2) A env.locals (calleeOf few o env a name) m σ fun p => Φ p.1 p.2

noncomputable abbrev KM3 (prog : Program) (w : World) (g : Heap) (A : Around) (env : Env) (f : V) (first : List V) (Φ : V → Loc → AH → Prop) : List V → List (Str × V) → Loc → AH → Prop := fun vs ks m₃ σ₃ => ACall prog w g A env.locals f (first ++ vs) ks m₃ σ₃ Φ
noncomputable abbrev KM2 (prog : Program) (w : World) (g : Heap) (A : Around) (env : Env) (args : List Expr) (kws : List Keyword) (Φ : V → Loc → AH → Prop) : V → List V → Loc → AH → Prop := fun f first m₂ σ₂ => AEArgs prog w g A env args kws m₂ σ₂ (KM3 prog w g A env f first Φ)
noncomputable abbrev KM1 (prog : Program) (w : World) (g : Heap) (A : Around) (env : Env) (few : Bool) (o : Expr) (name : Str) (args : List Expr) (kws : List Keyword) (Φ : V → Loc → AH → Prop) : V → Loc → AH → Prop := fun ov m₁ σ₁ => ACallee prog w g A env few o name ov m₁ σ₁ (KM2 prog w g A env args kws Φ)
theorem E_CallAttr {o : Expr} {name : Str} {apos : Pos} {args : List Expr} {kws : List Keyword} {pos : Pos} {few : Bool} {Φ : V → Loc → AH → Prop}
    (hform : methodCallForm (args.length + kws.length) (backTo pos (starEach args env)) (backToKw pos (keywordEach kws env)) = few)
    (h : AE prog w g A env o m σ (KM1 prog w g A env few o name args kws Φ))
    (hbase : attributeBase o name env (eval o env) = eval o env := by kernel_rfl!) (hline : (apos.endLine == pos.line) = true := by kernel_rfl!) :
    AE prog w g A env (.Call (.Attribute o name apos) args kws pos) m σ Φ := fun s Q E S c => by
  rw [arm_eval_Call, hbase]
  refine wpAny_bind (h s _ E S fun ov a m₁ σ₁ h₁ tk p r S₁ T₁ => wpAny_bind (wpAny_standAt ?_))
  have hpos : methodCallPos few o env apos pos = pure pos := by unfold methodCallPos; simp [hline]
  unfold methodCall
  rw [hform]
  refine wpAny_bind (wpAny_holding (p a r { s with heap := h₁, toks := tk } _ E S₁ fun fp q m₂ σ₂ h₂ tk₂ p₂ r₂ S₂ T₂ => ?_))
  obtain ⟨f', first'⟩ := q
  obtain ⟨rf, rfs⟩ := r₂
  refine wpAny_bind (wpAny_of_eq hpos (callWith_wp ?_))
  refine p₂ f' pos { s with heap := h₂, toks := tk₂ } _ E S₂ fun pk b m₃ σ₃ h₃ tk₃ p₃ r₃ S₃ T₃ => ?_
  obtain ⟨k, cl⟩ := p₃ f' (first' ++ b.pos) b.kw rf (rfs.append r₃.1) r₃.2
  refine k { s with heap := h₃, toks := tk₃ } _ E S₃ fun _ _ m₄ σ₄ h₄ tk₄ p₄ _ S₄ T₄ => ?_
  obtain ⟨rfl, rfl⟩ := p₄
  exact cl { s with heap := h₄, toks := tk₄ } _ E S₄ fun v x m₅ σ₅ h₅ tk₅ p₅ r₅ S₅ T₅ => c _ _ _ _ h₅ tk₅ p₅ r₅ S₅ (T₁.trans (T₂.trans (T₃.trans (T₄.trans T₅))))

theorem callee_list {o : Expr} {name : Str} {id : String} {l : Addr} {xs : List V} {Φ : V → List V → Loc → AH → Prop} (hl : σ l = some (.list xs)) (slot : Slot "list" name id) (hty : typeOf (.builtin id) = pure (.type "method_descriptor"))
    (h : Φ (.blt id) [.ref l] m σ) : ACallee prog w g A env true o name (.ref l) m σ Φ := fun a r s Q E S c => by
  cases r
  obtain ⟨items, ⟨n, hp⟩, _⟩ := S.plist hl
  exact getMethod_builtin ⟨_, hp, rfl⟩ F.plainAttrs_list slot hty (fun a e => by cases e; exact ⟨_, hp, rfl⟩) (c (.blt id, [.ref l]) _ _ _ s.heap s.toks h ⟨.blt _, .cons (.ref _) .nil⟩ S (Tr.refl ..))

/-! expression statements -/
theorem X_Expr {e : Expr} {pos : Pos} {Φ : F → Loc → AH → Prop} (h : AE prog w g A env e m σ fun _ m₁ σ₁ => Φ .next m₁ σ₁)
    (hi : interactive env = false := by kernel_rfl!) (hs : swapsWith e none pos.line env = pure false := by kernel_rfl!) : AX prog w g A env (.Expr e pos) m σ Φ := fun s Q E S c =>
  wpAny_Expr_any (h s _ E S fun v a m₁ σ₁ h₁ tk p r S₁ T₁ => c _ _ _ _ h₁ tk p .next S₁ T₁) hi hs

/-! unary, boolean -/
theorem E_Neg {e : Expr} {pos : Pos} {Φ : V → Loc → AH → Prop} (h : AE prog w g A env e m σ fun v m₁ σ₁ => ∃ i, v = .int i ∧ Φ (.int (-i)) m₁ σ₁) : AE prog w g A env (.UnaryOp .USub e pos) m σ Φ := fun s Q E S c => by
  refine wpAny_UnaryOp (h s _ E S fun v a m₁ σ₁ h₁ tk p r S₁ T₁ => ?_)
  obtain ⟨i, rfl, p⟩ := p
  cases r
  exact P.neg_int (c _ _ _ _ h₁ _ p (.int ..) S₁ T₁)
theorem T_Not {e : Expr} {pos : Pos} {Φ : Bool → Loc → AH → Prop} (h : AT prog w g A env e m σ fun b m₁ σ₁ => Φ (!b) m₁ σ₁) : AT prog w g A env (.UnaryOp .Not e pos) m σ Φ := fun s Q E S c =>
  wpAny_isTrue_Not (h s _ E S fun b a m₁ σ₁ h₁ tk p r S₁ T₁ => c _ _ _ _ h₁ tk p (by rw [r]) S₁ T₁)
theorem T_Value {e : Expr} {Φ : Bool → Loc → AH → Prop} (h : AE prog w g A env e m σ (KTr prog w g A env Φ))
    (he : isTrue e env (eval e env) = (do let v ← eval e env; standAt e.pos; holding [v] (truthy v)) := by rfl) : AT prog w g A env e m σ Φ := fun s Q E S c =>
  wpAny_isTrue_value (h s _ E S fun v a m₁ σ₁ h₁ tk p r S₁ T₁ => p a r { s with heap := h₁, toks := tk } _ E S₁ fun b b' m₂ σ₂ h₂ tk₂ p₂ r₂ S₂ T₂ => c _ _ _ _ h₂ tk₂ p₂ r₂ S₂ (T₁.trans T₂)) he
noncomputable def AAll (prog : Program) (w : World) (g : Heap) (A : Around) (env : Env) (op : BoolOp) (es : List Expr) (m : Loc) (σ : AH) (Φ : Bool → Loc → AH → Prop) : Prop := AW prog w g Eq A env.locals (allTrue op es env) m σ Φ
theorem T_BoolOp {op : BoolOp} {es : List Expr} {pos : Pos} {Φ : Bool → Loc → AH → Prop} (h : AAll prog w g A env op es m σ Φ) : AT prog w g A env (.BoolOp op es pos) m σ Φ := fun s Q E S c => wpAny_isTrue_BoolOp (h s Q E S c)
theorem all_Or_nil {Φ : Bool → Loc → AH → Prop} (h : Φ false m σ) : AAll prog w g A env .Or [] m σ Φ := fun s Q E S c => wpAny_allTrue_Or_nil (c _ _ _ _ s.heap s.toks h rfl S (Tr.refl ..))
theorem all_And_nil {Φ : Bool → Loc → AH → Prop} (h : Φ true m σ) : AAll prog w g A env .And [] m σ Φ := fun s Q E S c => wpAny_allTrue_And_nil (c _ _ _ _ s.heap s.toks h rfl S (Tr.refl ..))
theorem all_Or {e : Expr} {es : List Expr} {Φ : Bool → Loc → AH → Prop} (h : AT prog w g A env e m σ fun b m₁ σ₁ => (b = true → Φ true m₁ σ₁) ∧ (b = false → AAll prog w g A env .Or es m₁ σ₁ Φ)) : AAll prog w g A env .Or (e :: es) m σ Φ := fun s Q E S c => by
  refine wpAny_allTrue_Or_cons (h s _ E S fun b a m₁ σ₁ h₁ tk p r S₁ T₁ => ?_)
  subst r
  cases b with
  | true => exact c _ _ _ _ h₁ tk (p.1 rfl) rfl S₁ T₁
  | false => exact p.2 rfl { s with heap := h₁, toks := tk } _ E S₁ fun b b' m₂ σ₂ h₂ tk₂ p₂ r₂ S₂ T₂ => c _ _ _ _ h₂ tk₂ p₂ r₂ S₂ (T₁.trans T₂)
theorem all_And {e : Expr} {es : List Expr} {Φ : Bool → Loc → AH → Prop} (h : AT prog w g A env e m σ fun b m₁ σ₁ => (b = false → Φ false m₁ σ₁) ∧ (b = true → AAll prog w g A env .And es m₁ σ₁ Φ)) : AAll prog w g A env .And (e :: es) m σ Φ := fun s Q E S c => by
  refine wpAny_allTrue_And_cons (h s _ E S fun b a m₁ σ₁ h₁ tk p r S₁ T₁ => ?_)
  subst r
  cases b with
  | false => exact c _ _ _ _ h₁ tk (p.1 rfl) rfl S₁ T₁
  | true => exact p.2 rfl { s with heap := h₁, toks := tk } _ E S₁ fun b b' m₂ σ₂ h₂ tk₂ p₂ r₂ S₂ T₂ => c _ _ _ _ h₂ tk₂ p₂ r₂ S₂ (T₁.trans T₂)

theorem tr_list {l : Addr} {xs : List V} {Φ : Bool → Loc → AH → Prop} (hl : σ l = some (.list xs)) (hz : xs.length < 2 ^ 62) (h : Φ (!xs.isEmpty) m σ) : A1 prog w g A env truthy Eq (.ref l) m σ Φ := fun a r s Q E S c => by
  cases r
  obtain ⟨items, hi, rs⟩ := S.list hl
  have e : items.size = xs.length := by rw [← Array.length_toList]; exact rs.length
  refine wpAny_truthy_list hi (by rw [e]; omega) (c _ _ _ _ s.heap _ h ?_ S (Tr.refl ..))
  unfold Array.isEmpty
  cases xs with
  | nil => rw [e]; rfl
  | cons x xs => rw [e]; rfl
theorem tr_None {Φ : Bool → Loc → AH → Prop} (h : Φ false m σ) : A1 prog w g A env truthy Eq .none m σ Φ := fun a r s Q E S c => by
  cases r
  exact AW.pure (prog := prog) (w := w) (g := g) (A := A) (L := env.locals) (R := Eq) (m := m) (σ := σ) (Φ := Φ) rfl h s Q E S c

/-! list methods -/
theorem VRs.take {l : List V} {l' : List Value} (r : VRs l l') : ∀ i, VRs (l.take i) (l'.take i) := by
  induction r with
  | nil => intro i; simp; exact .nil
  | cons h _ ih =>
    intro i
    cases i with
    | zero => exact .nil
    | succ i => exact .cons h (ih i)
theorem VRs.drop {l : List V} {l' : List Value} (r : VRs l l') : ∀ i, VRs (l.drop i) (l'.drop i) := by
  induction r with
  | nil => intro i; simp; exact .nil
  | cons h r ih =>
    intro i
    cases i with
    | zero => exact .cons h r
    | succ i => exact ih i
section
variable {L : Addr}
theorem call_list_insert {l : Addr} {xs : List V} {i : Nat} {v : V} {Φ : V → Loc → AH → Prop} (hl : σ l = some (.list xs)) (hi : i ≤ xs.length) (hz : xs.length ≤ sizeLine) (h : Φ .none m (σ.set l (.list (xs.take i ++ v :: xs.drop i)))) :
    ACall prog w g A L (.blt "list.insert") [.ref l, .int (i : Int), v] [] m σ Φ := by
  intro f' pos' kw' r rs rk
  obtain rfl := r.f
  obtain rfl := rk.n
  obtain ⟨_, _, rfl, r1, rs⟩ := rs.c
  obtain ⟨_, _, rfl, r2, rs⟩ := rs.c
  obtain ⟨y, _, rfl, rv, rs⟩ := rs.c
  obtain rfl := rs.n
  obtain rfl := r1.r
  obtain ⟨t, rfl⟩ := r2.i
  refine ⟨keeper_blt, fun s Q E S c => ?_⟩
  obtain ⟨items, ⟨n, hp⟩, rx⟩ := S.plist hl
  have e : items.size = xs.length := by rw [← Array.length_toList]; exact rx.length
  have hz' : items.size ≤ sizeLine := by rw [e]; exact hz
  have hfit : Builtin.List.listFitsIndex (i : Int) = true := fitsIndex_of (Int.natCast_nonneg _) (by have := sizeLine_eq; omega)
  have h0 : 0 ≤ (i : Int) := Int.natCast_nonneg _
  have hit : (i : Int).toNat = i := by simp
  generalize (i : Int) = x at hfit h0 hit
  have mt := AutoSeq1.list_insert_list_int_val_1 l items n x t y (by rw [hfit]; decide) hz'
  have hs : Heap.SameBut l s.heap (s.heap.update l (Obj.mapSeq fun xs => have k := if x < 0 then (x + (xs.size : Int)).toNat else min x.toNat xs.size; (xs.extract 0 k).push y ++ xs.extract k)) := Heap.SameBut.update ..
  refine call_meets F.slot_list_insert ⟨_, hp, rfl⟩ F.entry_list_insert (F.args_list_insert_3 _ _ _) mt ⟨hp, ?_⟩
  refine c _ _ _ _ _ s.toks h .none (S.upd hl hs (PySem.IsL.update hp _) ⟨_, _, rfl, ?_⟩) (Tr.upd hl hs)
  have hk : (if x < 0 then (x + (items.size : Int)).toNat else min x.toNat items.size) = i := by
    rw [if_neg (by omega), e, hit]; omega
  show VRs _ ((items.extract 0 (if x < 0 then (x + (items.size : Int)).toNat else min x.toNat items.size)).push y ++ items.extract (if x < 0 then (x + (items.size : Int)).toNat else min x.toNat items.size)).toList
  rw [hk]
  have e2 : ((items.extract 0 i).push y ++ items.extract i).toList = items.toList.take i ++ y :: items.toList.drop i := by
    simp
    rw [List.take_of_length_le (by simp)]
  rw [e2]
  exact (rx.take i).append (.cons rv (rx.drop i))
end
end
end Mine

namespace Mine
open PySem PySem.W PyProof.Rows

section
variable {g : Heap} {L : Addr} {m : Loc} {σ : AH} {h h' : Heap}
theorem Sim.updE (S : Sim g L m σ h) {a : Addr} {o o' : O} (ha : σ a = some o) (hs : ∀ b x, b ≠ a → h.get? b = some x → h'.get? b = some x) {ob : Obj} (hb : h'.get? a = some ob) (hr : OR o' ob) : Sim g L m (σ.set a o') h' := by
  have hg := S.off a (by rw [ha]; simp)
  refine ⟨fun b x e => hs b x (fun q => by subst q; rw [hg] at e; cases e) (S.base b x e), S.gL, ?_, fun b e => ?_, ?_, fun b x e => ?_⟩
  · rw [AH.set_ne _ _ (Ne.symm (S.ne ha))]; exact S.offL
  · by_cases q : b = a
    · subst q; exact hg
    · rw [AH.set_ne _ _ q] at e; exact S.off b e
  · obtain ⟨M, ⟨o, es, ep, ho, r⟩, q2⟩ := S.ns
    exact ⟨M, ⟨o, es, ep, hs _ _ (Ne.symm (S.ne ha)) ho, r⟩, q2⟩
  · by_cases q : b = a
    · subst q; rw [AH.set_self] at e; cases e; exact ⟨ob, hb, hr⟩
    · rw [AH.set_ne _ _ q] at e
      obtain ⟨y, q1, q2⟩ := S.fit b x e
      exact ⟨y, hs _ _ q q1, q2⟩
theorem Tr.updE {a : Addr} {o o' : O} (ha : σ a = some o) (hs : ∀ b x, b ≠ a → h.get? b = some x → h'.get? b = some x) : Tr L σ (σ.set a o') h h' := by
  refine ⟨fun b x e q _ => hs b x (fun z => by subst z; rw [ha] at q; cases q) e, fun b e => ?_⟩
  by_cases q : b = a
  · subst q; exact .inl (by rw [ha]; simp)
  · rw [AH.set_ne _ _ q] at e; exact .inl e
theorem Sim.know (S : Sim g L m σ h) {a : Addr} {o : O} {ob : Obj} (hb : h.get? a = some ob) (hr : OR o ob) (hg : g.get? a = none) (hL : a ≠ L) : Sim g L m (σ.set a o) h := by
  refine ⟨S.base, S.gL, ?_, fun b e => ?_, S.ns, fun b x e => ?_⟩
  · rw [AH.set_ne _ _ (Ne.symm hL)]; exact S.offL
  · by_cases q : b = a
    · subst q; exact hg
    · rw [AH.set_ne _ _ q] at e; exact S.off b e
  · by_cases q : b = a
    · subst q; rw [AH.set_self] at e; cases e; exact ⟨ob, hb, hr⟩
    · rw [AH.set_ne _ _ q] at e; exact S.fit b x e
theorem Tr.know {σ' : AH} {a : Addr} {o : O} (T : Tr L σ σ' h h') (ha : h.get? a = none) (hL : a ≠ L) : Tr L σ (σ'.set a o) h h' := by
  refine ⟨T.keep, fun b e => ?_⟩
  by_cases q : b = a
  · subst q; exact .inr ⟨ha, hL⟩
  · rw [AH.set_ne _ _ q] at e; exact T.fresh b e
theorem Sim.liveL (S : Sim g L m σ h) : ∃ o, h.get? L = some o := let ⟨_, ⟨o, _, _, ho, _⟩, _⟩ := S.ns; ⟨o, ho⟩
theorem Sim.neL (S : Sim g L m σ h) {a : Addr} (ha : h.get? a = none) : a ≠ L := fun z => by
  obtain ⟨o, ho⟩ := S.liveL
  rw [z, ho] at ha; cases ha
theorem Sim.gN (S : Sim g L m σ h) {a : Addr} (ha : h.get? a = none) : g.get? a = none := by
  cases q : g.get? a with
  | none => rfl
  | some o => rw [S.base _ _ q] at ha; cases ha
theorem Sim.σN (S : Sim g L m σ h) {a : Addr} (ha : h.get? a = none) : σ a = none := by
  cases q : σ a with
  | none => rfl
  | some o => obtain ⟨ob, ho, _⟩ := S.fit _ _ q; rw [ho] at ha; cases ha
end

/-- the code's table of inner codes -/
noncomputable def TabOk (σ : AH) (P : Addr) (q : Str) : Prop := ∃ ts, σ P = some (.tab ts) ∧ ∀ t ∈ ts, σ t.2.2 = some (.code q) ∧ t.2.2 ≠ P
/-- all but P stands -/
noncomputable def ExtP (P : Addr) (σ σ' : AH) : Prop := ∀ a o, a ≠ P → σ a = some o → σ' a = some o

theorem triples_tab (ts : List (Nat × Nat × Addr)) : TriplesOk (tabL ts) := by
  induction ts with
  | nil => trivial
  | cons t r ih => exact ih
theorem among_tab {pos : Pos} {cv : Value} (ts : List (Nat × Nat × Addr)) (h : codeAmong pos (tabL ts) = some cv) : ∃ t ∈ ts, cv = .ref t.2.2 := by
  induction ts with
  | nil => cases h
  | cons t r ih =>
    have e : tabL (t :: r) = rawInt t.1 :: rawInt t.2.1 :: .ref t.2.2 :: tabL r := rfl
    rw [e] at h
    unfold codeAmong rawInt at h
    dsimp only at h
    split at h
    · cases h; exact ⟨t, List.mem_cons_self .., rfl⟩
    · obtain ⟨t', ht, e⟩ := ih h
      exact ⟨t', List.mem_cons_of_mem _ ht, e⟩
theorem tabL_snoc (ts : List (Nat × Nat × Addr)) (l c : Nat) (a : Addr) : (tabL ts).toArray ++ #[rawInt l, rawInt c, .ref a] = (tabL (ts ++ [(l, c, a)])).toArray := by
  unfold tabL
  rw [List.flatMap_append]
  simp

section
variable {prog : Program} {w : World} {K : Frag} {g : Heap} {A : Around} {env : Env} {m : Loc} {σ : AH}

theorem E_Lambda (G : Gd K g) {args : Arguments} {body : Expr} {scope : Scope} {pos : Pos} {cl : List (Str × Addr)} {c P : Addr} {q : Str} {Φ : V → Loc → AH → Prop}
    (hcl : closureFor scope env = pure cl) (hcode : env.code = .ref c) (C : CodeHd g c P) (ht : TabOk σ P q)
    (h : ∀ σ' f c', ExtP P σ σ' → TabOk σ' P q → σ' f = some (.lam q args body scope cl c') → σ' c' = some (.code q) → σ f = none → Φ (.ref f) m σ')
    (hq : env.qual ++ ("<lambda>" : Str) = q := by kernel_rfl!) (hdef : defaultsOf args env = ([], []) := by kernel_rfl!) (hglob : env.globals = mainGlobals := by kernel_rfl!) : AE prog w g A env (.Lambda args body scope pos) m σ Φ := fun s Q E S k => by
  obtain ⟨ts, hP, hts⟩ := ht
  obtain ⟨mg, hmg, bm, ob, b1, b2, b3, b4, b5, b6⟩ := G.gl
  obtain ⟨oP, hoP, rfl⟩ := S.fit _ _ hP
  have gP := S.off P (by rw [hP]; simp)
  have hgP : mainGlobals ≠ P := fun z => by
    obtain ⟨o, es, ep, e, _⟩ := hmg
    rw [z, gP] at e; cases e
  have hbP : bm ≠ P := fun z => by rw [z, gP] at b3; cases b3
  have hbG : bm ≠ mainGlobals := fun z => by
    obtain ⟨o, es, ep, e, hd, _⟩ := hmg
    rw [z, e] at b3; cases b3; rw [hd] at b6; cases b6
  have hg' := hmg.keeps S.base
  have hb : s.heap.BuiltinsAt mg P := ⟨bm, ob, b1, b2, hbG, hbP, S.base _ _ b3, b4, b5, b6⟩
  have C' := C.keeps S.base
  have step : wpAny (model prog w) A (makeFunction "<lambda>" (env.qual ++ ("<lambda>" : Str)) args (.expr body) scope env [] [] [] pos pos.line) Q E s := by
    rw [hq]
    cases hf : codeAmong pos (tabL ts) with
    | some cv =>
      obtain ⟨t, htm, rfl⟩ := among_tab ts hf
      obtain ⟨hcode', hne⟩ := hts t htm
      refine kla_makeFunctionHit hcl hglob hg' hcode C' hoP (triples_tab ts) hf hb fun ctv h' tk hk _ => ?_
      have S' := S.grow hk
      refine k (.ref h'.objs.size) _ m _ _ tk (h (σ.set h'.objs.size (.lam q args body scope cl t.2.2)) h'.objs.size t.2.2 (fun a o _ e => ?_) ⟨ts, ?_, fun t' ht' => ?_⟩ (AH.set_self ..) ?_ (S'.fresh)) (.ref _)
        (S'.alloc (o := .lam q args body scope cl t.2.2) rfl ⟨_, _, rfl⟩) ((Tr.grow hk).trans (Tr.alloc S'))
      · rw [AH.set_ne _ _ (fun z => by rw [z, S'.fresh] at e; cases e)]; exact e
      · rw [AH.set_ne _ _ (fun z => by rw [z, S'.fresh] at hP; cases hP)]; exact hP
      · obtain ⟨e, hne'⟩ := hts t' ht'
        exact ⟨by rw [AH.set_ne _ _ (fun z => by rw [z, S'.fresh] at e; cases e)]; exact e, hne'⟩
      · rw [AH.set_ne _ _ (fun z => by rw [z, S'.fresh] at hcode'; cases hcode')]; exact hcode'
    | none =>
      refine kla_makeFunction hcl hglob hg' hcode C' hoP (triples_tab ts) hf hgP hb fun c' ctv h' tk hx hge hlt hrec htb => ?_
      have hx' : ∀ b x, b ≠ P → s.heap.get? b = some x → h'.get? b = some x := fun b x hb e => hx b x hb e
      have sN : s.heap.get? c' = none := by
        cases z : s.heap.get? c' with
        | none => rfl
        | some o => exact absurd (Heap.lt_size z) (Nat.not_lt.mpr hge)
      rw [tabL_snoc] at htb
      have S₁ := S.updE (o' := .tab (ts ++ [(pos.line, pos.col, c')])) hP hx' htb rfl
      have T₁ : Tr env.locals σ (σ.set P (.tab (ts ++ [(pos.line, pos.col, c')]))) s.heap h' := Tr.updE hP hx'
      obtain ⟨cc, oc, vs, tq, ecc, hoc, hdc, hqc⟩ := hrec
      cases ecc
      have hcP : c' ≠ P := fun z => by rw [z, hoP] at sN; cases sN
      have S₂ := S₁.know (o := .code q) hoc ⟨vs, tq, hdc, hqc⟩ (S.gN sN) (S.neL sN)
      have T₂ := T₁.know (o := .code q) sN (S.neL sN)
      have S₃ := S₂.alloc (o := .lam q args body scope cl c') (ob := kla_obj "<lambda>" q args body scope cl ((mg "__name__").getD .none) c' ctv) rfl ⟨_, _, rfl⟩
      have T₃ := T₂.trans (Tr.alloc S₂ (o := .lam q args body scope cl c') (ob := kla_obj "<lambda>" q args body scope cl ((mg "__name__").getD .none) c' ctv))
      generalize hff : h'.objs.size = f at S₃ T₃ ⊢
      have fN : h'.get? f = none := hff ▸ size_none _
      have neF : ∀ a o, s.heap.get? a = some o → a ≠ f := fun a o e z => by
        by_cases zP : a = P
        · rw [← z, zP, htb] at fN; cases fN
        · rw [← z, hx' a o zP e] at fN; cases fN
      have cF : c' ≠ f := fun z => by rw [z, fN] at hoc; cases hoc
      have PF : P ≠ f := neF _ _ hoP
      refine k (.ref f) _ m _ _ tk (h _ f c' (fun a o hne e => ?_) ⟨ts ++ [(pos.line, pos.col, c')], ?_, fun t' ht' => ?_⟩ (AH.set_self ..) ?_ ?_) (.ref _) S₃ T₃
      · obtain ⟨oa, hoa, _⟩ := S.fit _ _ e
        rw [AH.set_ne _ _ (neF _ _ hoa), AH.set_ne _ _ (fun z => by rw [z, sN] at hoa; cases hoa), AH.set_ne _ _ hne]
        exact e
      · rw [AH.set_ne _ _ PF, AH.set_ne _ _ (Ne.symm hcP), AH.set_self]
      · rcases List.mem_append.mp ht' with y | y
        · obtain ⟨e, hne'⟩ := hts t' y
          obtain ⟨oa, hoa, _⟩ := S.fit _ _ e
          exact ⟨by rw [AH.set_ne _ _ (neF _ _ hoa), AH.set_ne _ _ (fun z => by rw [z, sN] at hoa; cases hoa), AH.set_ne _ _ hne']; exact e, hne'⟩
        · rw [List.mem_singleton.mp y]
          exact ⟨by rw [AH.set_ne _ _ cF, AH.set_self], hcP⟩
      · rw [AH.set_ne _ _ cF, AH.set_self]
      · cases z : σ f with
        | none => rfl
        | some o => obtain ⟨oa, hoa, _⟩ := S.fit _ _ z; exact absurd rfl (neF _ _ hoa)
  have e0 : eval (.Lambda args body scope pos) env = (do
      let (d, kd) := defaultsOf args env
      let dv ← evalAll d
      let kdv ← holding dv (evalAllOpt kd)
      makeFunction "<lambda>" (env.qual ++ ("<lambda>" : Str)) args (.expr body) scope env dv kdv [] pos pos.line) := rfl
  rw [e0, hdef]
  exact wpAny_bind (wpAny_pure (wpAny_bind (wpAny_pure step)))

theorem call_lam (G : Gd K g) {L f c' : Addr} {q x : Str} {params : Arguments} {body : Expr} {scope : Scope} {cl : List (Str × Addr)} {v : V} {Φ : V → Loc → AH → Prop} (hA : A.depth < recursionLimit)
    (hf : σ f = some (.lam q params body scope cl c')) (hc : σ c' = some (.code q))
    (hb : ∀ pm ctv v', bindArgs (kla_fn "<lambda>" q params body scope cl pm (.ref c') ctv) ⟨[v'], []⟩ = pure [(x, v')])
    (h : ∀ L' pm ctv, AE prog w g (A.deeper (callEnv (kla_fn "<lambda>" q params body scope cl pm (.ref c') ctv) L' f)) (callEnv (kla_fn "<lambda>" q params body scope cl pm (.ref c') ctv) L' f) body [(x, v)] σ fun v' _ σ' => ∃ σ'', Sub σ'' σ' ∧ Φ v' m σ'')
    (hcell : (scope.names.all fun x => !(x.2 == .cell)) = true := by kernel_rfl!) (hx : scope.names.lookup x = some .local := by kernel_rfl!) (hco : scope.isCoroutine = false := by kernel_rfl!) (hgen : scope.isGenerator = false := by kernel_rfl!) (hk : scope.kind = .function := by kernel_rfl!) :
    ACall prog w g A L (.ref f) [v] [] m σ Φ := by
  intro f' pos' kw' r rs rk
  obtain rfl := r.r
  obtain ⟨v', _, rfl, rv, rs⟩ := rs.c
  obtain rfl := rs.n
  obtain rfl := rk.n
  refine ⟨fun s Q E S c => ?_, fun s Q E S c => ?_⟩
  · obtain ⟨of, hof, pm, ctv, rfl⟩ := S.fit _ _ hf
    unfold keeperOf
    refine wpAny_bind (wpAny_load hof ?_)
    exact wpAny_pure (c () _ _ _ s.heap s.toks ⟨rfl, rfl⟩ trivial S (Tr.refl ..))
  · obtain ⟨of, hof, pm, ctv, rfl⟩ := S.fit _ _ hf
    obtain ⟨oc, hoc, vs, t, hd, h1⟩ := S.fit _ _ hc
    refine wpAny_call (kla_callFunE (fd := kla_fn "<lambda>" q params body scope cl pm (.ref c') ctv) hA hof rfl hco hgen rfl ⟨c', oc, vs, t, rfl, hoc, hd, h1⟩ ?_)
    rw [hb]
    refine wpAny_pure (wpAny_newFunctionEnv (fun y hy e => by have := List.all_eq_true.mp hcell y hy; rw [e] at this; cases this) (by intro y hy; rw [List.mem_singleton.mp hy]; exact hx) (fun h₁ hns hsb => ⟨(G.nolimit.keeps S.base).fresh _ hsb, kla_codeExpr ?_⟩) hk)
    have hk₁ : ∀ b o, s.heap.get? b = some o → h₁.get? b = some o := fun b o e => hsb.extBut b o (Nat.ne_of_lt (Heap.lt_size e)) (Heap.get?_push_of_some _ e)
    have S₁ : Sim g (callEnv (kla_fn "<lambda>" q params body scope cl pm (.ref c') ctv) s.heap.objs.size f).locals [(x, v)] σ h₁ := by
      refine ⟨fun b o e => hk₁ _ _ (S.base b o e), S.gfresh (Nat.le_refl _), S.fresh, S.off, ⟨_, hns, ?_⟩, fun a o e => ?_⟩
      · exact (KRs.cons rv .nil).reverse.lookup
      · obtain ⟨ob, x, y⟩ := S.fit a o e
        exact ⟨ob, hk₁ _ _ x, y⟩
    refine h s.heap.objs.size pm ctv { s with heap := h₁, toks := s.toks + [(x, v')].length } _ _ S₁ fun v₁ x₁ m' σ' h' tk p r S' T' => ?_
    obtain ⟨σ'', hsub, p⟩ := p
    obtain ⟨S'', T''⟩ := S.back hk₁ (fun a e => .inl e) (size_none _) S' T'
    exact c _ _ _ _ h' tk p r (S''.forget hsub) (T''.forget hsub)
end
end Mine

namespace Mine
open PySem PySem.W PyProof.Rows

/-- the block of a def that has cells -/
noncomputable def envC (fd : FuncData) (L f : Addr) (cs : List (Str × Addr)) : Env := newEnv fd.scope L fd.globals cs (fd.qualname ++ ".<locals>.") (some f) fd.code none fd.builtins

theorem cells_names : ∀ (names : List (Str × NameKind)) (n n' : Nat) (acc acc' : List (Str × Addr)), acc.map (·.1) = acc'.map (·.1) → (cellsFrom n names acc).map (·.1) = (cellsFrom n' names acc').map (·.1)
  | [], _, _, _, _, h => h
  | (x, k) :: r, n, n', acc, acc', h => by
    unfold cellsFrom
    split
    · exact cells_names r _ _ _ _ (by simp [h])
    · exact cells_names r _ _ _ _ h

noncomputable def isLoc (names : List (Str × NameKind)) (x : Str) : Bool := names.lookup x == some .local

theorem bindL_eq {kind : Str → Option NameKind} {names : List (Str × NameKind)} (hkn : ∀ x, kind x = names.lookup x) : ∀ (binds : List (Str × Value)) (m0 : Str → Option Value) (x : Str),
    bindL kind binds m0 x = ((binds.filter fun p => isLoc names p.1).reverse.lookup x).or (m0 x)
  | [], m0, x => rfl
  | (n, v) :: r, m0, x => by
    unfold bindL
    rw [bindL_eq hkn r]
    by_cases h : isLoc names n = true
    · have h' : kind n = some .local := by rw [hkn]; exact beq_iff_eq.mp h
      rw [if_pos h', List.filter_cons_of_pos (p := fun p : Str × Value => isLoc names p.1) (a := (n, v)) h, List.reverse_cons, List.lookup_append, Option.or_assoc]
      congr 1
      by_cases e : x = n
      · subst e; rw [if_pos rfl, List.lookup_cons, beq_self_eq_true]; rfl
      · rw [if_neg e, List.lookup_cons, beq_eq_false_iff_ne.mpr e]; rfl
    · have h' : ¬ kind n = some .local := by rw [hkn]; exact fun e => h (beq_iff_eq.mpr e)
      rw [if_neg h', List.filter_cons_of_neg (p := fun p : Str × Value => isLoc names p.1) (a := (n, v)) h]
theorem bindC_eq {kind : Str → Option NameKind} {names : List (Str × NameKind)} (hkn : ∀ x, kind x = names.lookup x) : ∀ (binds : List (Str × Value)) (m0 : Str → Option Value) (x : Str),
    bindC kind binds m0 x = ((binds.filter fun p => !isLoc names p.1).reverse.lookup x).or (m0 x)
  | [], m0, x => rfl
  | (n, v) :: r, m0, x => by
    unfold bindC
    rw [bindC_eq hkn r]
    by_cases h : isLoc names n = true
    · have h' : kind n = some .local := by rw [hkn]; exact beq_iff_eq.mp h
      rw [if_pos h', List.filter_cons_of_neg (by simp [h])]
    · have h' : ¬ kind n = some .local := by rw [hkn]; exact fun e => h (beq_iff_eq.mpr e)
      rw [if_neg h', List.filter_cons_of_pos (by simp [h]), List.reverse_cons, List.lookup_append, Option.or_assoc]
      congr 1
      by_cases e : x = n
      · subst e; rw [if_pos rfl, List.lookup_cons, beq_self_eq_true]; rfl
      · rw [if_neg e, List.lookup_cons, beq_eq_false_iff_ne.mpr e]; rfl
theorem KRs.filter {l : Loc} {l' : List (Str × Value)} (r : KRs l l') (p : Str → Bool) : KRs (l.filter fun x => p x.1) (l'.filter fun x => p x.1) := by
  induction r with
  | nil => exact .nil
  | @cons k v x vs xs h _ ih =>
    by_cases q : p k = true
    · rw [List.filter_cons_of_pos (by simpa using q), List.filter_cons_of_pos (by simpa using q)]; exact .cons h ih
    · rw [List.filter_cons_of_neg (by simpa using q), List.filter_cons_of_neg (by simpa using q)]; exact ih
theorem KRs.lookupO {l : Loc} {l' : List (Str × Value)} (r : KRs l l') (x : Str) : VRo (l.lookup x) (l'.lookup x) := by
  induction r with
  | nil => exact .none
  | @cons k v y vs xs h _ ih =>
    rw [List.lookup_cons, List.lookup_cons]
    cases x == k with
    | true => exact .some h
    | false => exact ih

noncomputable def setCells (σ : AH) (cs : List (Str × Addr)) (cm : Str → Option V) : AH := fun a => match cs.find? (fun p => p.2 == a) with
  | some p => some (.cell (cm p.1))
  | none => σ a
theorem setCells_get {σ : AH} {cs : List (Str × Addr)} {cm : Str → Option V} (hap : cs.Pairwise fun x y => x.2 ≠ y.2) {p : Str × Addr} (hp : p ∈ cs) : setCells σ cs cm p.2 = some (.cell (cm p.1)) := by
  unfold setCells
  have : cs.find? (fun q => q.2 == p.2) = some p := by
    induction cs with
    | nil => cases hp
    | cons x r ih =>
      obtain ⟨h1, h2⟩ := List.pairwise_cons.mp hap
      rcases List.mem_cons.mp hp with e | e
      · subst e; rw [List.find?_cons_of_pos (by simp)]
      · rw [List.find?_cons_of_neg (by simpa using h1 p e)]; exact ih h2 e
  rw [this]
theorem setCells_off {σ : AH} {cs : List (Str × Addr)} {cm : Str → Option V} {a : Addr} (h : ∀ p ∈ cs, p.2 ≠ a) : setCells σ cs cm a = σ a := by
  unfold setCells
  have : cs.find? (fun q => q.2 == a) = none := by
    rw [List.find?_eq_none]
    intro x hx e
    exact h x hx (by simpa using e)
  rw [this]

theorem cells_cons {a : Str} {r : List Str} {cs : List (Str × Addr)} (h : cs.map (·.1) = a :: r) : ∃ c cs', cs = (a, c) :: cs' ∧ cs'.map (·.1) = r := by
  cases cs with
  | nil => cases h
  | cons p cs =>
    obtain ⟨x, c⟩ := p
    simp only [List.map_cons, List.cons.injEq] at h
    obtain ⟨rfl, h⟩ := h
    exact ⟨c, cs, rfl, h⟩
theorem cells_nil {cs : List (Str × Addr)} (h : cs.map (·.1) = []) : cs = [] := by
  cases cs with
  | nil => rfl
  | cons p cs => cases h

section
variable {prog : Program} {w : World} {K : Frag} {g : Heap} {A : Around} {L : Addr} {m : Loc} {σ : AH}

theorem call_defC (G : Gd K g) {f : Addr} {oc : Value} {od : Option Addr} {fd : FuncData} {osl : Array (Option Value)} {pos : List V} {binds : Loc} {Φ : V → Loc → AH → Prop}
    (hA : A.depth < recursionLimit) (ho : K.lookup f = some ⟨oc, od, .func fd, osl⟩) (hcd : codeIn K fd.code fd.qualname = true) (hbody : fd.body = .stmts (bodyOf fd))
    (hb : ∀ pos', VRs pos pos' → ∃ binds', bindArgs fd ⟨pos', []⟩ = pure binds' ∧ KRs binds binds') (hclo : fd.closure = [])
    (hkind : (binds.all fun x => fd.scope.names.lookup x.1 == some .local || (fd.scope.names.lookup x.1 == some .cell && ((cellsFrom 0 fd.scope.names []).lookup x.1).isSome)) = true)
    (hnd : decide ((cellsFrom 0 fd.scope.names []).map (·.1)).Nodup = true)
    (h : ∀ L' cs σ₁, cs.map (·.1) = (cellsFrom 0 fd.scope.names []).map (·.1) → (cs.Pairwise fun x y => x.2 ≠ y.2) → (∀ p ∈ cs, σ p.2 = none) → Sub σ σ₁ →
      (∀ p ∈ cs, σ₁ p.2 = some (.cell ((binds.filter fun x => !isLoc fd.scope.names x.1).reverse.lookup p.1))) →
      AXs prog w g (A.deeper (envC fd L' f cs)) (envC fd L' f cs) (bodyOf fd) (binds.filter fun x => isLoc fd.scope.names x.1).reverse σ₁ (RetK m Φ))
    (hco : fd.scope.isCoroutine = false) (hgen : fd.scope.isGenerator = false) (hk : fd.scope.kind = .function) :
    ACall prog w g A L (.ref f) pos [] m σ Φ := by
  intro f' pos' kw' r rs rk
  obtain rfl := r.r
  obtain rfl := rk.n
  refine ⟨keeper_fn G ho, fun s Q E S c => ?_⟩
  have X : K.In s.heap := G.inK.keeps S.base
  obtain ⟨binds', hbe, rb⟩ := hb pos' rs
  have lk : ∀ n x, ((cellsFrom n fd.scope.names []).lookup x).isSome = ((cellsFrom 0 fd.scope.names []).lookup x).isSome := fun n x => by
    have e := cells_names fd.scope.names n 0 [] [] rfl
    generalize cellsFrom n fd.scope.names [] = l1 at e
    generalize cellsFrom 0 fd.scope.names [] = l2 at e
    induction l1 generalizing l2 with
    | nil => cases l2 with
      | nil => rfl
      | cons => cases e
    | cons p r ih => cases l2 with
      | nil => cases e
      | cons p' r' =>
        simp only [List.map_cons, List.cons.injEq] at e
        obtain ⟨a1, b1⟩ := p
        obtain ⟨a2, b2⟩ := p'
        obtain ⟨e1, e2⟩ := e
        dsimp only at e1
        subst e1
        rw [List.lookup_cons, List.lookup_cons]
        cases x == a1 with
        | true => rfl
        | false => exact ih r' e2
  refine wpAny_call (codeAny_call_cells (binds := binds') hA (X _ _ ho) rfl (G.nolimit.keeps S.base) (codeRec_of X hcd) hbody hbe hclo ?_ (fun s₁ ic => ?_) hco hgen hk)
  · intro x hx
    have : x.1 ∈ binds'.map (·.1) := List.mem_map_of_mem hx
    rw [rb.names] at this
    obtain ⟨y, hy, e⟩ := List.mem_map.mp this
    rw [← e]
    have z := List.all_eq_true.mp hkind y hy
    rcases Bool.or_eq_true_iff.mp z with z | z
    · exact .inl (beq_iff_eq.mp z)
    · obtain ⟨z1, z2⟩ := Bool.and_eq_true_iff.mp z
      exact .inr ⟨beq_iff_eq.mp z1, by rw [lk]; exact z2⟩
  · have hcs : (callEnvC fd s.heap.objs.size f).cells = cellsFrom (s.heap.objs.size + 1) fd.scope.names [] := rfl
    have henv : callEnvC fd s.heap.objs.size f = envC fd s.heap.objs.size f (cellsFrom (s.heap.objs.size + 1) fd.scope.names []) := rfl
    have hkn : ∀ x, (callEnvC fd s.heap.objs.size f).kindOf x = fd.scope.names.lookup x := fun x => rfl
    have nm := cells_names fd.scope.names (s.heap.objs.size + 1) 0 [] [] rfl
    obtain ⟨⟨⟨h₁, tk₁, rfl⟩, hns, hk₁, _⟩, hcell, hap, hab⟩ := ic
    rw [hcs] at hcell hap hab
    rw [henv]
    generalize hcc : cellsFrom (s.heap.objs.size + 1) fd.scope.names [] = cs at nm hcell hap hab
    have above : ∀ p ∈ cs, s.heap.get? p.2 = none := fun p hp => by
      cases q : s.heap.get? p.2 with
      | none => rfl
      | some o => exact absurd (Heap.lt_size q) (Nat.not_lt.mpr (Nat.le_of_lt (hab p.1 p.2 hp)))
    have lkp : ∀ p ∈ cs, cs.lookup p.1 = some p.2 := by
      have nd : (cs.map (·.1)).Nodup := by rw [nm]; exact of_decide_eq_true hnd
      clear hcell hap hab above nm hcc
      intro p hp
      induction cs with
      | nil => cases hp
      | cons x r ih =>
        rw [List.map_cons, List.nodup_cons] at nd
        rcases List.mem_cons.mp hp with e | e
        · subst e; rw [List.lookup_cons, beq_self_eq_true]
        · have : (p.1 == x.1) = false := beq_eq_false_iff_ne.mpr fun z => nd.1 (z ▸ List.mem_map_of_mem e)
          rw [List.lookup_cons, this]
          exact ih nd.2 e
    have cell : ∀ p ∈ cs, ∃ v, h₁.IsCell p.2 v ∧ VRo ((binds.filter fun x => !isLoc fd.scope.names x.1).reverse.lookup p.1) v := fun p hp => by
      refine ⟨_, hcell p.1 p.2 (lkp p hp), ?_⟩
      rw [bindC_eq hkn, Option.or_none]
      exact (rb.filter fun x => !isLoc fd.scope.names x).reverse.lookupO p.1
    have σoff : ∀ p ∈ cs, σ p.2 = none := fun p hp => S.σN (above p hp)
    have subσ : Sub σ (setCells σ cs fun n => (binds.filter fun x => !isLoc fd.scope.names x.1).reverse.lookup n) := fun a o e => by
      rw [setCells_off fun p hp z => by rw [← z, σoff p hp] at e; cases e]; exact e
    have S₁ : Sim g (envC fd s.heap.objs.size f cs).locals (binds.filter fun x => isLoc fd.scope.names x.1).reverse (setCells σ cs fun n => (binds.filter fun x => !isLoc fd.scope.names x.1).reverse.lookup n) h₁ := by
      refine ⟨fun b o e => hk₁ _ _ (S.base b o e), S.gfresh (Nat.le_refl _), ?_, fun a e => ?_, ⟨_, hns, fun x v e => ?_⟩, fun a o e => ?_⟩
      · show setCells σ cs _ s.heap.objs.size = none
        rw [setCells_off fun p hp z => absurd (hab p.1 p.2 hp) (by show ¬ s.heap.objs.size < p.2; rw [z]; exact Nat.lt_irrefl _)]
        exact S.fresh
      · by_cases q : ∃ p ∈ cs, p.2 = a
        · obtain ⟨p, hp, rfl⟩ := q; exact S.gN (above p hp)
        · rw [setCells_off fun p hp z => q ⟨p, hp, z⟩] at e; exact S.off a e
      · rw [bindL_eq hkn, Option.or_none]
        exact (rb.filter fun x => isLoc fd.scope.names x).reverse.lookup x v e
      · by_cases q : ∃ p ∈ cs, p.2 = a
        · obtain ⟨p, hp, rfl⟩ := q
          rw [setCells_get hap hp] at e
          cases e
          obtain ⟨v, ⟨ob, hob, hd⟩, r⟩ := cell p hp
          exact ⟨ob, hob, v, hd, r⟩
        · rw [setCells_off fun p hp z => q ⟨p, hp, z⟩] at e
          obtain ⟨ob, x, y⟩ := S.fit a o e
          exact ⟨ob, hk₁ _ _ x, y⟩
    refine h s.heap.objs.size cs _ nm hap σoff subσ (fun p hp => setCells_get hap hp) { s with heap := h₁, toks := tk₁ } _ _ S₁ fun fl fl' m' σ' h' tk p r S' T' => ?_
    obtain ⟨σ'', hsub, p⟩ := p
    have T'' : Tr s.heap.objs.size (setCells σ cs fun n => (binds.filter fun x => !isLoc fd.scope.names x.1).reverse.lookup n) σ' h₁ h' := T'
    obtain ⟨S'', T''⟩ := S.back hk₁ (fun a e => by
      by_cases q : ∃ p ∈ cs, p.2 = a
      · obtain ⟨p, hp, rfl⟩ := q; exact .inr (above p hp)
      · rw [setCells_off fun p hp z => q ⟨p, hp, z⟩] at e; exact .inl e) (size_none _) S' T''
    refine c fl.val _ _ _ h' tk p ?_ (S''.forget hsub) (T''.forget hsub)
    cases r <;> first | exact .none | assumption
end
end Mine

namespace Mine
open PySem PySem.W PyProof.Rows

theorem ivs_inv {xs : List Int} {l : List Value} (r : VRs (ivs xs) l) : ∀ {i : Nat} {x : Value}, l[i]? = some x → ∃ t, x = .int (xs.getD i 0) t := by
  induction xs generalizing l with
  | nil => intro i x e; obtain rfl := r.n; simp at e
  | cons a xs ih =>
    intro i x e
    obtain ⟨y, ys, rfl, ry, rs⟩ := VRs.c r
    cases i with
    | zero => simp at e; subst e; obtain ⟨t, rfl⟩ := ry.i; exact ⟨t, rfl⟩
    | succ i => simp at e; simpa using ih rs e
theorem ivs_mem {xs : List Int} {l : List Value} (r : VRs (ivs xs) l) : ∀ {x : Value}, x ∈ l → ∃ i t, i ∈ xs ∧ x = .int i t := by
  induction xs generalizing l with
  | nil => intro x e; obtain rfl := r.n; simp at e
  | cons a xs ih =>
    intro x e
    obtain ⟨y, ys, rfl, ry, rs⟩ := VRs.c r
    rcases List.mem_cons.mp e with e | e
    · subst e; obtain ⟨t, rfl⟩ := ry.i; exact ⟨a, t, List.mem_cons_self .., rfl⟩
    · obtain ⟨i, t, hi, rfl⟩ := ih rs e; exact ⟨i, t, List.mem_cons_of_mem _ hi, rfl⟩
theorem ivs_any {xs : List Int} {l : List Value} (r : VRs (ivs xs) l) (k : Int) (e : Value → Bool) (he : ∀ i t, e (.int i t) = (i == k)) : l.any e = decide (k ∈ xs) := by
  induction xs generalizing l with
  | nil => obtain rfl := r.n; simp
  | cons a xs ih =>
    obtain ⟨y, ys, rfl, ry, rs⟩ := VRs.c r
    obtain ⟨t, rfl⟩ := ry.i
    rw [List.any_cons, he, ih rs]
    by_cases q : a = k
    · subst q; simp
    · have : (a == k) = false := beq_eq_false_iff_ne.mpr q
      rw [this, Bool.false_or]
      have : (k ∈ a :: xs) ↔ k ∈ xs := by rw [List.mem_cons]; exact ⟨fun z => z.resolve_left fun y => q y.symm, .inr⟩
      exact decide_eq_decide.mpr this.symm
theorem all_eq_iff (xs ys : List Int) (h : xs.length = ys.length) : ((List.range xs.length).all fun j => xs.getD j 0 == ys.getD j 0) = decide (xs = ys) := by
  by_cases q : xs = ys
  · subst q; simp
  · rw [decide_eq_false q, Bool.eq_false_iff]
    intro z
    refine q (List.ext_getElem h fun i h1 h2 => ?_)
    have := List.all_eq_true.mp z i (by simpa using h1)
    simpa [h1, h2] using this

section
variable {g : Heap} {σ : AH}

/-- == of two things that the knowledge tells, by items -/
noncomputable def EqS (g : Heap) (σ : AH) (x y : V) (b : Bool) : Prop := ∀ (A : Around) (L : Addr) (m : Loc) (s : Shared) (a c : Value), A.units + 4 < cLine → Sim g L m σ s.heap → VR x a → VR y c → SeqAt.EqAt A s a c b

theorem eqS_int (i j : Int) : EqS g σ (.int i) (.int j) (i == j) := fun A L m s a c hu S r r' => by
  obtain ⟨t, rfl⟩ := r.i
  obtain ⟨u, rfl⟩ := r'.i
  exact SeqAt.EqAt.int_int i t j u

theorem rc_lists {A : Around} {L : Addr} {m : Loc} {s : Shared} (S : Sim g L m σ s.heap) (hu : A.units < cLine) {l r : Addr} {xs ys : List Int} (hl : σ l = some (.list (ivs xs))) (hr : σ r = some (.list (ivs ys))) :
    SeqAt.RcAt A s (.ref l) (.ref r) (decide (xs = ys)) ∧ SeqAt.RcNeAt A s (.ref l) (.ref r) (!decide (xs = ys)) := by
  obtain ⟨it1, h1, r1⟩ := S.list hl
  obtain ⟨it2, h2, r2⟩ := S.list hr
  have e1 : it1.size = xs.length := by rw [← Array.length_toList, r1.length, ivs_length]
  have e2 : it2.size = ys.length := by rw [← Array.length_toList, r2.length, ivs_length]
  by_cases hlen : xs.length = ys.length
  · have he : ∀ j (h1 : j < it1.size) (h2 : j < it2.size), SeqAt.EqAt A.in1 s it1[j] it2[j] (xs.getD j 0 == ys.getD j 0) := fun j q1 q2 => by
      obtain ⟨t, et⟩ := ivs_inv r1 (i := j) (x := it1[j]) (by simp [q1])
      obtain ⟨u, eu⟩ := ivs_inv r2 (i := j) (x := it2[j]) (by simp [q2])
      rw [et, eu]
      exact SeqAt.EqAt.int_int _ t _ u
    have a1 := SeqAt.RcAt.lists h1 h2 (by rw [e1, e2, hlen]) hu he
    have a2 := SeqAt.RcNeAt.lists h1 h2 (by rw [e1, e2, hlen]) hu he
    rw [e1, all_eq_iff xs ys hlen] at a1 a2
    exact ⟨a1, a2⟩
  · have hne : xs ≠ ys := fun z => hlen (by rw [z])
    rw [decide_eq_false hne]
    have hb : (it1.size != it2.size) = true := by rw [e1, e2]; exact bne_iff_ne.mpr hlen
    exact ⟨SeqAt.RcAt.lists_lengths h1 h2 hb hu, SeqAt.RcNeAt.lists_lengths h1 h2 hb hu⟩

theorem eqS_list {l r : Addr} {xs ys : List Int} (hl : σ l = some (.list (ivs xs))) (hr : σ r = some (.list (ivs ys))) : EqS g σ (.ref l) (.ref r) (decide (xs = ys)) := fun A L m s a c hu S q q' => by
  obtain rfl := q.r
  obtain rfl := q'.r
  by_cases z : l = r
  · subst z
    rw [hl] at hr
    have : ivs xs = ivs ys := by injection hr with hr; injection hr
    have : xs = ys := by
      unfold ivs at this
      exact List.map_inj_right (f := V.int) (fun x y h => by injection h) |>.mp this
    rw [decide_eq_true this]
    exact SeqAt.EqAt.same _
  · exact SeqAt.EqAt.of_refs z (rc_lists S (by omega) hl hr).1
end

section
variable {prog : Program} {w : World} {K : Frag} {g : Heap} {A : Around} {env : Env} {m : Loc} {σ : AH}

theorem ne_LL {l r : Addr} {xs ys : List Int} {Φ : V → Loc → AH → Prop} (hA : A.units < cLine) (hl : σ l = some (.list (ivs xs))) (hr : σ r = some (.list (ivs ys))) (h : Φ (.bool (!decide (xs = ys))) m σ) :
    A2 prog w g A env (compareOp .NotEq) (.ref l) (.ref r) m σ Φ := fun a b q q' s Q E S c => by
  obtain rfl := q.r
  obtain rfl := q'.r
  exact (rc_lists S hA hl hr).2 prog w E Q (c _ _ _ _ s.heap s.toks h (.bool _) S (Tr.refl ..))
theorem eq_LL {l r : Addr} {xs ys : List Int} {Φ : V → Loc → AH → Prop} (hA : A.units < cLine) (hl : σ l = some (.list (ivs xs))) (hr : σ r = some (.list (ivs ys))) (h : Φ (.bool (decide (xs = ys))) m σ) :
    A2 prog w g A env (compareOp .Eq) (.ref l) (.ref r) m σ Φ := fun a b q q' s Q E S c => by
  obtain rfl := q.r
  obtain rfl := q'.r
  exact (rc_lists S hA hl hr).1 prog w E Q (c _ _ _ _ s.heap s.toks h (.bool _) S (Tr.refl ..))

theorem VRs.len2 {l : Array Value} {xs : List V} (r : VRs xs l.toList) : l.size = xs.length := by rw [← Array.length_toList]; exact r.length

theorem rc_tuples {L : Addr} {s : Shared} (S : Sim g L m σ s.heap) (hu : A.units + 5 < cLine) {l r : Addr} {xs ys : List V} (hl : σ l = some (.tuple xs)) (hr : σ r = some (.tuple ys)) (e : Nat → Bool)
    (he : ∀ j x y, xs[j]? = some x → ys[j]? = some y → EqS g σ x y (e j)) :
    SeqAt.RcAt A s (.ref l) (.ref r) ((List.range (min xs.length ys.length)).all e && xs.length == ys.length) ∧ SeqAt.RcNeAt A s (.ref l) (.ref r) (!((List.range (min xs.length ys.length)).all e && xs.length == ys.length)) := by
  obtain ⟨it1, h1, r1⟩ := S.tuple hl
  obtain ⟨it2, h2, r2⟩ := S.tuple hr
  have he' : ∀ j (h1 : j < it1.size) (h2 : j < it2.size), SeqAt.EqAt A.in1 s it1[j] it2[j] (e j) := fun j q1 q2 => by
    have q1' : j < xs.length := by rw [← r1.len2]; exact q1
    have q2' : j < ys.length := by rw [← r2.len2]; exact q2
    obtain ⟨x', ex, rx⟩ := r1.get (i := j) (v := xs[j]) (by simp [q1'])
    obtain ⟨y', ey, ry⟩ := r2.get (i := j) (v := ys[j]) (by simp [q2'])
    have ex' : it1[j] = x' := by simpa [q1] using ex
    have ey' : it2[j] = y' := by simpa [q2] using ey
    rw [ex', ey']
    exact he j xs[j] ys[j] (by simp [q1']) (by simp [q2']) A.in1 L m s x' y' (by show A.units + 1 + 4 < cLine; omega) S rx ry
  have a1 := SeqAt.RcAt.tuples h1 h2 (by omega) he'
  have a2 := SeqAt.RcNeAt.tuples h1 h2 (by omega) he'
  rw [r1.len2, r2.len2] at a1 a2
  exact ⟨a1, a2⟩

theorem ne_TT {l r : Addr} {xs ys : List Int} {Φ : V → Loc → AH → Prop} (hA : A.units + 5 < cLine) (hl : σ l = some (.tuple (ivs xs))) (hr : σ r = some (.tuple (ivs ys))) (h : Φ (.bool (!decide (xs = ys))) m σ) :
    A2 prog w g A env (compareOp .NotEq) (.ref l) (.ref r) m σ Φ := fun a b q q' s Q E S c => by
  obtain rfl := q.r
  obtain rfl := q'.r
  have := (rc_tuples S hA hl hr (fun j => xs.getD j 0 == ys.getD j 0) (fun j x y ex ey => by
    have h1 : j < xs.length := by rw [← ivs_length]; exact (List.getElem?_eq_some_iff.mp ex).1
    have h2 : j < ys.length := by rw [← ivs_length]; exact (List.getElem?_eq_some_iff.mp ey).1
    rw [ivs_get h1] at ex
    rw [ivs_get h2] at ey
    cases ex; cases ey
    exact eqS_int _ _)).2
  refine this prog w E Q (c _ _ _ _ s.heap s.toks h ?_ S (Tr.refl ..))
  rw [ivs_length, ivs_length]
  by_cases hlen : xs.length = ys.length
  · rw [hlen, Nat.min_self, ← hlen, all_eq_iff xs ys hlen, beq_self_eq_true, Bool.and_true]; exact .bool _
  · have hne : xs ≠ ys := fun z => hlen (by rw [z])
    have hb : (xs.length == ys.length) = false := beq_eq_false_iff_ne.mpr hlen
    rw [decide_eq_false hne, hb, Bool.and_false]; exact .bool _
theorem eq_TT {l r : Addr} {xs ys : List Int} {Φ : V → Loc → AH → Prop} (hA : A.units + 5 < cLine) (hl : σ l = some (.tuple (ivs xs))) (hr : σ r = some (.tuple (ivs ys))) (h : Φ (.bool (decide (xs = ys))) m σ) :
    A2 prog w g A env (compareOp .Eq) (.ref l) (.ref r) m σ Φ := fun a b q q' s Q E S c => by
  obtain rfl := q.r
  obtain rfl := q'.r
  have := (rc_tuples S hA hl hr (fun j => xs.getD j 0 == ys.getD j 0) (fun j x y ex ey => by
    have h1 : j < xs.length := by rw [← ivs_length]; exact (List.getElem?_eq_some_iff.mp ex).1
    have h2 : j < ys.length := by rw [← ivs_length]; exact (List.getElem?_eq_some_iff.mp ey).1
    rw [ivs_get h1] at ex
    rw [ivs_get h2] at ey
    cases ex; cases ey
    exact eqS_int _ _)).1
  refine this prog w E Q (c _ _ _ _ s.heap s.toks h ?_ S (Tr.refl ..))
  rw [ivs_length, ivs_length]
  by_cases hlen : xs.length = ys.length
  · rw [hlen, Nat.min_self, ← hlen, all_eq_iff xs ys hlen, beq_self_eq_true, Bool.and_true]; exact .bool _
  · have hne : xs ≠ ys := fun z => hlen (by rw [z])
    have hb : (xs.length == ys.length) = false := beq_eq_false_iff_ne.mpr hlen
    rw [decide_eq_false hne, hb, Bool.and_false]; exact .bool _
/-- two pairs of int lists -/
theorem ne_PP {l r a b a' b' : Addr} {xs ys xs' ys' : List Int} {Φ : V → Loc → AH → Prop} (hA : A.units + 5 < cLine) (hl : σ l = some (.tuple [.ref a, .ref b])) (hr : σ r = some (.tuple [.ref a', .ref b']))
    (ha : σ a = some (.list (ivs xs))) (hb : σ b = some (.list (ivs ys))) (ha' : σ a' = some (.list (ivs xs'))) (hb' : σ b' = some (.list (ivs ys'))) (h : Φ (.bool (!(decide (xs = xs') && decide (ys = ys')))) m σ) :
    A2 prog w g A env (compareOp .NotEq) (.ref l) (.ref r) m σ Φ := fun a b q q' s Q E S c => by
  obtain rfl := q.r
  obtain rfl := q'.r
  have := (rc_tuples S hA hl hr (fun j => if j = 0 then decide (xs = xs') else decide (ys = ys')) (fun j x y ex ey => by
    match j with
    | 0 => simp at ex ey; subst ex; subst ey; exact eqS_list ha ha'
    | 1 => simp at ex ey; subst ex; subst ey; exact eqS_list hb hb'
    | j + 2 => simp at ex)).2
  refine this prog w E Q (c _ _ _ _ s.heap s.toks h ?_ S (Tr.refl ..))
  have e : ((List.range (min [V.ref a, V.ref b].length [V.ref a', V.ref b'].length)).all (fun j => if j = 0 then decide (xs = xs') else decide (ys = ys')) && [V.ref a, V.ref b].length == [V.ref a', V.ref b'].length) = (decide (xs = xs') && decide (ys = ys')) := by
    show ((decide (xs = xs') && (decide (ys = ys') && true)) && true) = _
    rw [Bool.and_true, Bool.and_true]
  rw [e]
  exact .bool _

theorem in_I {k : Int} {l : Addr} {xs : List Int} {Φ : V → Loc → AH → Prop} (hl : σ l = some (.list (ivs xs))) (h : Φ (.bool (decide (k ∈ xs))) m σ) : A2 prog w g A env (compareOp .In) (.int k) (.ref l) m σ Φ := fun a b q q' s Q E S c => by
  obtain ⟨t, rfl⟩ := q.i
  obtain rfl := q'.r
  obtain ⟨items, hi, rs⟩ := S.list hl
  refine SeqAt.in_listAt (fun v => match v with | .int i _ => i == k | _ => false) hi (fun y hy => ?_) (c _ _ _ _ s.heap s.toks h ?_ S (Tr.refl ..))
  · obtain ⟨i, u, _, rfl⟩ := ivs_mem rs (Array.mem_toList_iff.mpr hy)
    exact SeqAt.EqAt.int_int i u k t
  · rw [← Array.any_toList, ivs_any rs k _ fun i t => rfl]; exact .bool _
theorem notIn_I {k : Int} {l : Addr} {xs : List Int} {Φ : V → Loc → AH → Prop} (hl : σ l = some (.list (ivs xs))) (h : Φ (.bool (!decide (k ∈ xs))) m σ) : A2 prog w g A env (compareOp .NotIn) (.int k) (.ref l) m σ Φ := fun a b q q' s Q E S c => by
  obtain ⟨t, rfl⟩ := q.i
  obtain rfl := q'.r
  obtain ⟨items, hi, rs⟩ := S.list hl
  refine SeqAt.notIn_listAt (fun v => match v with | .int i _ => i == k | _ => false) hi (fun y hy => ?_) (c _ _ _ _ s.heap s.toks h ?_ S (Tr.refl ..))
  · obtain ⟨i, u, _, rfl⟩ := ivs_mem rs (Array.mem_toList_iff.mpr hy)
    exact SeqAt.EqAt.int_int i u k t
  · rw [← Array.any_toList, ivs_any rs k _ fun i t => rfl]; exact .bool _

/-- a list of lists of ints: their addresses and what they hold -/
noncomputable def LLs (σ : AH) (as : List Addr) (xss : List (List Int)) : Prop := as.length = xss.length ∧ ∀ i a, as[i]? = some a → σ a = some (.list (ivs (xss.getD i [])))
theorem refs_mem {as : List Addr} {l : List Value} (r : VRs (as.map V.ref) l) : ∀ {x : Value}, x ∈ l → ∃ a ∈ as, x = .ref a := by
  induction as generalizing l with
  | nil => intro x e; obtain rfl := r.n; simp at e
  | cons a as ih =>
    intro x e
    obtain ⟨y, ys, rfl, ry, rs⟩ := VRs.c r
    rcases List.mem_cons.mp e with e | e
    · subst e; obtain rfl := ry.r; exact ⟨a, List.mem_cons_self .., rfl⟩
    · obtain ⟨b, hb, rfl⟩ := ih rs e; exact ⟨b, List.mem_cons_of_mem _ hb, rfl⟩
theorem refs_any {as : List Addr} {l : List Value} (r : VRs (as.map V.ref) l) (e : Value → Bool) : l.any e = as.any fun a => e (.ref a) := by
  induction as generalizing l with
  | nil => obtain rfl := r.n; rfl
  | cons a as ih =>
    obtain ⟨y, ys, rfl, ry, rs⟩ := VRs.c r
    obtain rfl := ry.r
    rw [List.any_cons, List.any_cons, ih rs]
open Classical in
theorem notIn_LL {h' l : Addr} {as : List Addr} {xs : List Int} {xss : List (List Int)} {Φ : V → Loc → AH → Prop} (hA : A.units + 5 < cLine) (hh : σ h' = some (.list (ivs xs))) (hl : σ l = some (.list (as.map V.ref))) (hs : LLs σ as xss)
    (h : Φ (.bool (!decide (xs ∈ xss))) m σ) : A2 prog w g A env (compareOp .NotIn) (.ref h') (.ref l) m σ Φ := fun a b q q' s Q E S c => by
  obtain rfl := q.r
  obtain rfl := q'.r
  obtain ⟨items, hi, rs⟩ := S.list hl
  refine SeqAt.notIn_listAt (fun v => decide (∃ a, v = .ref a ∧ σ a = some (.list (ivs xs)))) hi (fun y hy => ?_) (c _ _ _ _ s.heap s.toks h ?_ S (Tr.refl ..))
  · obtain ⟨a, ha, rfl⟩ := refs_mem rs (Array.mem_toList_iff.mpr hy)
    obtain ⟨i, hi'⟩ := List.getElem?_of_mem ha
    have e := hs.2 i a hi'
    have := eqS_list (g := g) e hh A.in1 env.locals m s (.ref a) (.ref h') (by show A.units + 1 + 4 < cLine; omega) S (.ref _) (.ref _)
    have z : decide (∃ a', Value.ref a = .ref a' ∧ σ a' = some (.list (ivs xs))) = decide (xss.getD i [] = xs) := by
      refine decide_eq_decide.mpr ⟨fun ⟨a', e1, e2⟩ => ?_, fun e1 => ⟨a, rfl, by rw [e, e1]⟩⟩
      injection e1 with e1
      subst e1
      rw [e] at e2
      injection e2 with e2
      injection e2 with e2
      exact List.map_inj_right (f := V.int) (fun x y h => by injection h) |>.mp e2
    rw [z]
    exact this
  · rw [← Array.any_toList, refs_any rs]
    have z : (as.any fun a => decide (∃ a', Value.ref a = .ref a' ∧ σ a' = some (.list (ivs xs)))) = decide (xs ∈ xss) := by
      rw [Bool.eq_iff_iff, List.any_eq_true, decide_eq_true_iff]
      constructor
      · rintro ⟨a, ha, e⟩
        obtain ⟨a', e1, e2⟩ := of_decide_eq_true e
        injection e1 with e1
        subst e1
        obtain ⟨i, hi'⟩ := List.getElem?_of_mem ha
        have e := hs.2 i a hi'
        rw [e] at e2
        injection e2 with e2
        injection e2 with e2
        have e3 := List.map_inj_right (f := V.int) (fun x y h => by injection h) |>.mp e2
        have hlt : i < xss.length := by rw [← hs.1]; exact (List.getElem?_eq_some_iff.mp hi').1
        rw [← e3]
        simp [hlt]
      · intro e
        obtain ⟨i, hi'⟩ := List.getElem?_of_mem e
        have hlt : i < as.length := by rw [hs.1]; exact (List.getElem?_eq_some_iff.mp hi').1
        refine ⟨as[i], List.getElem_mem hlt, decide_eq_true ⟨as[i], rfl, ?_⟩⟩
        rw [hs.2 i as[i] (by simp [hlt])]
        simp [hi']
    rw [z]
    exact .bool _
end
end Mine

namespace Mine
open PySem PySem.W PyProof.Rows

section
variable {prog : Program} {w : World} {K : Frag} {g : Heap} {A : Around} {env : Env} {m : Loc} {σ : AH}

/-! displays -/
theorem E_List {elts : List Expr} {pos : Pos} {Φ : V → Loc → AH → Prop} (h : AArgs prog w g A env elts m σ fun vs m₁ σ₁ => vs.length ≤ 1000 ∧ ∀ a, σ₁ a = none → Φ (.ref a) m₁ (σ₁.set a (.list vs))) :
    AE prog w g A env (.List elts pos) m σ Φ := fun s Q E S c => by
  refine List_ (h pos s _ E S fun vs xs m₁ σ₁ h₁ tk p r S₁ T₁ => ?_)
  refine wpAny_newList (c _ _ _ _ _ tk (p.2 h₁.objs.size S₁.fresh) (.ref _) (S₁.alloc (o := .list vs) rfl ⟨_, _, rfl, r⟩) (T₁.trans (Tr.alloc S₁))) (by rw [r.length]; have := sizeLine_eq; omega)
theorem E_Tuple {elts : List Expr} {k : Nat} {pos : Pos} {Φ : V → Loc → AH → Prop} (h : AArgs prog w g A env elts m σ fun vs m₁ σ₁ => vs.length ≤ 1000 ∧ ∀ a, σ₁ a = none → Φ (.ref a) m₁ (σ₁.set a (.tuple vs))) :
    AE prog w g A env (.Tuple elts k pos) m σ Φ := fun s Q E S c => by
  refine Tuple_ (h pos s _ E S fun vs xs m₁ σ₁ h₁ tk p r S₁ T₁ => ?_)
  refine wpAny_newTuple (c _ _ _ _ _ tk (p.2 h₁.objs.size S₁.fresh) (.ref _) (S₁.alloc (o := .tuple vs) rfl ⟨_, _, rfl, r⟩) (T₁.trans (Tr.alloc S₁))) (by rw [r.length]; have := sizeLine_eq; omega)

/-! ranges -/
section
variable {L : Addr}
theorem call_range1 {n : Int} {Φ : V → Loc → AH → Prop} (h : ∀ a, σ a = none → Φ (.ref a) m (σ.set a (.rng 0 n 1))) : ACall prog w g A L (.typ "range") [.int n] [] m σ Φ := by
  intro f' pos' kw' r rs rk
  obtain rfl := r.t
  obtain ⟨_, _, rfl, r1, rs⟩ := rs.c
  obtain rfl := rs.n
  obtain rfl := rk.n
  obtain ⟨t, rfl⟩ := r1.i
  exact ⟨keeper_typ, fun s Q E S c => call_range_1 (c _ _ _ _ _ _ (h _ S.fresh) (.ref _) (S.alloc (o := .rng 0 n 1) rfl ⟨_, _, _, rfl⟩) (Tr.alloc S))⟩
theorem call_range3 {a b k : Int} {Φ : V → Loc → AH → Prop} (hk : k ≠ 0) (hp : Builtin.divisionGoesByPylong (b - a) k = false) (h : ∀ r, σ r = none → Φ (.ref r) m (σ.set r (.rng a b k))) : ACall prog w g A L (.typ "range") [.int a, .int b, .int k] [] m σ Φ := by
  intro f' pos' kw' r rs rk
  obtain rfl := r.t
  obtain ⟨_, _, rfl, r1, rs⟩ := rs.c
  obtain ⟨_, _, rfl, r2, rs⟩ := rs.c
  obtain ⟨_, _, rfl, r3, rs⟩ := rs.c
  obtain rfl := rs.n
  obtain rfl := rk.n
  obtain ⟨t, rfl⟩ := r1.i
  obtain ⟨u, rfl⟩ := r2.i
  obtain ⟨v, rfl⟩ := r3.i
  exact ⟨keeper_typ, fun s Q E S c => call_range_3 hk (c _ _ _ _ _ _ (h _ S.fresh) (.ref _) (S.alloc (o := .rng a b k) rfl ⟨_, _, _, rfl⟩) (Tr.alloc S)) (.inl hp)⟩

/-! min, max of two ints -/
theorem call_min2 {a b : Int} {Φ : V → Loc → AH → Prop} (hA : A.handled = none) (h : Φ (.int (min a b)) m σ) : ACall prog w g A L (.blt "min") [.int a, .int b] [] m σ Φ := by
  intro f' pos' kw' r rs rk
  obtain rfl := r.f
  obtain ⟨_, _, rfl, r1, rs⟩ := rs.c
  obtain ⟨_, _, rfl, r2, rs⟩ := rs.c
  obtain rfl := rs.n
  obtain rfl := rk.n
  obtain ⟨t, rfl⟩ := r1.i
  obtain ⟨u, rfl⟩ := r2.i
  refine ⟨keeper_blt, fun s Q E S c => min_two_ints hA fun h' tk k => c _ _ _ _ h' tk h ?_ (S.grow k) (Tr.grow k)⟩
  split
  · rw [show min a b = b by omega]; exact .int ..
  · rw [show min a b = a by omega]; exact .int ..
theorem call_max2 {a b : Int} {Φ : V → Loc → AH → Prop} (hA : A.handled = none) (h : Φ (.int (max a b)) m σ) : ACall prog w g A L (.blt "max") [.int a, .int b] [] m σ Φ := by
  intro f' pos' kw' r rs rk
  obtain rfl := r.f
  obtain ⟨_, _, rfl, r1, rs⟩ := rs.c
  obtain ⟨_, _, rfl, r2, rs⟩ := rs.c
  obtain rfl := rs.n
  obtain rfl := rk.n
  obtain ⟨t, rfl⟩ := r1.i
  obtain ⟨u, rfl⟩ := r2.i
  refine ⟨keeper_blt, fun s Q E S c => max_two_ints hA fun h' tk k => c _ _ _ _ h' tk h ?_ (S.grow k) (Tr.grow k)⟩
  split
  · rw [show max a b = b by omega]; exact .int ..
  · rw [show max a b = a by omega]; exact .int ..

/-! lists out of tuples, tuples out of lists -/
theorem call_tuple_of {l : Addr} {xs : List V} {Φ : V → Loc → AH → Prop} (hl : σ l = some (.list xs)) (hz : xs.length ≤ 1000) (h : ∀ a, σ a = none → Φ (.ref a) m (σ.set a (.tuple xs))) : ACall prog w g A L (.typ "tuple") [.ref l] [] m σ Φ := by
  intro f' pos' kw' r rs rk
  obtain rfl := r.t
  obtain ⟨_, _, rfl, r1, rs⟩ := rs.c
  obtain rfl := rs.n
  obtain rfl := rk.n
  obtain rfl := r1.r
  refine ⟨keeper_typ, fun s Q E S c => ?_⟩
  obtain ⟨items, hi, rx⟩ := S.list hl
  refine call_tuple_list hi (fun h' k => ?_) (by rw [rx.len2]; have := sizeLine_eq; omega)
  have S' := S.grow k
  exact c _ _ _ _ _ s.toks (h _ S'.fresh) (.ref _) (S'.alloc (o := .tuple xs) rfl ⟨_, _, rfl, rx⟩) ((Tr.grow k).trans (Tr.alloc S'))
theorem call_list_of {l : Addr} {xs : List V} {Φ : V → Loc → AH → Prop} (hl : σ l = some (.tuple xs)) (hz : xs.length ≤ 1000) (h : ∀ a, σ a = none → Φ (.ref a) m (σ.set a (.list xs))) : ACall prog w g A L (.typ "list") [.ref l] [] m σ Φ := by
  intro f' pos' kw' r rs rk
  obtain rfl := r.t
  obtain ⟨_, _, rfl, r1, rs⟩ := rs.c
  obtain rfl := rs.n
  obtain rfl := rk.n
  obtain rfl := r1.r
  refine ⟨keeper_typ, fun s Q E S c => ?_⟩
  obtain ⟨ob, ho, items, n, rfl, rx⟩ := S.fit _ _ hl
  refine call_list_seq l (.inr rfl) ho rfl rfl (fun h' c' k hD => ?_) (by rw [rx.len2]; have := sizeLine_eq; omega)
  have sN := size_none s.heap
  exact c _ _ _ _ _ s.toks (h _ S.fresh) (.ref _) ((S.grow k).know hD ⟨_, _, rfl, rx⟩ (S.gN sN) (S.neL sN)) ((Tr.grow k).know sN (S.neL sN))

/-! sorted, of ints -/
theorem ints_are {xs : List Int} {l : List Value} (r : VRs (ivs xs) l) : IntsAre l xs := by
  induction xs generalizing l with
  | nil => obtain rfl := r.n; exact IntsAre.nil
  | cons a xs ih =>
    obtain ⟨y, ys, rfl, ry, rs⟩ := VRs.c r
    obtain ⟨t, rfl⟩ := ry.i
    exact IntsAre.cons a t (ih rs)
theorem ints_are' {xs : List Int} {l : List Value} (r : IntsAre l xs) : VRs (ivs xs) l := by
  induction r with
  | nil => exact .nil
  | cons _ _ _ ih => exact .cons (.int ..) ih
theorem call_sortedI {l : Addr} {xs : List Int} {Φ : V → Loc → AH → Prop} (hl : σ l = some (.list (ivs xs))) (hz : xs.length < 64) (h : ∀ a ys, σ a = none → ys.Perm xs → ys.Pairwise (· ≤ ·) → Φ (.ref a) m (σ.set a (.list (ivs ys)))) :
    ACall prog w g A L (.blt "sorted") [.ref l] [] m σ Φ := by
  intro f' pos' kw' r rs rk
  obtain rfl := r.f
  obtain ⟨_, _, rfl, r1, rs⟩ := rs.c
  obtain rfl := rs.n
  obtain rfl := rk.n
  obtain rfl := r1.r
  refine ⟨keeper_blt, fun s Q E S c => ?_⟩
  obtain ⟨items, hi, rx⟩ := S.list hl
  refine sorted_ints (vs := items.toList) (by simpa using hi) (ints_are rx) (by rw [rx.length, ivs_length]; exact hz) fun out ns' a1 a2 a3 => ?_
  obtain ⟨e, he⟩ := sortedAll_at s.heap items.toList out
  have k : ∀ b o, s.heap.get? b = some o → (sortedAll s.heap items.toList out).get? b = some o := fun b o e => sortedAll_old e
  have sN : s.heap.get? (s.heap.objs.size + 1) = none := by
    cases q : s.heap.get? (s.heap.objs.size + 1) with
    | none => rfl
    | some o => exact absurd (Heap.lt_size q) (Nat.not_lt.mpr (Nat.le_succ _))
  exact c _ _ _ _ _ s.toks (h _ ns' (S.σN sN) a2 a3) (.ref _) ((S.grow k).know he ⟨_, _, rfl, ints_are' a1⟩ (S.gN sN) (S.neL sN)) ((Tr.grow k).know sN (S.neL sN))

/-! any, all, of bools -/
noncomputable def bvs (bs : List Bool) : List V := bs.map V.bool
theorem bvs_get {bs : List Bool} {l : List Value} (r : VRs (bvs bs) l) : ∀ {i : Nat} {x : Value}, l[i]? = some x → x = .bool (bs.getD i false) := by
  induction bs generalizing l with
  | nil => intro i x e; obtain rfl := r.n; simp at e
  | cons a xs ih =>
    intro i x e
    obtain ⟨y, ys, rfl, ry, rs⟩ := VRs.c r
    obtain rfl := ry.b
    cases i with
    | zero => simp at e; subst e; rfl
    | succ i => simp at e; simpa using ih rs e
theorem range_any (bs : List Bool) : (List.range bs.length).any (fun i => bs.getD i false) = bs.any id := by
  rw [Bool.eq_iff_iff, List.any_eq_true, List.any_eq_true]
  constructor
  · rintro ⟨i, hi, e⟩
    have hi' : i < bs.length := by simpa using hi
    exact ⟨bs[i], List.getElem_mem hi', by simpa [hi'] using e⟩
  · rintro ⟨b, hb, e⟩
    obtain ⟨i, hi, rfl⟩ := List.getElem_of_mem hb
    exact ⟨i, by simpa using hi, by simpa [hi] using e⟩
theorem range_all (bs : List Bool) : (List.range bs.length).all (fun i => bs.getD i false) = bs.all id := by
  rw [Bool.eq_iff_iff, List.all_eq_true, List.all_eq_true]
  constructor
  · intro h b hb
    obtain ⟨i, hi, rfl⟩ := List.getElem_of_mem hb
    simpa [hi] using h i (by simpa using hi)
  · intro h i hi
    have hi' : i < bs.length := by simpa using hi
    simpa [hi'] using h bs[i] (List.getElem_mem hi')
theorem call_any {l : Addr} {bs : List Bool} {Φ : V → Loc → AH → Prop} (hA : A.handled = none) (hl : σ l = some (.list (bvs bs))) (h : Φ (.bool (bs.any id)) m σ) : ACall prog w g A L (.blt "any") [.ref l] [] m σ Φ := by
  intro f' pos' kw' r rs rk
  obtain rfl := r.f
  obtain ⟨_, _, rfl, r1, rs⟩ := rs.c
  obtain rfl := rs.n
  obtain rfl := rk.n
  obtain rfl := r1.r
  refine ⟨keeper_blt, fun s Q E S c => ?_⟩
  obtain ⟨items, hi, rx⟩ := S.list hl
  have hne : l ≠ s.heap.objs.size := Nat.ne_of_lt (S.lt hl)
  refine call_any_walk (wpAny_pyIter_list hi ⟨_, _, _, _, _, _, fun i => bs.getD i false, rfl, Walks.list (A := A.in1) hA s.heap.objs.size l hne items, ⟨⟨_, Heap.get?_push_size _ rfl, rfl, rfl⟩, hi.push _⟩, ?_, fun h' tk k => ?_⟩)
  · intro i v s Q E hP hQ
    have := bvs_get rx (i := i) (x := v) (by simpa using hP)
    subst this
    exact wpAny_truthy_bool hQ
  · have kk : ∀ b o, s.heap.get? b = some o → h'.get? b = some o := fun b o e => k b o (by simpa using Nat.ne_of_lt (Heap.lt_size e)) (Heap.get?_push_of_some _ e)
    have e : items.size = bs.length := by rw [rx.len2]; simp [bvs]
    refine c _ _ _ _ h' tk h ?_ (S.grow kk) (Tr.grow kk)
    rw [e, range_any]
    exact .bool _
theorem call_all {l : Addr} {bs : List Bool} {Φ : V → Loc → AH → Prop} (hA : A.handled = none) (hl : σ l = some (.list (bvs bs))) (h : Φ (.bool (bs.all id)) m σ) : ACall prog w g A L (.blt "all") [.ref l] [] m σ Φ := by
  intro f' pos' kw' r rs rk
  obtain rfl := r.f
  obtain ⟨_, _, rfl, r1, rs⟩ := rs.c
  obtain rfl := rs.n
  obtain rfl := rk.n
  obtain rfl := r1.r
  refine ⟨keeper_blt, fun s Q E S c => ?_⟩
  obtain ⟨items, hi, rx⟩ := S.list hl
  have hne : l ≠ s.heap.objs.size := Nat.ne_of_lt (S.lt hl)
  refine call_all_walk (wpAny_pyIter_list hi ⟨_, _, _, _, _, _, fun i => bs.getD i false, rfl, Walks.list (A := A.in1) hA s.heap.objs.size l hne items, ⟨⟨_, Heap.get?_push_size _ rfl, rfl, rfl⟩, hi.push _⟩, ?_, fun h' tk k => ?_⟩)
  · intro i v s Q E hP hQ
    have := bvs_get rx (i := i) (x := v) (by simpa using hP)
    subst this
    exact wpAny_truthy_bool hQ
  · have kk : ∀ b o, s.heap.get? b = some o → h'.get? b = some o := fun b o e => k b o (by simpa using Nat.ne_of_lt (Heap.lt_size e)) (Heap.get?_push_of_some _ e)
    have e : items.size = bs.length := by rw [rx.len2]; simp [bvs]
    refine c _ _ _ _ h' tk h ?_ (S.grow kk) (Tr.grow kk)
    rw [e, range_all]
    exact .bool _
end

/-! items of tuples, slices, sums of lists -/
theorem sub_tuple {value slice : Expr} {l : Addr} {xs : List V} {k : Nat} {v : V} {Φ : V → Loc → AH → Prop} (hl : σ l = some (.tuple xs)) (h1 : (k : Int) < 2 ^ 63) (hx : xs[k]? = some v) (h : Φ v m σ)
    (hs : ∀ a b, subscripted slice false a b = operate [a, b] (getItem a b) := by intro _ _; kernel_rfl!) : A2 prog w g A env (subscriptTail value slice) (.ref l) (.int (k : Int)) m σ Φ := fun a b r r' s Q E S c => by
  obtain rfl := r.r
  obtain ⟨t, rfl⟩ := r'.i
  obtain ⟨items, hi, rs⟩ := S.tuple hl
  obtain ⟨x, hx', rx⟩ := rs.get hx
  have hk : k < xs.length := (List.getElem?_eq_some_iff.mp hx).1
  refine tail_any (T := "tuple") (let ⟨o, ho, hc, _⟩ := hi; ⟨o, ho, hc⟩) PySem.F.slot_tuple_getitem.lookup (getItem_tuple (j := k) hi (by omega) h1 ?_ (by simpa using hx') (c _ _ _ _ s.heap s.toks h rx S (Tr.refl ..))) (hs _ _)
  rw [seqIndex_of (Int.natCast_nonneg _) (by rw [rs.len2]; omega)]
  simp

noncomputable def APart (prog : Program) (w : World) (g : Heap) (A : Around) (env : Env) (e : Option Expr) (m : Loc) (σ : AH) (Φ : Option Int → Loc → AH → Prop) : Prop :=
  AW prog w g (fun (i : Option Int) (x : Value) => IsPart x i) A env.locals (evalPart e env) m σ Φ
theorem part_none {Φ : Option Int → Loc → AH → Prop} (h : Φ none m σ) : APart prog w g A env none m σ Φ := fun s Q E S c => by
  rw [evalPart_none]; exact wpAny_pure (c _ _ _ _ s.heap s.toks h .none S (Tr.refl ..))
theorem part_some {e : Expr} {Φ : Option Int → Loc → AH → Prop} (h : AE prog w g A env e m σ fun v m₁ σ₁ => ∃ i, v = .int i ∧ Φ (some i) m₁ σ₁) : APart prog w g A env (some e) m σ Φ := fun s Q E S c => by
  rw [evalPart_some]
  refine h s _ E S fun v a m₁ σ₁ h₁ tk p r S₁ T₁ => ?_
  obtain ⟨i, rfl, p⟩ := p
  obtain ⟨t, rfl⟩ := r.i
  exact c _ _ _ _ h₁ tk p (.int ..) S₁ T₁
/-- what a list holds, be it the call's own or the ground's -/
noncomputable def HasL (g : Heap) (σ : AH) (l : Addr) (xs : List V) : Prop := σ l = some (.list xs) ∨ ∃ items, g.IsList l items ∧ VRs xs items.toList
theorem HasL.at {L : Addr} {h : Heap} {l : Addr} {xs : List V} (x : HasL g σ l xs) (S : Sim g L m σ h) : ∃ items, h.IsList l items ∧ VRs xs items.toList := by
  rcases x with x | ⟨items, hi, r⟩
  · exact S.list x
  · exact ⟨items, hi.at fun o e => S.base _ _ e, r⟩

theorem E_Slice {value : Expr} {lower upper : Option Expr} {p pos : Pos} {Φ : V → Loc → AH → Prop}
    (h : AE prog w g A env value m σ fun o m₁ σ₁ => APart prog w g A env lower m₁ σ₁ fun lo m₂ σ₂ => APart prog w g A env upper m₂ σ₂ fun hi m₃ σ₃ =>
      ∃ l xs, o = .ref l ∧ HasL g σ₃ l xs ∧ xs.length ≤ 1000 ∧ ∃ ys, (∀ items : Array Value, VRs xs items.toList → VRs ys (slicePick items lo hi none).toList) ∧ ∀ a, σ₃ a = none → Φ (.ref a) m₃ (σ₃.set a (.list ys)))
    (ht : ∀ o r, letTemporaryGo value o r = pure () := by intro _ _; kernel_rfl!) : AE prog w g A env (.Subscript value (.Slice lower upper none p) pos) m σ Φ := fun s Q E S c => by
  refine wpAny_Subscript_list_slice (h s _ E S fun o a m₁ σ₁ h₁ tk p r S₁ T₁ => ?_) ht
  refine p { s with heap := h₁, toks := tk } _ E S₁ fun lo vl m₂ σ₂ h₂ tk₂ p₂ r₂ S₂ T₂ => ?_
  refine p₂ { s with heap := h₂, toks := tk₂ } _ E S₂ fun hi vu m₃ σ₃ h₃ tk₃ p₃ r₃ S₃ T₃ => ?_
  obtain ⟨l, xs, rfl, hl, hz, ys, hy, k⟩ := p₃
  obtain rfl := r.r
  obtain ⟨items, hil, rx⟩ := hl.at S₃
  refine ⟨l, items, lo, hi, rfl, hil, by rw [rx.len2]; have := sizeLine_eq; omega, r₂, r₃, ?_⟩
  have kk : ∀ b o, h₃.get? b = some o → (h₃.push { cls := .type "slice", data := .fields #[vl, vu, .none] }).get? b = some o := fun b o e => Heap.get?_push_of_some _ e
  have S₄ := S₃.grow kk
  have hsz : (h₃.push { cls := .type "slice", data := .fields #[vl, vu, .none] }).objs.size = h₃.objs.size + 1 := Heap.size_push ..
  have z := c (.ref (h₃.push { cls := .type "slice", data := .fields #[vl, vu, .none] }).objs.size) _ _ _ _ tk₃ (k _ S₄.fresh) (.ref _) (S₄.alloc (o := .list ys) (ob := { cls := .type "list", data := .seq (slicePick items lo hi none) }) rfl ⟨_, _, rfl, hy items rx⟩) (T₁.trans (T₂.trans (T₃.trans ((Tr.grow kk).trans (Tr.alloc S₄)))))
  rw [hsz] at z
  exact z
theorem pick_upto {xs : List V} (b : Nat) : ∀ items : Array Value, VRs xs items.toList → VRs (xs.take b) (slicePick items none (some (b : Int)) none).toList := fun items r => by
  rw [slicePick_upto']; exact r.take b
theorem pick_run {xs : List V} (a b : Nat) (hb : b ≤ xs.length) (hab : a ≤ b) : ∀ items : Array Value, VRs xs items.toList → VRs ((xs.drop a).take (b - a)) (slicePick items (some (a : Int)) (some (b : Int)) none).toList := fun items r => by
  rw [slicePick_run items a b (by rw [r.len2]; exact hb) hab]; exact (r.drop a).take _

theorem add_LL {l r : Addr} {xs ys : List V} {Φ : V → Loc → AH → Prop} (hl : σ l = some (.list xs)) (hr : σ r = some (.list ys)) (hz : xs.length + ys.length ≤ 1000) (h : ∀ a, σ a = none → Φ (.ref a) m (σ.set a (.list (xs ++ ys)))) :
    A2 prog w g A env (binaryOp .Add) (.ref l) (.ref r) m σ Φ := fun a b q q' s Q E S c => by
  obtain rfl := q.r
  obtain rfl := q'.r
  obtain ⟨i1, ⟨n1, p1⟩, r1⟩ := S.plist hl
  obtain ⟨i2, ⟨n2, p2⟩, r2⟩ := S.plist hr
  refine PySem.P.add_list p1 p2 (c _ _ _ _ _ s.toks (h _ S.fresh) (.ref _) (S.alloc (o := .list (xs ++ ys)) rfl ⟨_, _, rfl, ?_⟩) (Tr.alloc S)) (by rw [r1.len2, r2.len2]; have := sizeLine_eq; omega)
  rw [Array.toList_append]
  exact r1.append r2

/-! chains of two comparisons -/
theorem T_Compare2 {l r1 r2 : Expr} {op1 op2 : CmpOp} {pos : Pos} {Φ : Bool → Loc → AH → Prop}
    (h : AE prog w g A env l m σ fun x m₁ σ₁ => AE prog w g A env r1 m₁ σ₁ fun y m₂ σ₂ => A2 prog w g A env (compareOp op1) x y m₂ σ₂ fun v m₃ σ₃ => A1 prog w g A env truthy Eq v m₃ σ₃ fun b m₄ σ₄ =>
      (b = false → Φ false m₄ σ₄) ∧ (b = true → AE prog w g A env r2 m₄ σ₄ fun z m₅ σ₅ => A2 prog w g A env (compareOp op2) y z m₅ σ₅ fun v m₆ σ₆ => A1 prog w g A env truthy Eq v m₆ σ₆ Φ))
    (hm : markedEach [op1, op2] [r1, r2] (evalEach [r1, r2] env) = [eval r1 env, eval r2 env] := by kernel_rfl!) : AT prog w g A env (.Compare l [op1, op2] [r1, r2] pos) m σ Φ := fun s Q E S c => by
  rw [arm_isTrue_Compare, hm]
  refine wpAny_bind (h s _ E S fun x a m₁ σ₁ h₁ tk p r S₁ T₁ => ?_)
  show wpAny _ _ (do
    let rv ← holding [a] (eval r1 env)
    standAt pos
    let c ← holding [a, rv] (compareOp op1 a rv)
    release [a, rv] [c]
    if ← holding [c, rv] (truthy c) then testChain pos rv [op2] [eval r2 env] else pure false) _ E _
  refine wpAny_bind (wpAny_holding (p { s with heap := h₁, toks := tk } _ E S₁ fun y b m₂ σ₂ h₂ tk₂ p₂ r₂ S₂ T₂ => wpAny_bind (wpAny_standAt (wpAny_bind (wpAny_holding ?_)))))
  refine p₂ a b r r₂ { s with heap := h₂, toks := tk₂ } _ E S₂ fun v c' m₃ σ₃ h₃ tk₃ p₃ r₃ S₃ T₃ => wpAny_bind (wpAny_release (wpAny_bind (wpAny_holding ?_)))
  refine p₃ c' r₃ { s with heap := h₃, toks := tk₃ } _ E S₃ fun bb bb' m₄ σ₄ h₄ tk₄ p₄ r₄ S₄ T₄ => ?_
  subst r₄
  have T := T₁.trans (T₂.trans (T₃.trans T₄))
  cases bb with
  | false => exact wpAny_pure (c _ _ _ _ h₄ tk₄ (p₄.1 rfl) rfl S₄ T)
  | true =>
    show wpAny _ _ (do
      let rv ← holding [b] (eval r2 env)
      standAt pos
      let c ← operate [b, rv] (compareOp op2 b rv)
      holding [c] (truthy c)) _ E _
    refine wpAny_bind (wpAny_holding (p₄.2 rfl { s with heap := h₄, toks := tk₄ } _ E S₄ fun z d m₅ σ₅ h₅ tk₅ p₅ r₅ S₅ T₅ => wpAny_bind (wpAny_standAt (wpAny_bind (wpAny_operating ?_)))))
    refine p₅ b d r₂ r₅ { s with heap := h₅, toks := tk₅ } _ E S₅ fun v e' m₆ σ₆ h₆ tk₆ p₆ r₆ S₆ T₆ => wpAny_holding ?_
    exact p₆ e' r₆ { s with heap := h₆, toks := tk₆ } _ E S₆ fun f f' m₇ σ₇ h₇ tk₇ p₇ r₇ S₇ T₇ => c _ _ _ _ h₇ tk₇ p₇ r₇ S₇ (T.trans (T₅.trans (T₆.trans T₇)))
end
end Mine

namespace Mine
open PySem PySem.W PyProof.Rows

noncomputable abbrev KK (w : World) : Frag := hd.heap_1 w.params
noncomputable abbrev PP : Program := PySem.Challenge.rw_mr0338_01.row.prog

/-- the search: q i says «go behind i» -/
noncomputable def bs (q : Nat → Bool) (lo hi : Nat) : Nat :=
  if h : lo < hi then
    if q ((lo + hi) / 2) then bs q ((lo + hi) / 2 + 1) hi else bs q lo ((lo + hi) / 2)
  else lo
termination_by hi - lo
decreasing_by all_goals omega
theorem bs_le (q : Nat → Bool) (lo hi : Nat) (h : lo ≤ hi) : bs q lo hi ≤ hi := by
  fun_induction bs q lo hi with
  | case1 lo hi h1 h2 ih => exact ih (by omega)
  | case2 lo hi h1 h2 ih => have := ih (by omega); omega
  | case3 lo hi h1 => exact h

noncomputable def qR (xs : List Int) (x : Int) (i : Nat) : Bool := !decide (x < xs.getD i 0)
noncomputable def qL (xs : List Int) (x : Int) (i : Nat) : Bool := decide (xs.getD i 0 < x)
noncomputable def bisR (xs : List Int) (x : Int) : Nat := bs (qR xs x) 0 xs.length
noncomputable def bisL (xs : List Int) (x : Int) : Nat := bs (qL xs x) 0 xs.length
theorem bisR_le (xs : List Int) (x : Int) : bisR xs x ≤ xs.length := bs_le _ _ _ (Nat.zero_le _)
theorem bisL_le (xs : List Int) (x : Int) : bisL xs x ≤ xs.length := bs_le _ _ _ (Nat.zero_le _)

/-- a key function: on the ints of xs it gives key, and leaves all as it was -/
noncomputable def KeyOk (w : World) (g : Heap) (kf : V) (σ : AH) (xs : List Int) (key : Int → Int) : Prop :=
  ∀ A L m (Φ : V → Loc → AH → Prop), AOk A 1 → ∀ y ∈ xs, Φ (.int (key y)) m σ → ACall PP w g A L kf [.int y] [] m σ Φ

noncomputable abbrev fBR (w : World) : FuncData := fnAt (KK w) 39
theorem bisR_binds (w : World) (a : Addr) (x : Int) : ABind (KK w) (fBR w) [.ref a, .int x] [] [(Str.ofString "a", .ref a), (Str.ofString "x", .int x), (Str.ofString "lo", .int 0), (Str.ofString "hi", .none), (Str.ofString "key", .none)] := by
  intro pos' kw' rs rk
  obtain ⟨_, _, rfl, r0, rs⟩ := rs.c
  obtain ⟨_, _, rfl, r1, rs⟩ := rs.c
  obtain rfl := rs.n
  obtain rfl := rk.n
  exact ⟨[(Str.ofString "a", _), (Str.ofString "x", _), (Str.ofString "lo", .int 0 209), (Str.ofString "hi", .none), (Str.ofString "key", .none)], fun S => by kernel_rfl!, (.cons r0 (.cons r1 (.cons (.int 0 _) (.cons .none (.cons .none .nil)))))⟩
theorem bisR_binds4 (w : World) (a : Addr) (x : Int) : ABind (KK w) (fBR w) [.ref a, .int x, .int 0, .none] [] [(Str.ofString "a", .ref a), (Str.ofString "x", .int x), (Str.ofString "lo", .int 0), (Str.ofString "hi", .none), (Str.ofString "key", .none)] := by
  intro pos' kw' rs rk
  obtain ⟨_, _, rfl, r0, rs⟩ := rs.c
  obtain ⟨_, _, rfl, r1, rs⟩ := rs.c
  obtain ⟨_, _, rfl, r2, rs⟩ := rs.c
  obtain ⟨_, _, rfl, r3, rs⟩ := rs.c
  obtain rfl := rs.n
  obtain rfl := rk.n
  exact ⟨[(Str.ofString "a", _), (Str.ofString "x", _), (Str.ofString "lo", _), (Str.ofString "hi", _), (Str.ofString "key", .none)], fun S => by kernel_rfl!, (.cons r0 (.cons r1 (.cons r2 (.cons r3 (.cons .none .nil)))))⟩
theorem bisR_bindsK (w : World) (a : Addr) (x : Int) (kf : V) : ABind (KK w) (fBR w) [.ref a, .int x] [(Str.ofString "key", kf)] [(Str.ofString "a", .ref a), (Str.ofString "x", .int x), (Str.ofString "lo", .int 0), (Str.ofString "hi", .none), (Str.ofString "key", kf)] := by
  intro pos' kw' rs rk
  obtain ⟨_, _, rfl, r0, rs⟩ := rs.c
  obtain ⟨_, _, rfl, r1, rs⟩ := rs.c
  obtain rfl := rs.n
  obtain ⟨_, _, rfl, k0, rk⟩ := rk.c
  obtain rfl := rk.n
  exact ⟨[(Str.ofString "a", _), (Str.ofString "x", _), (Str.ofString "lo", .int 0 209), (Str.ofString "hi", .none), (Str.ofString "key", _)], fun S => by kernel_rfl!, (.cons r0 (.cons r1 (.cons (.int 0 _) (.cons .none (.cons k0 .nil)))))⟩
theorem bisR_binds4K (w : World) (a : Addr) (x : Int) (kf : V) : ABind (KK w) (fBR w) [.ref a, .int x, .int 0, .none] [(Str.ofString "key", kf)] [(Str.ofString "a", .ref a), (Str.ofString "x", .int x), (Str.ofString "lo", .int 0), (Str.ofString "hi", .none), (Str.ofString "key", kf)] := by
  intro pos' kw' rs rk
  obtain ⟨_, _, rfl, r0, rs⟩ := rs.c
  obtain ⟨_, _, rfl, r1, rs⟩ := rs.c
  obtain ⟨_, _, rfl, r2, rs⟩ := rs.c
  obtain ⟨_, _, rfl, r3, rs⟩ := rs.c
  obtain rfl := rs.n
  obtain ⟨_, _, rfl, k0, rk⟩ := rk.c
  obtain rfl := rk.n
  exact ⟨[(Str.ofString "a", _), (Str.ofString "x", _), (Str.ofString "lo", _), (Str.ofString "hi", _), (Str.ofString "key", _)], fun S => by kernel_rfl!, (.cons r0 (.cons r1 (.cons r2 (.cons r3 (.cons k0 .nil)))))⟩

noncomputable abbrev fBL (w : World) : FuncData := fnAt (KK w) 57
theorem bisL_binds (w : World) (a : Addr) (x : Int) : ABind (KK w) (fBL w) [.ref a, .int x] [] [(Str.ofString "a", .ref a), (Str.ofString "x", .int x), (Str.ofString "lo", .int 0), (Str.ofString "hi", .none), (Str.ofString "key", .none)] := by
  intro pos' kw' rs rk
  obtain ⟨_, _, rfl, r0, rs⟩ := rs.c
  obtain ⟨_, _, rfl, r1, rs⟩ := rs.c
  obtain rfl := rs.n
  obtain rfl := rk.n
  exact ⟨[(Str.ofString "a", _), (Str.ofString "x", _), (Str.ofString "lo", .int 0 236), (Str.ofString "hi", .none), (Str.ofString "key", .none)], fun S => by kernel_rfl!, (.cons r0 (.cons r1 (.cons (.int 0 _) (.cons .none (.cons .none .nil)))))⟩
theorem bisL_binds4 (w : World) (a : Addr) (x : Int) : ABind (KK w) (fBL w) [.ref a, .int x, .int 0, .none] [] [(Str.ofString "a", .ref a), (Str.ofString "x", .int x), (Str.ofString "lo", .int 0), (Str.ofString "hi", .none), (Str.ofString "key", .none)] := by
  intro pos' kw' rs rk
  obtain ⟨_, _, rfl, r0, rs⟩ := rs.c
  obtain ⟨_, _, rfl, r1, rs⟩ := rs.c
  obtain ⟨_, _, rfl, r2, rs⟩ := rs.c
  obtain ⟨_, _, rfl, r3, rs⟩ := rs.c
  obtain rfl := rs.n
  obtain rfl := rk.n
  exact ⟨[(Str.ofString "a", _), (Str.ofString "x", _), (Str.ofString "lo", _), (Str.ofString "hi", _), (Str.ofString "key", .none)], fun S => by kernel_rfl!, (.cons r0 (.cons r1 (.cons r2 (.cons r3 (.cons .none .nil)))))⟩
theorem bisL_bindsK (w : World) (a : Addr) (x : Int) (kf : V) : ABind (KK w) (fBL w) [.ref a, .int x] [(Str.ofString "key", kf)] [(Str.ofString "a", .ref a), (Str.ofString "x", .int x), (Str.ofString "lo", .int 0), (Str.ofString "hi", .none), (Str.ofString "key", kf)] := by
  intro pos' kw' rs rk
  obtain ⟨_, _, rfl, r0, rs⟩ := rs.c
  obtain ⟨_, _, rfl, r1, rs⟩ := rs.c
  obtain rfl := rs.n
  obtain ⟨_, _, rfl, k0, rk⟩ := rk.c
  obtain rfl := rk.n
  exact ⟨[(Str.ofString "a", _), (Str.ofString "x", _), (Str.ofString "lo", .int 0 236), (Str.ofString "hi", .none), (Str.ofString "key", _)], fun S => by kernel_rfl!, (.cons r0 (.cons r1 (.cons (.int 0 _) (.cons .none (.cons k0 .nil)))))⟩
theorem bisL_binds4K (w : World) (a : Addr) (x : Int) (kf : V) : ABind (KK w) (fBL w) [.ref a, .int x, .int 0, .none] [(Str.ofString "key", kf)] [(Str.ofString "a", .ref a), (Str.ofString "x", .int x), (Str.ofString "lo", .int 0), (Str.ofString "hi", .none), (Str.ofString "key", kf)] := by
  intro pos' kw' rs rk
  obtain ⟨_, _, rfl, r0, rs⟩ := rs.c
  obtain ⟨_, _, rfl, r1, rs⟩ := rs.c
  obtain ⟨_, _, rfl, r2, rs⟩ := rs.c
  obtain ⟨_, _, rfl, r3, rs⟩ := rs.c
  obtain rfl := rs.n
  obtain ⟨_, _, rfl, k0, rk⟩ := rk.c
  obtain rfl := rk.n
  exact ⟨[(Str.ofString "a", _), (Str.ofString "x", _), (Str.ofString "lo", _), (Str.ofString "hi", _), (Str.ofString "key", _)], fun S => by kernel_rfl!, (.cons r0 (.cons r1 (.cons r2 (.cons r3 (.cons k0 .nil)))))⟩

section
variable {w : World} {g : Heap} {A : Around} {env : Env} {m : Loc} {σ : AH}

theorem bisR_body (G : Gd (KK w) g) {L f a : Addr} {xs : List Int} {x : Int} (ha : σ a = some (.list (ivs xs))) (hz : xs.length < 2 ^ 62) :
    AXs PP w g A (callEnv (fBR w) L f) (bodyOf (fBR w)) [(Str.ofString "key", .none), (Str.ofString "hi", .none), (Str.ofString "lo", .int 0), (Str.ofString "x", .int x), (Str.ofString "a", .ref a)] σ
      fun fl _ σ' => fl = .ret (.int (bisR xs x : Nat)) ∧ σ' = σ := by
  refine AXs_cons (X_If (T_Compare1 (E_Local rfl (E_Int (lt_I (tr_B ?_))))))
  refine ⟨fun e => absurd e (by decide), fun _ => AXs_nil ?_⟩
  refine AXs_cons (X_If (T_Compare1 (E_Local rfl (E_None (is_None rfl (tr_B ?_))))))
  refine ⟨fun _ => ?_, fun e => absurd e (by decide)⟩
  refine AXs_cons (X_AssignLocal (E_Call (E_Builtin G (by kernel_rfl!) boot_len (.blt _) (Args_cons (E_Local rfl (Args_nil' (Kws_nil (call_len_list ha ?_ (by rw [ivs_length]; omega)))))))))
  refine AXs_nil ?_
  refine AXs_cons (X_If (T_Compare1 (E_Local rfl (E_None (is_None rfl (tr_B ?_))))))
  refine ⟨fun _ => ?_, fun e => absurd e (by decide)⟩
  refine AXs_cons (X_While (fun n m σ' => ∃ lo hi : Nat, n = hi - lo ∧ lo ≤ hi ∧ hi ≤ xs.length ∧ bs (qR xs x) lo hi = bs (qR xs x) 0 xs.length ∧ σ' = σ ∧
      m = [(Str.ofString "key", .none), (Str.ofString "hi", .int hi), (Str.ofString "lo", .int lo), (Str.ofString "x", .int x), (Str.ofString "a", .ref a)])
    xs.length ⟨0, xs.length, rfl, by omega, by omega, rfl, rfl, by rw [ivs_length]; rfl⟩ ?_)
  rintro n m σ' ⟨lo, hi, rfl, h1, h2, h3, rfl, rfl⟩
  refine T_Compare1 (E_Local rfl (E_Local rfl (lt_I (tr_B ⟨fun e => ?_, fun e => AXs_nil ?_⟩))))
  · have hlt : lo < hi := by have := of_decide_eq_true e; omega
    have hmid : ((lo : Int) + hi).fdiv 2 = (((lo + hi) / 2 : Nat) : Int) := by rw [Int.fdiv_eq_ediv_of_nonneg _ (by decide)]; omega
    have hm : (lo + hi) / 2 < xs.length := by omega
    generalize hmd : (lo + hi) / 2 = md at hmid hm
    refine AXs_cons (X_AssignLocal (E_BinOp (E_BinOp (E_Local rfl (E_Local rfl (add_I (E_Int (fdiv2_I ?_))))))))
    rw [hmid]
    refine AXs_cons (X_If (T_Compare1 (E_Local rfl (E_Sub (E_Local rfl (E_Local rfl (sub_listN ha (by omega) (ivs_get hm) ((lt_I (tr_B ⟨fun e2 => ?_, fun e2 => ?_⟩))))))))))
    · refine AXs_cons (X_AssignLocal (E_Local rfl (AXs_nil (AXs_nil ?_))))
      refine ⟨_, _, LSub.pre [(_, _), (_, _), (_, _), (_, _), (_, _)] [(_, _)], Sub.refl _, md - lo, by omega, lo, md, rfl, by omega, by omega, ?_, rfl, rfl⟩
      rw [← h3, bs.eq_def _ lo hi, dif_pos hlt, hmd]
      skip
      have : qR xs x md = false := by unfold qR; rw [e2]; rfl
      rw [this]; rfl
    · refine AXs_cons (X_AssignLocal (E_BinOp (E_Local rfl (E_Int (add_I (AXs_nil (AXs_nil ?_)))))))
      refine ⟨_, _, LSub.pre [(_, _), (_, _), (_, _), (_, _), (_, _)] [(_, _)], Sub.refl _, hi - (md + 1), by omega, md + 1, hi, rfl, by omega, by omega, ?_, rfl, rfl⟩
      rw [← h3, bs.eq_def _ lo hi, dif_pos hlt, hmd]
      skip
      have : qR xs x md = true := by unfold qR; rw [e2]; rfl
      rw [this]; rfl
  · have hlo : lo = hi := by have := of_decide_eq_false e; omega
    refine AXs_nil ?_
    refine AXs_cons (X_Return (E_Local rfl ⟨?_, rfl⟩))
    unfold bisR
    skip
    rw [← h3, bs.eq_def, dif_neg (by omega)]

theorem bisR_bodyK (G : Gd (KK w) g) {L f a : Addr} {xs : List Int} {x : Int} {kf : V} {key : Int → Int} (ha : σ a = some (.list (ivs xs))) (hz : xs.length < 2 ^ 62) (hk : KeyOk w g kf σ xs key) (hsm : kf.small = true) (hkn : kf.isNone = false) (hA : AOk A 1) :
    AXs PP w g A (callEnv (fBR w) L f) (bodyOf (fBR w)) [(Str.ofString "key", kf), (Str.ofString "hi", .none), (Str.ofString "lo", .int 0), (Str.ofString "x", .int x), (Str.ofString "a", .ref a)] σ
      fun fl _ σ' => fl = .ret (.int (bisR (xs.map key) x : Nat)) ∧ σ' = σ := by
  refine AXs_cons (X_If (T_Compare1 (E_Local rfl (E_Int (lt_I (tr_B ?_))))))
  refine ⟨fun e => absurd e (by decide), fun _ => AXs_nil ?_⟩
  refine AXs_cons (X_If (T_Compare1 (E_Local rfl (E_None (is_None rfl (tr_B ?_))))))
  refine ⟨fun _ => ?_, fun e => absurd e (by decide)⟩
  refine AXs_cons (X_AssignLocal (E_Call (E_Builtin G (by kernel_rfl!) boot_len (.blt _) (Args_cons (E_Local rfl (Args_nil' (Kws_nil (call_len_list ha ?_ (by rw [ivs_length]; omega)))))))))
  refine AXs_nil ?_
  refine AXs_cons (X_If (T_Compare1 (E_Local rfl (E_None (is_None hsm (tr_B ?_))))))
  refine ⟨fun e => absurd e (by rw [hkn]; decide), fun _ => ?_⟩
  have hget : ∀ i, i < xs.length → (xs.map key).getD i 0 = key (xs.getD i 0) := fun i hi => by simp [hi]
  refine AXs_cons (X_While (fun n m σ' => ∃ lo hi : Nat, n = hi - lo ∧ lo ≤ hi ∧ hi ≤ xs.length ∧ bs (qR (xs.map key) x) lo hi = bs (qR (xs.map key) x) 0 xs.length ∧ σ' = σ ∧
      m = [(Str.ofString "key", kf), (Str.ofString "hi", .int hi), (Str.ofString "lo", .int lo), (Str.ofString "x", .int x), (Str.ofString "a", .ref a)])
    xs.length ⟨0, xs.length, rfl, by omega, by omega, rfl, rfl, by rw [ivs_length]; rfl⟩ ?_)
  rintro n m σ' ⟨lo, hi, rfl, h1, h2, h3, rfl, rfl⟩
  refine T_Compare1 (E_Local rfl (E_Local rfl (lt_I (tr_B ⟨fun e => ?_, fun e => AXs_nil ?_⟩))))
  · have hlt : lo < hi := by have := of_decide_eq_true e; omega
    have hmid : ((lo : Int) + hi).fdiv 2 = (((lo + hi) / 2 : Nat) : Int) := by rw [Int.fdiv_eq_ediv_of_nonneg _ (by decide)]; omega
    have hm : (lo + hi) / 2 < xs.length := by omega
    generalize hmd : (lo + hi) / 2 = md at hmid hm
    refine AXs_cons (X_AssignLocal (E_BinOp (E_BinOp (E_Local rfl (E_Local rfl (add_I (E_Int (fdiv2_I ?_))))))))
    rw [hmid]
    refine AXs_cons (X_If (T_Compare1 (E_Local rfl (E_Call (E_Local rfl (Args_cons (E_Sub (E_Local rfl (E_Local rfl (sub_listN ha (by omega) (ivs_get hm) (Args_nil' (Kws_nil (hk _ _ _ _ hA _ (by rw [List.getD_eq_getElem?_getD, List.getElem?_eq_getElem hm]; exact List.getElem_mem hm) (lt_I (tr_B ⟨fun e2 => ?_, fun e2 => ?_⟩)))))))))))))))
    · refine AXs_cons (X_AssignLocal (E_Local rfl (AXs_nil (AXs_nil ?_))))
      refine ⟨_, _, LSub.pre [(_, _), (_, _), (_, _), (_, _), (_, _)] [(_, _)], Sub.refl _, md - lo, by omega, lo, md, rfl, by omega, by omega, ?_, rfl, rfl⟩
      rw [← h3, bs.eq_def _ lo hi, dif_pos hlt, hmd]
      rw [← hget md hm] at e2
      have : qR (xs.map key) x md = false := by unfold qR; rw [e2]; rfl
      rw [this]; rfl
    · refine AXs_cons (X_AssignLocal (E_BinOp (E_Local rfl (E_Int (add_I (AXs_nil (AXs_nil ?_)))))))
      refine ⟨_, _, LSub.pre [(_, _), (_, _), (_, _), (_, _), (_, _)] [(_, _)], Sub.refl _, hi - (md + 1), by omega, md + 1, hi, rfl, by omega, by omega, ?_, rfl, rfl⟩
      rw [← h3, bs.eq_def _ lo hi, dif_pos hlt, hmd]
      rw [← hget md hm] at e2
      have : qR (xs.map key) x md = true := by unfold qR; rw [e2]; rfl
      rw [this]; rfl
  · have hlo : lo = hi := by have := of_decide_eq_false e; omega
    refine AXs_nil ?_
    refine AXs_cons (X_Return (E_Local rfl ⟨?_, rfl⟩))
    unfold bisR
    rw [List.length_map]
    rw [← h3, bs.eq_def, dif_neg (by omega)]

theorem bisR_call (G : Gd (KK w) g) (hA : AOk A 2) {L a : Addr} {xs : List Int} {x : Int} {Φ : V → Loc → AH → Prop} (ha : σ a = some (.list (ivs xs))) (hz : xs.length < 2 ^ 62) (h : Φ (.int (bisR xs x : Nat)) m σ) :
    ACall PP w g A L (.ref 39) [.ref a, .int x] [] m σ Φ := by
  refine call_def (fd := fBR w) (oc := .type "function") (od := none) (osl := #[]) G hA.room (by kernel_rfl!) (by kernel_rfl!) (by kernel_rfl!) (bisR_binds w a x) (by kernel_rfl!) (by kernel_rfl!) (fun L' => ?_) (by kernel_rfl!) (by kernel_rfl!) (by kernel_rfl!)
  refine (bisR_body G ha hz).mono ?_
  rintro fl m' σ' ⟨rfl, rfl⟩
  exact ⟨_, Sub.refl _, h⟩

theorem bisR_call4 (G : Gd (KK w) g) (hA : AOk A 2) {L a : Addr} {xs : List Int} {x : Int} {Φ : V → Loc → AH → Prop} (ha : σ a = some (.list (ivs xs))) (hz : xs.length < 2 ^ 62) (h : Φ (.int (bisR xs x : Nat)) m σ) :
    ACall PP w g A L (.ref 39) [.ref a, .int x, .int 0, .none] [] m σ Φ := by
  refine call_def (fd := fBR w) (oc := .type "function") (od := none) (osl := #[]) G hA.room (by kernel_rfl!) (by kernel_rfl!) (by kernel_rfl!) (bisR_binds4 w a x) (by kernel_rfl!) (by kernel_rfl!) (fun L' => ?_) (by kernel_rfl!) (by kernel_rfl!) (by kernel_rfl!)
  refine (bisR_body G ha hz).mono ?_
  rintro fl m' σ' ⟨rfl, rfl⟩
  exact ⟨_, Sub.refl _, h⟩

theorem bisR_callK (G : Gd (KK w) g) (hA : AOk A 2) {L a : Addr} {xs : List Int} {x : Int} {kf : V} {key : Int → Int} {Φ : V → Loc → AH → Prop} (ha : σ a = some (.list (ivs xs))) (hz : xs.length < 2 ^ 62) (hk : KeyOk w g kf σ xs key) (hsm : kf.small = true) (hkn : kf.isNone = false) (h : Φ (.int (bisR (xs.map key) x : Nat)) m σ) :
    ACall PP w g A L (.ref 39) [.ref a, .int x] [(Str.ofString "key", kf)] m σ Φ := by
  refine call_def (fd := fBR w) (oc := .type "function") (od := none) (osl := #[]) G hA.room (by kernel_rfl!) (by kernel_rfl!) (by kernel_rfl!) (bisR_bindsK w a x kf) (by kernel_rfl!) (by kernel_rfl!) (fun L' => ?_) (by kernel_rfl!) (by kernel_rfl!) (by kernel_rfl!)
  refine (bisR_bodyK G ha hz hk hsm hkn (hA.deeper _)).mono ?_
  rintro fl m' σ' ⟨rfl, rfl⟩
  exact ⟨_, Sub.refl _, h⟩

theorem bisR_call4K (G : Gd (KK w) g) (hA : AOk A 2) {L a : Addr} {xs : List Int} {x : Int} {kf : V} {key : Int → Int} {Φ : V → Loc → AH → Prop} (ha : σ a = some (.list (ivs xs))) (hz : xs.length < 2 ^ 62) (hk : KeyOk w g kf σ xs key) (hsm : kf.small = true) (hkn : kf.isNone = false) (h : Φ (.int (bisR (xs.map key) x : Nat)) m σ) :
    ACall PP w g A L (.ref 39) [.ref a, .int x, .int 0, .none] [(Str.ofString "key", kf)] m σ Φ := by
  refine call_def (fd := fBR w) (oc := .type "function") (od := none) (osl := #[]) G hA.room (by kernel_rfl!) (by kernel_rfl!) (by kernel_rfl!) (bisR_binds4K w a x kf) (by kernel_rfl!) (by kernel_rfl!) (fun L' => ?_) (by kernel_rfl!) (by kernel_rfl!) (by kernel_rfl!)
  refine (bisR_bodyK G ha hz hk hsm hkn (hA.deeper _)).mono ?_
  rintro fl m' σ' ⟨rfl, rfl⟩
  exact ⟨_, Sub.refl _, h⟩

theorem bisL_body (G : Gd (KK w) g) {L f a : Addr} {xs : List Int} {x : Int} (ha : σ a = some (.list (ivs xs))) (hz : xs.length < 2 ^ 62) :
    AXs PP w g A (callEnv (fBL w) L f) (bodyOf (fBL w)) [(Str.ofString "key", .none), (Str.ofString "hi", .none), (Str.ofString "lo", .int 0), (Str.ofString "x", .int x), (Str.ofString "a", .ref a)] σ
      fun fl _ σ' => fl = .ret (.int (bisL xs x : Nat)) ∧ σ' = σ := by
  refine AXs_cons (X_If (T_Compare1 (E_Local rfl (E_Int (lt_I (tr_B ?_))))))
  refine ⟨fun e => absurd e (by decide), fun _ => AXs_nil ?_⟩
  refine AXs_cons (X_If (T_Compare1 (E_Local rfl (E_None (is_None rfl (tr_B ?_))))))
  refine ⟨fun _ => ?_, fun e => absurd e (by decide)⟩
  refine AXs_cons (X_AssignLocal (E_Call (E_Builtin G (by kernel_rfl!) boot_len (.blt _) (Args_cons (E_Local rfl (Args_nil' (Kws_nil (call_len_list ha ?_ (by rw [ivs_length]; omega)))))))))
  refine AXs_nil ?_
  refine AXs_cons (X_If (T_Compare1 (E_Local rfl (E_None (is_None rfl (tr_B ?_))))))
  refine ⟨fun _ => ?_, fun e => absurd e (by decide)⟩
  refine AXs_cons (X_While (fun n m σ' => ∃ lo hi : Nat, n = hi - lo ∧ lo ≤ hi ∧ hi ≤ xs.length ∧ bs (qL xs x) lo hi = bs (qL xs x) 0 xs.length ∧ σ' = σ ∧
      m = [(Str.ofString "key", .none), (Str.ofString "hi", .int hi), (Str.ofString "lo", .int lo), (Str.ofString "x", .int x), (Str.ofString "a", .ref a)])
    xs.length ⟨0, xs.length, rfl, by omega, by omega, rfl, rfl, by rw [ivs_length]; rfl⟩ ?_)
  rintro n m σ' ⟨lo, hi, rfl, h1, h2, h3, rfl, rfl⟩
  refine T_Compare1 (E_Local rfl (E_Local rfl (lt_I (tr_B ⟨fun e => ?_, fun e => AXs_nil ?_⟩))))
  · have hlt : lo < hi := by have := of_decide_eq_true e; omega
    have hmid : ((lo : Int) + hi).fdiv 2 = (((lo + hi) / 2 : Nat) : Int) := by rw [Int.fdiv_eq_ediv_of_nonneg _ (by decide)]; omega
    have hm : (lo + hi) / 2 < xs.length := by omega
    generalize hmd : (lo + hi) / 2 = md at hmid hm
    refine AXs_cons (X_AssignLocal (E_BinOp (E_BinOp (E_Local rfl (E_Local rfl (add_I (E_Int (fdiv2_I ?_))))))))
    rw [hmid]
    refine AXs_cons (X_If (T_Compare1 (E_Sub (E_Local rfl (E_Local rfl (sub_listN ha (by omega) (ivs_get hm) ((E_Local rfl (lt_I (tr_B ⟨fun e2 => ?_, fun e2 => ?_⟩))))))))))
    · refine AXs_cons (X_AssignLocal (E_BinOp (E_Local rfl (E_Int (add_I (AXs_nil (AXs_nil ?_)))))))
      refine ⟨_, _, LSub.pre [(_, _), (_, _), (_, _), (_, _), (_, _)] [(_, _)], Sub.refl _, hi - (md + 1), by omega, md + 1, hi, rfl, by omega, by omega, ?_, rfl, rfl⟩
      rw [← h3, bs.eq_def _ lo hi, dif_pos hlt, hmd]
      skip
      have : qL xs x md = true := by unfold qL; rw [e2]
      rw [this]; rfl
    · refine AXs_cons (X_AssignLocal (E_Local rfl (AXs_nil (AXs_nil ?_))))
      refine ⟨_, _, LSub.pre [(_, _), (_, _), (_, _), (_, _), (_, _)] [(_, _)], Sub.refl _, md - lo, by omega, lo, md, rfl, by omega, by omega, ?_, rfl, rfl⟩
      rw [← h3, bs.eq_def _ lo hi, dif_pos hlt, hmd]
      skip
      have : qL xs x md = false := by unfold qL; rw [e2]
      rw [this]; rfl
  · have hlo : lo = hi := by have := of_decide_eq_false e; omega
    refine AXs_nil ?_
    refine AXs_cons (X_Return (E_Local rfl ⟨?_, rfl⟩))
    unfold bisL
    skip
    rw [← h3, bs.eq_def, dif_neg (by omega)]

theorem bisL_bodyK (G : Gd (KK w) g) {L f a : Addr} {xs : List Int} {x : Int} {kf : V} {key : Int → Int} (ha : σ a = some (.list (ivs xs))) (hz : xs.length < 2 ^ 62) (hk : KeyOk w g kf σ xs key) (hsm : kf.small = true) (hkn : kf.isNone = false) (hA : AOk A 1) :
    AXs PP w g A (callEnv (fBL w) L f) (bodyOf (fBL w)) [(Str.ofString "key", kf), (Str.ofString "hi", .none), (Str.ofString "lo", .int 0), (Str.ofString "x", .int x), (Str.ofString "a", .ref a)] σ
      fun fl _ σ' => fl = .ret (.int (bisL (xs.map key) x : Nat)) ∧ σ' = σ := by
  refine AXs_cons (X_If (T_Compare1 (E_Local rfl (E_Int (lt_I (tr_B ?_))))))
  refine ⟨fun e => absurd e (by decide), fun _ => AXs_nil ?_⟩
  refine AXs_cons (X_If (T_Compare1 (E_Local rfl (E_None (is_None rfl (tr_B ?_))))))
  refine ⟨fun _ => ?_, fun e => absurd e (by decide)⟩
  refine AXs_cons (X_AssignLocal (E_Call (E_Builtin G (by kernel_rfl!) boot_len (.blt _) (Args_cons (E_Local rfl (Args_nil' (Kws_nil (call_len_list ha ?_ (by rw [ivs_length]; omega)))))))))
  refine AXs_nil ?_
  refine AXs_cons (X_If (T_Compare1 (E_Local rfl (E_None (is_None hsm (tr_B ?_))))))
  refine ⟨fun e => absurd e (by rw [hkn]; decide), fun _ => ?_⟩
  have hget : ∀ i, i < xs.length → (xs.map key).getD i 0 = key (xs.getD i 0) := fun i hi => by simp [hi]
  refine AXs_cons (X_While (fun n m σ' => ∃ lo hi : Nat, n = hi - lo ∧ lo ≤ hi ∧ hi ≤ xs.length ∧ bs (qL (xs.map key) x) lo hi = bs (qL (xs.map key) x) 0 xs.length ∧ σ' = σ ∧
      m = [(Str.ofString "key", kf), (Str.ofString "hi", .int hi), (Str.ofString "lo", .int lo), (Str.ofString "x", .int x), (Str.ofString "a", .ref a)])
    xs.length ⟨0, xs.length, rfl, by omega, by omega, rfl, rfl, by rw [ivs_length]; rfl⟩ ?_)
  rintro n m σ' ⟨lo, hi, rfl, h1, h2, h3, rfl, rfl⟩
  refine T_Compare1 (E_Local rfl (E_Local rfl (lt_I (tr_B ⟨fun e => ?_, fun e => AXs_nil ?_⟩))))
  · have hlt : lo < hi := by have := of_decide_eq_true e; omega
    have hmid : ((lo : Int) + hi).fdiv 2 = (((lo + hi) / 2 : Nat) : Int) := by rw [Int.fdiv_eq_ediv_of_nonneg _ (by decide)]; omega
    have hm : (lo + hi) / 2 < xs.length := by omega
    generalize hmd : (lo + hi) / 2 = md at hmid hm
    refine AXs_cons (X_AssignLocal (E_BinOp (E_BinOp (E_Local rfl (E_Local rfl (add_I (E_Int (fdiv2_I ?_))))))))
    rw [hmid]
    refine AXs_cons (X_If (T_Compare1 (E_Call (E_Local rfl (Args_cons (E_Sub (E_Local rfl (E_Local rfl (sub_listN ha (by omega) (ivs_get hm) (Args_nil' (Kws_nil (hk _ _ _ _ hA _ (by rw [List.getD_eq_getElem?_getD, List.getElem?_eq_getElem hm]; exact List.getElem_mem hm) (E_Local rfl (lt_I (tr_B ⟨fun e2 => ?_, fun e2 => ?_⟩)))))))))))))))
    · refine AXs_cons (X_AssignLocal (E_BinOp (E_Local rfl (E_Int (add_I (AXs_nil (AXs_nil ?_)))))))
      refine ⟨_, _, LSub.pre [(_, _), (_, _), (_, _), (_, _), (_, _)] [(_, _)], Sub.refl _, hi - (md + 1), by omega, md + 1, hi, rfl, by omega, by omega, ?_, rfl, rfl⟩
      rw [← h3, bs.eq_def _ lo hi, dif_pos hlt, hmd]
      rw [← hget md hm] at e2
      have : qL (xs.map key) x md = true := by unfold qL; rw [e2]
      rw [this]; rfl
    · refine AXs_cons (X_AssignLocal (E_Local rfl (AXs_nil (AXs_nil ?_))))
      refine ⟨_, _, LSub.pre [(_, _), (_, _), (_, _), (_, _), (_, _)] [(_, _)], Sub.refl _, md - lo, by omega, lo, md, rfl, by omega, by omega, ?_, rfl, rfl⟩
      rw [← h3, bs.eq_def _ lo hi, dif_pos hlt, hmd]
      rw [← hget md hm] at e2
      have : qL (xs.map key) x md = false := by unfold qL; rw [e2]
      rw [this]; rfl
  · have hlo : lo = hi := by have := of_decide_eq_false e; omega
    refine AXs_nil ?_
    refine AXs_cons (X_Return (E_Local rfl ⟨?_, rfl⟩))
    unfold bisL
    rw [List.length_map]
    rw [← h3, bs.eq_def, dif_neg (by omega)]

theorem bisL_call (G : Gd (KK w) g) (hA : AOk A 2) {L a : Addr} {xs : List Int} {x : Int} {Φ : V → Loc → AH → Prop} (ha : σ a = some (.list (ivs xs))) (hz : xs.length < 2 ^ 62) (h : Φ (.int (bisL xs x : Nat)) m σ) :
    ACall PP w g A L (.ref 57) [.ref a, .int x] [] m σ Φ := by
  refine call_def (fd := fBL w) (oc := .type "function") (od := none) (osl := #[]) G hA.room (by kernel_rfl!) (by kernel_rfl!) (by kernel_rfl!) (bisL_binds w a x) (by kernel_rfl!) (by kernel_rfl!) (fun L' => ?_) (by kernel_rfl!) (by kernel_rfl!) (by kernel_rfl!)
  refine (bisL_body G ha hz).mono ?_
  rintro fl m' σ' ⟨rfl, rfl⟩
  exact ⟨_, Sub.refl _, h⟩

theorem bisL_call4 (G : Gd (KK w) g) (hA : AOk A 2) {L a : Addr} {xs : List Int} {x : Int} {Φ : V → Loc → AH → Prop} (ha : σ a = some (.list (ivs xs))) (hz : xs.length < 2 ^ 62) (h : Φ (.int (bisL xs x : Nat)) m σ) :
    ACall PP w g A L (.ref 57) [.ref a, .int x, .int 0, .none] [] m σ Φ := by
  refine call_def (fd := fBL w) (oc := .type "function") (od := none) (osl := #[]) G hA.room (by kernel_rfl!) (by kernel_rfl!) (by kernel_rfl!) (bisL_binds4 w a x) (by kernel_rfl!) (by kernel_rfl!) (fun L' => ?_) (by kernel_rfl!) (by kernel_rfl!) (by kernel_rfl!)
  refine (bisL_body G ha hz).mono ?_
  rintro fl m' σ' ⟨rfl, rfl⟩
  exact ⟨_, Sub.refl _, h⟩

theorem bisL_callK (G : Gd (KK w) g) (hA : AOk A 2) {L a : Addr} {xs : List Int} {x : Int} {kf : V} {key : Int → Int} {Φ : V → Loc → AH → Prop} (ha : σ a = some (.list (ivs xs))) (hz : xs.length < 2 ^ 62) (hk : KeyOk w g kf σ xs key) (hsm : kf.small = true) (hkn : kf.isNone = false) (h : Φ (.int (bisL (xs.map key) x : Nat)) m σ) :
    ACall PP w g A L (.ref 57) [.ref a, .int x] [(Str.ofString "key", kf)] m σ Φ := by
  refine call_def (fd := fBL w) (oc := .type "function") (od := none) (osl := #[]) G hA.room (by kernel_rfl!) (by kernel_rfl!) (by kernel_rfl!) (bisL_bindsK w a x kf) (by kernel_rfl!) (by kernel_rfl!) (fun L' => ?_) (by kernel_rfl!) (by kernel_rfl!) (by kernel_rfl!)
  refine (bisL_bodyK G ha hz hk hsm hkn (hA.deeper _)).mono ?_
  rintro fl m' σ' ⟨rfl, rfl⟩
  exact ⟨_, Sub.refl _, h⟩

theorem bisL_call4K (G : Gd (KK w) g) (hA : AOk A 2) {L a : Addr} {xs : List Int} {x : Int} {kf : V} {key : Int → Int} {Φ : V → Loc → AH → Prop} (ha : σ a = some (.list (ivs xs))) (hz : xs.length < 2 ^ 62) (hk : KeyOk w g kf σ xs key) (hsm : kf.small = true) (hkn : kf.isNone = false) (h : Φ (.int (bisL (xs.map key) x : Nat)) m σ) :
    ACall PP w g A L (.ref 57) [.ref a, .int x, .int 0, .none] [(Str.ofString "key", kf)] m σ Φ := by
  refine call_def (fd := fBL w) (oc := .type "function") (od := none) (osl := #[]) G hA.room (by kernel_rfl!) (by kernel_rfl!) (by kernel_rfl!) (bisL_binds4K w a x kf) (by kernel_rfl!) (by kernel_rfl!) (fun L' => ?_) (by kernel_rfl!) (by kernel_rfl!) (by kernel_rfl!)
  refine (bisL_bodyK G ha hz hk hsm hkn (hA.deeper _)).mono ?_
  rintro fl m' σ' ⟨rfl, rfl⟩
  exact ⟨_, Sub.refl _, h⟩
end
end Mine

namespace Mine
open PySem PySem.W PyProof.Rows

/-- x put at the place k -/
noncomputable def insAt (xs : List Int) (k : Nat) (x : Int) : List Int := xs.take k ++ x :: xs.drop k
theorem insAt_ivs (xs : List Int) (k : Nat) (x : Int) : (ivs xs).take k ++ V.int x :: (ivs xs).drop k = ivs (insAt xs k x) := by
  unfold ivs insAt
  rw [List.map_append, List.map_cons, List.map_take, List.map_drop]
theorem insAt_length (xs : List Int) (k : Nat) (x : Int) : (insAt xs k x).length = xs.length + 1 := by
  unfold insAt; simp; omega

noncomputable abbrev fIR (w : World) : FuncData := fnAt (KK w) 30
noncomputable abbrev fIL (w : World) : FuncData := fnAt (KK w) 48

theorem insR_binds (w : World) (a : Addr) (x : Int) : ABind (KK w) (fIR w) [.ref a, .int x] [] [(Str.ofString "a", .ref a), (Str.ofString "x", .int x), (Str.ofString "lo", .int 0), (Str.ofString "hi", .none), (Str.ofString "key", .none)] := by
  intro pos' kw' rs rk
  obtain ⟨_, _, rfl, r0, rs⟩ := rs.c
  obtain ⟨_, _, rfl, r1, rs⟩ := rs.c
  obtain rfl := rs.n
  obtain rfl := rk.n
  exact ⟨[(Str.ofString "a", _), (Str.ofString "x", _), (Str.ofString "lo", .int 0 196), (Str.ofString "hi", .none), (Str.ofString "key", .none)], fun S => by kernel_rfl!, .cons r0 (.cons r1 (.cons (.int 0 _) (.cons .none (.cons .none .nil))))⟩
theorem insR_bindsK (w : World) (a : Addr) (x : Int) (kf : V) : ABind (KK w) (fIR w) [.ref a, .int x] [(Str.ofString "key", kf)] [(Str.ofString "a", .ref a), (Str.ofString "x", .int x), (Str.ofString "lo", .int 0), (Str.ofString "hi", .none), (Str.ofString "key", kf)] := by
  intro pos' kw' rs rk
  obtain ⟨_, _, rfl, r0, rs⟩ := rs.c
  obtain ⟨_, _, rfl, r1, rs⟩ := rs.c
  obtain rfl := rs.n
  obtain ⟨_, _, rfl, k0, rk⟩ := rk.c
  obtain rfl := rk.n
  exact ⟨[(Str.ofString "a", _), (Str.ofString "x", _), (Str.ofString "lo", .int 0 196), (Str.ofString "hi", .none), (Str.ofString "key", _)], fun S => by kernel_rfl!, .cons r0 (.cons r1 (.cons (.int 0 _) (.cons .none (.cons k0 .nil))))⟩
theorem insL_binds (w : World) (a : Addr) (x : Int) : ABind (KK w) (fIL w) [.ref a, .int x] [] [(Str.ofString "a", .ref a), (Str.ofString "x", .int x), (Str.ofString "lo", .int 0), (Str.ofString "hi", .none), (Str.ofString "key", .none)] := by
  intro pos' kw' rs rk
  obtain ⟨_, _, rfl, r0, rs⟩ := rs.c
  obtain ⟨_, _, rfl, r1, rs⟩ := rs.c
  obtain rfl := rs.n
  obtain rfl := rk.n
  exact ⟨[(Str.ofString "a", _), (Str.ofString "x", _), (Str.ofString "lo", .int 0 223), (Str.ofString "hi", .none), (Str.ofString "key", .none)], fun S => by kernel_rfl!, .cons r0 (.cons r1 (.cons (.int 0 _) (.cons .none (.cons .none .nil))))⟩

section
variable {w : World} {g : Heap} {A : Around} {m : Loc} {σ : AH}

theorem small_of {n : Nat} (h : n ≤ 1000) : n < 2 ^ 62 ∧ n ≤ sizeLine := ⟨by omega, by have := sizeLine_eq; omega⟩

theorem insR_call (G : Gd (KK w) g) (hA : AOk A 3) {L a : Addr} {xs : List Int} {x : Int} {Φ : V → Loc → AH → Prop} (ha : σ a = some (.list (ivs xs))) (hz : xs.length ≤ 1000)
    (h : Φ .none m (σ.set a (.list (ivs (insAt xs (bisR xs x) x))))) : ACall PP w g A L (.ref 30) [.ref a, .int x] [] m σ Φ := by
  refine call_def (fd := fIR w) (oc := .type "function") (od := none) (osl := #[]) G hA.room (by kernel_rfl!) (by kernel_rfl!) (by kernel_rfl!) (insR_binds w a x) (by kernel_rfl!) (by kernel_rfl!) (fun L' => ?_) (by kernel_rfl!) (by kernel_rfl!) (by kernel_rfl!)
  refine AXs_cons (X_If (T_Compare1 (E_Local rfl (E_None (is_None rfl (tr_B ⟨fun _ => ?_, fun e => absurd e (by decide)⟩))))))
  refine AXs_cons <| X_AssignLocal <| E_Call <| E_Global G (by kernel_rfl!) (.ref 39) <| Args_cons <| E_Local rfl <| Args_cons' <| E_Local rfl <| Args_cons' <| E_Local rfl <| Args_cons' <| E_Local rfl <| Args_nil' <| Kws_nil ?_
  refine bisR_call4 G (hA.deeper _) ha (small_of hz).1 (AXs_nil ?_)
  refine AXs_cons <| X_Expr <| E_CallAttr (few := true) (by kernel_rfl!) <| E_Local rfl <| callee_list ha F.slot_list_insert F.type_list_insert <| Args_cons <| E_Local rfl <| Args_cons' <| E_Local rfl <| Args_nil' <| Kws_nil ?_
  refine call_list_insert ha (by rw [ivs_length]; exact bisR_le xs x) (by rw [ivs_length]; exact (small_of hz).2) (AXs_nil ⟨_, Sub.refl _, ?_⟩)
  rw [insAt_ivs]
  exact h

theorem insR_callK (G : Gd (KK w) g) (hA : AOk A 3) {L a : Addr} {xs : List Int} {x : Int} {kf : V} {key : Int → Int} {Φ : V → Loc → AH → Prop} (ha : σ a = some (.list (ivs xs))) (hz : xs.length ≤ 1000)
    (hk : KeyOk w g kf σ (x :: xs) key) (hsm : kf.small = true) (hkn : kf.isNone = false)
    (h : Φ .none m (σ.set a (.list (ivs (insAt xs (bisR (xs.map key) (key x)) x))))) : ACall PP w g A L (.ref 30) [.ref a, .int x] [(Str.ofString "key", kf)] m σ Φ := by
  have hk' : KeyOk w g kf σ xs key := fun A L m Φ hA y hy q => hk A L m Φ hA y (List.mem_cons_of_mem _ hy) q
  refine call_def (fd := fIR w) (oc := .type "function") (od := none) (osl := #[]) G hA.room (by kernel_rfl!) (by kernel_rfl!) (by kernel_rfl!) (insR_bindsK w a x kf) (by kernel_rfl!) (by kernel_rfl!) (fun L' => ?_) (by kernel_rfl!) (by kernel_rfl!) (by kernel_rfl!)
  refine AXs_cons (X_If (T_Compare1 (E_Local rfl (E_None (is_None hsm (tr_B ⟨fun e => absurd e (by rw [hkn]; decide), fun _ => ?_⟩))))))
  refine AXs_cons <| X_AssignLocal <| E_Call <| E_Global G (by kernel_rfl!) (.ref 39) <| Args_cons <| E_Local rfl <| Args_cons' <| E_Call <| E_Local rfl <| Args_cons <| E_Local rfl <| Args_nil' <| Kws_nil <| hk _ _ _ _ ((hA.deeper _).le (by omega)) x (List.mem_cons_self ..) <|
    Args_cons' <| E_Local rfl <| Args_cons' <| E_Local rfl <| Args_nil' <| Kws_cons <| E_Local rfl <| Kws_nil ?_
  refine bisR_call4K G (hA.deeper _) ha (small_of hz).1 hk' hsm hkn (AXs_nil ?_)
  have hle : bisR (xs.map key) (key x) ≤ xs.length := by have := bisR_le (xs.map key) (key x); rwa [List.length_map] at this
  refine AXs_cons <| X_Expr <| E_CallAttr (few := true) (by kernel_rfl!) <| E_Local rfl <| callee_list ha F.slot_list_insert F.type_list_insert <| Args_cons <| E_Local rfl <| Args_cons' <| E_Local rfl <| Args_nil' <| Kws_nil ?_
  refine call_list_insert ha (by rw [ivs_length]; exact hle) (by rw [ivs_length]; exact (small_of hz).2) (AXs_nil ⟨_, Sub.refl _, ?_⟩)
  rw [insAt_ivs]
  exact h

theorem insL_call (G : Gd (KK w) g) (hA : AOk A 3) {L a : Addr} {xs : List Int} {x : Int} {Φ : V → Loc → AH → Prop} (ha : σ a = some (.list (ivs xs))) (hz : xs.length ≤ 1000)
    (h : Φ .none m (σ.set a (.list (ivs (insAt xs (bisL xs x) x))))) : ACall PP w g A L (.ref 48) [.ref a, .int x] [] m σ Φ := by
  refine call_def (fd := fIL w) (oc := .type "function") (od := none) (osl := #[]) G hA.room (by kernel_rfl!) (by kernel_rfl!) (by kernel_rfl!) (insL_binds w a x) (by kernel_rfl!) (by kernel_rfl!) (fun L' => ?_) (by kernel_rfl!) (by kernel_rfl!) (by kernel_rfl!)
  refine AXs_cons (X_If (T_Compare1 (E_Local rfl (E_None (is_None rfl (tr_B ⟨fun _ => ?_, fun e => absurd e (by decide)⟩))))))
  refine AXs_cons <| X_AssignLocal <| E_Call <| E_Global G (by kernel_rfl!) (.ref 57) <| Args_cons <| E_Local rfl <| Args_cons' <| E_Local rfl <| Args_cons' <| E_Local rfl <| Args_cons' <| E_Local rfl <| Args_nil' <| Kws_nil ?_
  refine bisL_call4 G (hA.deeper _) ha (small_of hz).1 (AXs_nil ?_)
  refine AXs_cons <| X_Expr <| E_CallAttr (few := true) (by kernel_rfl!) <| E_Local rfl <| callee_list ha F.slot_list_insert F.type_list_insert <| Args_cons <| E_Local rfl <| Args_cons' <| E_Local rfl <| Args_nil' <| Kws_nil ?_
  refine call_list_insert ha (by rw [ivs_length]; exact bisL_le xs x) (by rw [ivs_length]; exact (small_of hz).2) (AXs_nil ⟨_, Sub.refl _, ?_⟩)
  rw [insAt_ivs]
  exact h
end
end Mine

namespace Mine
open PySem PySem.W PyProof.Rows

theorem AH.ne_of {σ : AH} {a b : Addr} {o : O} (ha : σ a = some o) (hb : σ b = none) : a ≠ b := fun z => by rw [z, hb] at ha; cases ha
theorem AH.set_get {σ : AH} {a b : Addr} {o p : O} (ha : σ a = some o) (hb : σ b = none) : (σ.set b p) a = some o := by rw [AH.set_ne _ _ (AH.ne_of ha hb)]; exact ha
theorem Sub.set {σ : AH} {b : Addr} {p : O} (hb : σ b = none) : Sub σ (σ.set b p) := fun a o e => AH.set_get e hb
theorem Sub.trans {σ₁ σ₂ σ₃ : AH} (x : Sub σ₁ σ₂) (y : Sub σ₂ σ₃) : Sub σ₁ σ₃ := fun a o e => y _ _ (x _ _ e)

noncomputable def insR (k : List Int) (x : Int) : List Int := insAt k (bisR k x) x
noncomputable def keptL (xs : List Int) : List Int := xs.foldl insR []
theorem insR_length (k : List Int) (x : Int) : (insR k x).length = k.length + 1 := insAt_length ..
theorem foldl_insR_length (xs k : List Int) : (xs.foldl insR k).length = k.length + xs.length := by
  induction xs generalizing k with
  | nil => simp
  | cons x xs ih => rw [List.foldl_cons, ih, insR_length]; simp; omega
theorem keptL_length (xs : List Int) : (keptL xs).length = xs.length := by unfold keptL; rw [foldl_insR_length]; simp
theorem foldl_take_succ {α β : Type} (f : β → α → β) (b : β) (l : List α) (i : Nat) (x : α) (h : l[i]? = some x) : (l.take (i + 1)).foldl f b = f ((l.take i).foldl f b) x := by
  rw [List.take_add_one, h]; simp
theorem ivs_at {xs : List Int} {i : Nat} {v : V} (h : (ivs xs)[i]? = some v) : ∃ x, xs[i]? = some x ∧ v = .int x := by
  unfold ivs at h
  rw [List.getElem?_map] at h
  cases q : xs[i]? with
  | none => rw [q] at h; cases h
  | some x => rw [q] at h; cases h; exact ⟨x, rfl, rfl⟩

section
variable {w : World} {g : Heap} {A : Around} {m : Loc} {σ : AH}

noncomputable abbrev fKept (w : World) : FuncData := fnAt (KK w) 189
theorem kept_binds (w : World) (a : Addr) : ABind (KK w) (fKept w) [.ref a] [] [(Str.ofString "numbers", .ref a)] := by
  intro pos' kw' rs rk
  obtain ⟨_, _, rfl, r0, rs⟩ := rs.c
  obtain rfl := rs.n
  obtain rfl := rk.n
  exact ⟨[(Str.ofString "numbers", _)], fun S => by kernel_rfl!, .cons r0 .nil⟩
theorem kept_call (G : Gd (KK w) g) (hA : AOk A 4) {L l : Addr} {xs : List Int} {Φ : V → Loc → AH → Prop} (hl : σ l = some (.list (ivs xs))) (hz : xs.length ≤ 900)
    (h : ∀ r, σ r = none → Φ (.ref r) m (σ.set r (.list (ivs (keptL xs))))) : ACall PP w g A L (.ref 189) [.ref l] [] m σ Φ := by
  refine call_def (fd := fKept w) (oc := .type "function") (od := none) (osl := #[]) G hA.room (by kernel_rfl!) (by kernel_rfl!) (by kernel_rfl!) (kept_binds w l) (by kernel_rfl!) (by kernel_rfl!) (fun L' => ?_) (by kernel_rfl!) (by kernel_rfl!) (by kernel_rfl!)
  have hA' := hA.deeper (callEnv (fKept w) L' 189)
  refine AXs_cons <| X_AssignLocal <| E_List <| Args_nil' ⟨by decide, fun r hr => ?_⟩
  refine AXs_cons <| X_For <| E_Local rfl ⟨ivs xs, _, fun i m' σ' => m' = [(Str.ofString "numbers", .ref l), (Str.ofString "kept", .ref r)] ∧ σ' = σ.set r (.list (ivs (keptL (xs.take i)))), iter_list hA'.handled, ⟨rfl, rfl⟩, ?_, ?_, ?_⟩
  · rintro i m' σ' ⟨rfl, rfl⟩; exact AH.set_get hl hr
  · rintro i v m' σ' hv ⟨rfl, rfl⟩
    obtain ⟨x, hx, rfl⟩ := ivs_at hv
    refine asg_local ?_
    refine AXs_cons <| X_Expr <| E_Call <| E_Global G (by kernel_rfl!) (.ref 30) <| Args_cons <| E_Local rfl <| Args_cons' <| E_Local rfl <| Args_nil' <| Kws_nil ?_
    refine insR_call G hA' (AH.set_self ..) (by rw [keptL_length, List.length_take]; omega) (AXs_nil ?_)
    refine ⟨_, _, LSub.pre [(_, _), (_, _)] [(_, _)], Sub.refl _, rfl, ?_⟩
    rw [AH.set_set]
    unfold keptL
    rw [foldl_take_succ _ _ _ _ _ hx]
    rfl
  · rintro m' σ' ⟨rfl, rfl⟩
    rw [ivs_length, List.take_length]
    refine AXs_nil <| AXs_cons <| X_Return <| E_Local rfl ⟨_, Sub.refl _, h r hr⟩
end
end Mine

namespace Mine
open PySem PySem.W PyProof.Rows

theorem envC_kind (fd : FuncData) (L f : Addr) (cs : List (Str × Addr)) (x : Str) : (envC fd L f cs).kindOf x = fd.scope.names.lookup x := rfl

noncomputable def keyOf (vals : List Int) (y : Int) : Int := vals.getD y.toNat 0

section
variable {w : World} {g : Heap} {A : Around} {m : Loc} {σ : AH}

theorem key_lam (G : Gd (KK w) g) {f c' c l : Addr} {q nm : Str} {params : Arguments} {scope : Scope} {p1 p2 p3 : Pos} {vals xs : List Int}
    (hf : σ f = some (.lam q params (.Subscript (.Name nm p1) (.Name (Str.ofString "other") p2) p3) scope [(nm, c)] c')) (hc : σ c' = some (.code q)) (hcell : σ c = some (.cell (some (.ref l)))) (hl : σ l = some (.list (ivs vals)))
    (hv : vals.length ≤ 1000) (hxs : ∀ y ∈ xs, 0 ≤ y ∧ y < vals.length)
    (hb : ∀ pm ctv v', bindArgs (kla_fn "<lambda>" q params (.Subscript (.Name nm p1) (.Name (Str.ofString "other") p2) p3) scope [(nm, c)] pm (.ref c') ctv) ⟨[v'], []⟩ = pure [(Str.ofString "other", v')])
    (hcl : (scope.names.all fun x => !(x.2 == .cell)) = true) (ho : scope.names.lookup (Str.ofString "other") = some .local) (hn : scope.names.lookup nm = some .free) (hco : scope.isCoroutine = false) (hgen : scope.isGenerator = false) (hk : scope.kind = .function)
    (hd1 : (nm == ("__debug__" : Str)) = false) (hd2 : (nm == ("__classdict__" : Str)) = false) : KeyOk w g (.ref f) σ xs (keyOf vals) := by
  intro A L m Φ hA y hy h
  obtain ⟨h0, h1⟩ := hxs y hy
  obtain ⟨k, rfl⟩ : ∃ k : Nat, y = k := ⟨y.toNat, by omega⟩
  refine call_lam G hA.room hf hc hb (fun L' pm ctv => ?_) hcl ho hco hgen hk
  refine E_Sub <| E_Free (a := c) ?_ hcell (E_Local rfl (sub_listN hl (by omega) (ivs_get (by omega)) ⟨_, Sub.refl _, ?_⟩) hk ho) hk hn hd1 hd2
  · show List.lookup nm [(nm, c)] = some c
    rw [List.lookup_cons, beq_self_eq_true]
  · have : vals.getD k 0 = keyOf vals k := by unfold keyOf; simp
    rw [this]; exact h

/-- the row: the places, laid by their ends -/
noncomputable def insK (vals : List Int) (r : List Int) (p : Int) : List Int := insAt r (bisR (r.map (keyOf vals)) (keyOf vals p)) p
noncomputable def rowL (vals : List Int) : List Int := ((List.range vals.length).map fun (i : Nat) => (i : Int)).foldl (insK vals) []
theorem foldl_insK_length (vals xs k : List Int) : (xs.foldl (insK vals) k).length = k.length + xs.length := by
  induction xs generalizing k with
  | nil => simp
  | cons x xs ih => rw [List.foldl_cons, ih]; unfold insK; rw [insAt_length]; simp; omega
theorem insAt_mem {xs : List Int} {k : Nat} {x y : Int} (h : y ∈ insAt xs k x) : y = x ∨ y ∈ xs := by
  unfold insAt at h
  rcases List.mem_append.mp h with h | h
  · exact .inr (List.mem_of_mem_take h)
  · rcases List.mem_cons.mp h with h | h
    · exact .inl h
    · exact .inr (List.mem_of_mem_drop h)
theorem foldl_insK_mem (vals xs k : List Int) (y : Int) (h : y ∈ xs.foldl (insK vals) k) : y ∈ k ∨ y ∈ xs := by
  induction xs generalizing k with
  | nil => exact .inl h
  | cons x xs ih =>
    rcases ih _ h with h | h
    · rcases insAt_mem h with h | h
      · exact .inr (h ▸ List.mem_cons_self ..)
      · exact .inl h
    · exact .inr (List.mem_cons_of_mem _ h)

noncomputable abbrev fRow (w : World) : FuncData := fnAt (KK w) 196
noncomputable def qRow : Str := Str.ofString "_law_row.<locals>.<lambda>"

theorem rng1 (n : Nat) (hn : n ≤ 1000) : Builtin.Range.small 0 n 1 = true ∧ Builtin.Range.rangeSize 0 n 1 = n := by
  have e : Builtin.Range.rangeSize 0 n 1 = n := by
    unfold Builtin.Range.rangeSize
    simp
    omega
  refine ⟨?_, e⟩
  unfold Builtin.Range.small
  rw [e]
  unfold Builtin.Range.rangeFitsLong
  simp
  omega
theorem rngL_at {n i : Nat} {v : V} (h : (rngL 0 1 n)[i]? = some v) : i < n ∧ v = .int i := by
  unfold rngL at h
  rw [List.getElem?_map] at h
  have hi : i < n := by
    cases q : (List.range n)[i]? with
    | none => rw [q] at h; cases h
    | some x => simpa using (List.getElem?_eq_some_iff.mp q).1
  refine ⟨hi, ?_⟩
  rw [List.getElem?_range hi] at h
  simp at h
  exact h.symm
theorem rngL_length (a c : Int) (n : Nat) : (rngL a c n).length = n := by simp [rngL]

theorem row_call (G : Gd (KK w) g) (C : CodeHd g 195 191) (hA : AOk A 5) {L l : Addr} {vals : List Int} {Φ : V → Loc → AH → Prop} (hl : σ l = some (.list (ivs vals))) (hz : vals.length ≤ 900) (ht : TabOk σ 191 qRow) (hl191 : l ≠ 191)
    (h : ∀ r σ'', σ r = none → σ'' r = some (.list (ivs (rowL vals))) → ExtP 191 σ σ'' → TabOk σ'' 191 qRow → Φ (.ref r) m σ'') : ACall PP w g A L (.ref 196) [.ref l] [] m σ Φ := by
  refine call_defC (fd := fRow w) (oc := .type "function") (od := none) (osl := #[]) (binds := [(Str.ofString "ends", .ref l)]) G hA.room (by kernel_rfl!) (by kernel_rfl!) (by kernel_rfl!) (fun pos' rs => ?_) (by kernel_rfl!) (by kernel_rfl!) (by kernel_rfl!) (fun L' cs σ₁ hcs hap hoff hsub hcell => ?_) (by kernel_rfl!) (by kernel_rfl!) (by kernel_rfl!)
  · obtain ⟨_, _, rfl, r0, rs⟩ := rs.c
    obtain rfl := rs.n
    exact ⟨[(Str.ofString "ends", _)], by kernel_rfl!, .cons r0 .nil⟩
  replace hcs := hcs.trans (c := [Str.ofString "ends"]) (by kernel_rfl!)
  obtain ⟨c, cs1, rfl, hcs1⟩ := cells_cons hcs
  obtain rfl := cells_nil hcs1
  have hA' := hA.deeper (envC (fRow w) L' 196 [(Str.ofString "ends", c)])
  have hc : σ₁ c = some (.cell (some (.ref l))) := hcell _ (List.mem_singleton.mpr rfl)
  have hl₁ := hsub _ _ hl
  show AXs PP w g _ (envC (fRow w) L' 196 [(Str.ofString "ends", c)]) (bodyOf (fRow w)) [] σ₁ _
  refine AXs_cons <| X_AssignLocal <| E_List <| Args_nil' ⟨by decide, fun r hr => ?_⟩
  have hl₂ : (σ₁.set r (.list [])) l = _ := AH.set_get hl₁ hr
  have hc₂ : (σ₁.set r (.list [])) c = _ := AH.set_get hc hr
  refine AXs_cons <| X_For <| E_Call <| E_Builtin G (by kernel_rfl!) boot_range (.typ _) <| Args_cons <| E_Call <| E_Builtin G (by kernel_rfl!) boot_len (.blt _) <| Args_cons <| E_Cell (a := c) rfl hc₂ <| Args_nil' <| Kws_nil <| call_len_list hl₂ (Args_nil' <| Kws_nil <| call_range1 fun ρ hρ => ?_) (by rw [ivs_length]; omega)
  have hn : (ivs vals).length = vals.length := ivs_length vals
  rw [hn]
  have hc₃ := AH.set_get (p := .rng 0 vals.length 1) hc₂ hρ
  have hl₃ := AH.set_get (p := .rng 0 vals.length 1) hl₂ hρ
  have hr₃ : ((σ₁.set r (.list [])).set ρ (.rng 0 vals.length 1)) r = some (.list []) := AH.set_get (AH.set_self ..) hρ
  have hρ₃ : ((σ₁.set r (.list [])).set ρ (.rng 0 vals.length 1)) ρ = some (.rng 0 vals.length 1) := AH.set_self ..
  have ht₃ : TabOk ((σ₁.set r (.list [])).set ρ (.rng 0 vals.length 1)) 191 qRow := by
    obtain ⟨ts, e1, e2⟩ := ht
    exact ⟨ts, AH.set_get (AH.set_get (hsub _ _ e1) hr) hρ, fun t htt => ⟨AH.set_get (AH.set_get (hsub _ _ (e2 t htt).1) hr) hρ, (e2 t htt).2⟩⟩
  have sub₃ : Sub σ ((σ₁.set r (.list [])).set ρ (.rng 0 vals.length 1)) := hsub.trans ((Sub.set hr).trans (Sub.set hρ))
  have tabne : ∀ a o, σ a = some o → a ≠ c := fun a o e => AH.ne_of e (hoff _ (List.mem_singleton.mpr rfl))
  obtain ⟨ts0, ht0, _⟩ := id ht
  have c191 : c ≠ 191 := fun z => tabne _ _ ht0 z.symm
  have r191 : r ≠ 191 := fun z => by rw [z, hsub _ _ ht0] at hr; cases hr
  have ρ191 : ρ ≠ 191 := fun z => by rw [z, AH.set_ne _ _ (Ne.symm r191), hsub _ _ ht0] at hρ; cases hρ
  have rc : r ≠ c := fun z => by rw [z, hc] at hr; cases hr
  have rl : r ≠ l := fun z => by rw [z, hl₁] at hr; cases hr
  have rρ : r ≠ ρ := fun z => by rw [← z, AH.set_self] at hρ; cases hρ
  generalize ((σ₁.set r (.list [])).set ρ (.rng 0 vals.length 1)) = σb at hc₃ hl₃ hr₃ hρ₃ ht₃ sub₃ ⊢
  refine ⟨rngL 0 1 vals.length, _, fun i m' σ' => m' = [(Str.ofString "row", .ref r)] ∧ TabOk σ' 191 qRow ∧ σ' r = some (.list (ivs (((List.range i).map fun (i : Nat) => (i : Int)).foldl (insK vals) []))) ∧ ∀ a o, a ≠ 191 → a ≠ r → σb a = some o → σ' a = some o,
    iter_rng hA'.handled (rng1 _ (by omega)).1 (rng1 _ (by omega)).2, ⟨rfl, ht₃, hr₃, fun a o _ _ e => e⟩, ?_, ?_, ?_⟩
  · rintro i m' σ' ⟨_, _, _, q⟩; exact q _ _ ρ191 (Ne.symm rρ) hρ₃
  · rintro i v m' σ' hv ⟨rfl, ht', hr', q⟩
    obtain ⟨hi, rfl⟩ := rngL_at hv
    have hc' := q _ _ c191 (Ne.symm rc) hc₃
    have hl' := q _ _ hl191 (Ne.symm rl) hl₃
    refine asg_local ?_
    refine AXs_cons <| X_Expr <| E_Call <| E_Global G (by kernel_rfl!) (.ref 30) <| Args_cons <| E_Local rfl <| Args_cons' <| E_Local rfl <| Args_nil' <| Kws_cons <| E_Lambda (cl := [(Str.ofString "ends", c)]) G (by kernel_rfl!) rfl C ht' (fun σ'' f c' hx ht'' hf hc'' hfn => Kws_nil ?_) (by kernel_rfl!)
    have r'' : σ'' r = _ := hx _ _ r191 hr'
    have hk : KeyOk w g (.ref f) σ'' ((i : Int) :: ((List.range i).map fun (i : Nat) => (i : Int)).foldl (insK vals) []) (keyOf vals) := by
      refine key_lam G hf hc'' (hx _ _ c191 hc') (hx _ _ hl191 hl') (by omega) (fun y hy => ?_) (by intro _ _ _; kernel_rfl!) (by kernel_rfl!) (by kernel_rfl!) (by kernel_rfl!) (by kernel_rfl!) (by kernel_rfl!) (by kernel_rfl!) (by kernel_rfl!) (by kernel_rfl!)
      rcases List.mem_cons.mp hy with rfl | hy
      · omega
      · rcases foldl_insK_mem _ _ _ _ hy with hy | hy
        · cases hy
        · obtain ⟨j, hj, rfl⟩ := List.mem_map.mp hy
          have := List.mem_range.mp hj
          omega
    refine insR_callK G (hA'.le (by decide)) r'' (by rw [foldl_insK_length]; simp; omega) hk rfl rfl (AXs_nil (Fgt.now' (m' := [(Str.ofString "row", .ref r)]) (LSub.pre [(_, _)] [(_, _)]) ⟨rfl, ?_, ?_, ?_⟩))
    · obtain ⟨ts, e1, e2⟩ := ht''
      exact ⟨ts, by rw [AH.set_ne _ _ (Ne.symm r191)]; exact e1, fun t htt => ⟨by
        rw [AH.set_ne _ _ (fun z => by have := (e2 t htt).1; rw [z, r''] at this; cases this)]; exact (e2 t htt).1, (e2 t htt).2⟩⟩
    · rw [AH.set_self, List.range_succ, List.map_append, List.foldl_append]
      rfl
    · intro a o h1 h2 e
      rw [AH.set_ne _ _ h2]
      exact hx _ _ h1 (q _ _ h1 h2 e)
  · rintro m' σ' ⟨rfl, ht', hr', q⟩
    rw [rngL_length] at hr'
    refine AXs_nil <| AXs_cons <| X_Return <| E_Local rfl ⟨_, Sub.refl _, h r σ' ?_ hr' (fun a o h1 e => ?_) ht'⟩
    · cases z : σ r with
      | none => rfl
      | some o => rw [hsub _ _ z] at hr; cases hr
    · exact q _ _ h1 (fun z => by rw [z] at e; rw [hsub _ _ e] at hr; cases hr) (sub₃ _ _ e)
end
end Mine

namespace Mine
open PySem PySem.W PyProof.Rows

section
variable {w : World} {g : Heap} {A : Around} {m : Loc} {σ : AH} {env : Env}

/-- a comprehension that leaves all as it was, but its list -/
theorem comp_pure {elt iter : Expr} {x : Str} {ifs : List Expr} {scope : Scope} {cl : List (Str × Addr)} {Φ : V → Loc → AH → Prop} (p : V → Bool) (f : V → V)
    (h : AE PP w g A env iter m σ fun v m₁ σ₁ => ∃ (xs : List V) (D : AH → Prop), AIter PP w g A v xs D ∧ xs.length ≤ 1000 ∧ D σ₁ ∧
      (∀ (C : Addr) (i : Nat) (v : V), xs[i]? = some v → ATests PP w g A (compEnvC scope cl C env) ifs [(x, v)] σ₁ fun b m₂ σ₂ => b = p v ∧ Sub σ₁ σ₂ ∧ (b = true → AE PP w g A (compEnvC scope cl C env) elt m₂ σ₂ fun y _ σ₃ => y = f v ∧ Sub σ₁ σ₃)) ∧
      ∀ Da, σ₁ Da = none → Φ (.ref Da) m₁ (σ₁.set Da (.list ((xs.filter p).map f)))) : CompP PP w g A env elt iter x ifs scope cl m σ Φ := by
  refine AW.mono h ?_
  rintro v m₁ σ₁ ⟨xs, D, hit, hz, hD, turn, fin⟩
  refine ⟨xs, D, fun i ys σ => σ = σ₁ ∧ ys = ((xs.take i).filter p).map f, hit, by have := sizeLine_eq; omega, ⟨rfl, by simp⟩, ?_, ?_, ?_⟩
  · rintro i ys σ ⟨rfl, rfl⟩
    refine ⟨hD, ?_⟩
    rw [List.length_map]
    exact Nat.le_trans (List.length_filter_le _ _) (by rw [List.length_take]; omega)
  · rintro C i v ys σ hv ⟨rfl, rfl⟩
    refine AW.mono (turn C i v hv) ?_
    rintro b m₂ σ₂ ⟨rfl, hs, k⟩
    have e : xs.take (i + 1) = xs.take i ++ [v] := by rw [List.take_add_one, hv]; rfl
    refine ⟨fun hb => ?_, fun hb => ⟨σ, hs, rfl, ?_⟩⟩
    · refine AW.mono (k hb) ?_
      rintro y m₃ σ₃ ⟨rfl, hs'⟩
      refine ⟨σ, hs', rfl, ?_⟩
      rw [e, List.filter_append, List.filter_cons_of_pos (by simpa using hb)]
      simp
    · rw [e, List.filter_append, List.filter_cons_of_neg (by simpa using hb)]
      simp
  · rintro ys σ' Da ⟨rfl, rfl⟩ hDa
    rw [List.take_length]
    exact fin Da hDa

theorem filter_true {α : Type} (l : List α) : l.filter (fun _ => true) = l := by
  induction l with
  | nil => rfl
  | cons x l ih => simp
theorem ivs_map (xs : List Int) (f : V → V) (k : Int → Int) (h : ∀ x, f (.int x) = .int (k x)) : (ivs xs).map f = ivs (xs.map k) := by
  unfold ivs; simp [h]

noncomputable def beforeL (begins ends : List Int) : List Int := begins.map fun x => (bisR (keptL ends) x : Int)
noncomputable def behindL (begins ends : List Int) : List Int := ends.map fun e => ((keptL begins).length : Int) - (bisL (keptL begins) e : Int)

noncomputable abbrev fCounts (w : World) : FuncData := fnAt (KK w) 201

noncomputable def V.toI : V → Int
  | .int i => i
  | _ => 0

theorem counts_call (G : Gd (KK w) g) (hA : AOk A 6) {L lb le : Addr} {begins ends : List Int} {Φ : V → Loc → AH → Prop} (hb : σ lb = some (.list (ivs begins))) (he : σ le = some (.list (ivs ends))) (hzb : begins.length ≤ 900) (hze : ends.length ≤ 900)
    (h : ∀ t a b σ'', Sub σ σ'' → σ'' t = some (.tuple [.ref a, .ref b]) → σ'' a = some (.list (ivs (beforeL begins ends))) → σ'' b = some (.list (ivs (behindL begins ends))) → Φ (.ref t) m σ'') :
    ACall PP w g A L (.ref 201) [.ref lb, .ref le] [] m σ Φ := by
  refine call_defC (fd := fCounts w) (oc := .type "function") (od := none) (osl := #[]) (binds := [(Str.ofString "begins", .ref lb), (Str.ofString "ends", .ref le)]) G hA.room (by kernel_rfl!) (by kernel_rfl!) (by kernel_rfl!) (fun pos' rs => ?_) (by kernel_rfl!) (by kernel_rfl!) (by kernel_rfl!) (fun L' cs σ₁ hcs hap hoff hsub hcell => ?_) (by kernel_rfl!) (by kernel_rfl!) (by kernel_rfl!)
  · obtain ⟨_, _, rfl, r0, rs⟩ := rs.c
    obtain ⟨_, _, rfl, r1, rs⟩ := rs.c
    obtain rfl := rs.n
    exact ⟨[(Str.ofString "begins", _), (Str.ofString "ends", _)], by kernel_rfl!, .cons r0 (.cons r1 .nil)⟩
  replace hcs := hcs.trans (c := [Str.ofString "late", Str.ofString "early"]) (by kernel_rfl!)
  obtain ⟨c1, cs1, rfl, hcs1⟩ := cells_cons hcs
  obtain ⟨c2, cs2, rfl, hcs2⟩ := cells_cons hcs1
  obtain rfl := cells_nil hcs2
  have hA' := hA.deeper (envC (fCounts w) L' 201 [(Str.ofString "late", c1), (Str.ofString "early", c2)])
  have hc1 : σ₁ c1 = some (.cell none) := hcell _ (List.mem_cons_self ..)
  have hc2 : σ₁ c2 = some (.cell none) := hcell _ (List.mem_cons_of_mem _ (List.mem_singleton.mpr rfl))
  have c12 : c1 ≠ c2 := (List.pairwise_cons.mp hap).1 (Str.ofString "early", c2) (List.mem_singleton.mpr rfl)
  have o1 : σ c1 = none := hoff _ (List.mem_cons_self ..)
  have o2 : σ c2 = none := hoff _ (List.mem_cons_of_mem _ (List.mem_singleton.mpr rfl))
  have hb₁ := hsub _ _ hb
  have he₁ := hsub _ _ he
  show AXs PP w g _ (envC (fCounts w) L' 201 [(Str.ofString "late", c1), (Str.ofString "early", c2)]) (bodyOf (fCounts w)) [(Str.ofString "ends", .ref le), (Str.ofString "begins", .ref lb)] σ₁ _
  refine AXs_cons <| X_AssignCell (a := c2) rfl <| E_Call <| E_Global G (by kernel_rfl!) (.ref 189) <| Args_cons <| E_Local rfl <| Args_nil' <| Kws_nil <| kept_call G (hA'.le (by decide)) he₁ hze fun r1 hr1 => ⟨⟨_, AH.set_get hc2 hr1⟩, ?_⟩
  have s2 : ∀ a o, σ₁ a = some o → a ≠ c2 → ((σ₁.set r1 (.list (ivs (keptL ends)))).set c2 (.cell (some (.ref r1)))) a = some o := fun a o e hne => by rw [AH.set_ne _ _ hne]; exact AH.set_get e hr1
  have e2 : ((σ₁.set r1 (.list (ivs (keptL ends)))).set c2 (.cell (some (.ref r1)))) r1 = some (.list (ivs (keptL ends))) := by rw [AH.set_ne _ _ (fun z => by rw [← z, hr1] at hc2; cases hc2), AH.set_self]
  have e2' : ((σ₁.set r1 (.list (ivs (keptL ends)))).set c2 (.cell (some (.ref r1)))) c2 = some (.cell (some (.ref r1))) := AH.set_self ..
  generalize ((σ₁.set r1 (.list (ivs (keptL ends)))).set c2 (.cell (some (.ref r1)))) = σ₂ at s2 e2 e2' ⊢
  have hb₂ := s2 _ _ hb₁ (AH.ne_of hb o2)
  have he₂ := s2 _ _ he₁ (AH.ne_of he o2)
  have hc1₂ := s2 _ _ hc1 c12
  refine AXs_cons <| X_AssignCell (a := c1) rfl <| E_Call <| E_Global G (by kernel_rfl!) (.ref 189) <| Args_cons <| E_Local rfl <| Args_nil' <| Kws_nil <| kept_call G (hA'.le (by decide)) hb₂ hzb fun r2 hr2 => ⟨⟨_, AH.set_get hc1₂ hr2⟩, ?_⟩
  have s3 : ∀ a o, σ₂ a = some o → a ≠ c1 → ((σ₂.set r2 (.list (ivs (keptL begins)))).set c1 (.cell (some (.ref r2)))) a = some o := fun a o e hne => by rw [AH.set_ne _ _ hne]; exact AH.set_get e hr2
  have f2 : ((σ₂.set r2 (.list (ivs (keptL begins)))).set c1 (.cell (some (.ref r2)))) r2 = some (.list (ivs (keptL begins))) := by rw [AH.set_ne _ _ (fun z => by rw [← z, hr2] at hc1₂; cases hc1₂), AH.set_self]
  have f2' : ((σ₂.set r2 (.list (ivs (keptL begins)))).set c1 (.cell (some (.ref r2)))) c1 = some (.cell (some (.ref r2))) := AH.set_self ..
  generalize ((σ₂.set r2 (.list (ivs (keptL begins)))).set c1 (.cell (some (.ref r2)))) = σ₃ at s3 f2 f2' ⊢
  have hb₃ := s3 _ _ hb₂ (AH.ne_of hb o1)
  have he₃ := s3 _ _ he₂ (AH.ne_of he o1)
  have g1 := s3 _ _ e2 (fun z => by rw [z, hc1₂] at e2; cases e2)
  have g2 := s3 _ _ e2' (Ne.symm c12)
  have sub₃ : Sub σ σ₃ := fun a o e => s3 _ _ (s2 _ _ (hsub _ _ e) (AH.ne_of e o2)) (AH.ne_of e o1)
  clear s2 s3
  refine AXs_cons <| X_AssignComp (cl := [(Str.ofString "early", c2)]) (by kernel_rfl!) (comp_pure (fun _ => true) (fun v => .int (bisR (keptL ends) v.toI : Nat)) <| E_Local rfl ⟨ivs begins, _, iter_list hA'.handled, by rw [ivs_length]; omega, hb₃, fun C i v hv => ?_, fun a ha => ?_⟩)
  · obtain ⟨x, hx, rfl⟩ := ivs_at hv
    refine tests_none ⟨rfl, Sub.refl _, fun _ => ?_⟩
    refine E_Call <| E_Global G (by kernel_rfl!) (.ref 39) <| Args_cons <| E_Cell (a := c2) (by kernel_rfl!) g2 <| Args_cons' <| E_Local rfl <| Args_nil' <| Kws_nil <| bisR_call G (hA'.le (by decide)) g1 (by rw [keptL_length]; omega) ⟨rfl, Sub.refl _⟩
  rw [filter_true, ivs_map begins _ (fun x => (bisR (keptL ends) x : Int)) (fun x => rfl)]
  have he₄ := AH.set_get (p := .list (ivs (begins.map fun x => (bisR (keptL ends) x : Int)))) he₃ ha
  have f4 := AH.set_get (p := .list (ivs (begins.map fun x => (bisR (keptL ends) x : Int)))) f2 ha
  have f4' := AH.set_get (p := .list (ivs (begins.map fun x => (bisR (keptL ends) x : Int)))) f2' ha
  have ha₄ : (σ₃.set a (.list (ivs (begins.map fun x => (bisR (keptL ends) x : Int))))) a = some (.list (ivs (beforeL begins ends))) := AH.set_self ..
  have sub₄ : Sub σ (σ₃.set a (.list (ivs (begins.map fun x => (bisR (keptL ends) x : Int))))) := sub₃.trans (Sub.set ha)
  generalize (σ₃.set a (.list (ivs (begins.map fun x => (bisR (keptL ends) x : Int))))) = σ₄ at he₄ f4 f4' ha₄ sub₄ ⊢
  refine AXs_cons <| X_AssignComp (cl := [(Str.ofString "late", c1)]) (by kernel_rfl!) (comp_pure (fun _ => true) (fun v => .int (((keptL begins).length : Int) - (bisL (keptL begins) v.toI : Nat))) <| E_Local rfl ⟨ivs ends, _, iter_list hA'.handled, by rw [ivs_length]; omega, he₄, fun C i v hv => ?_, fun b hb' => ?_⟩)
  · obtain ⟨x, hx, rfl⟩ := ivs_at hv
    refine tests_none ⟨rfl, Sub.refl _, fun _ => ?_⟩
    refine E_BinOp <| E_Call <| E_Builtin G (by kernel_rfl!) boot_len (.blt _) <| Args_cons <| E_Cell (a := c1) (by kernel_rfl!) f4' <| Args_nil' <| Kws_nil <| call_len_list f4 ?_ (by rw [ivs_length, keptL_length]; omega)
    rw [ivs_length]
    refine E_Call <| E_Global G (by kernel_rfl!) (.ref 57) <| Args_cons <| E_Cell (a := c1) (by kernel_rfl!) f4' <| Args_cons' <| E_Local rfl <| Args_nil' <| Kws_nil <| bisL_call G (hA'.le (by decide)) f4 (by rw [keptL_length]; omega) <| sub_I ⟨rfl, Sub.refl _⟩
  rw [filter_true, ivs_map ends _ (fun e => ((keptL begins).length : Int) - (bisL (keptL begins) e : Int)) (fun x => rfl)]
  refine AXs_cons <| X_Return <| E_Tuple <| Args_cons' <| E_Local rfl <| Args_cons' <| E_Local rfl <| Args_nil' ⟨by simp, fun t ht => ⟨_, Sub.refl _, h t a b _ (sub₄.trans ((Sub.set hb').trans (Sub.set ht))) (AH.set_self ..) ?_ ?_⟩⟩
  · exact AH.set_get (AH.set_get ha₄ hb') ht
  · exact AH.set_get (AH.set_self ..) ht
end
end Mine

namespace Mine
open PySem PySem.W PyProof.Rows

section
variable {w : World} {g : Heap} {A : Around} {m : Loc} {σ : AH} {env : Env}

noncomputable def unlikeStep (u : List Int) (c : Int) : List Int := if (bisL u c : Int) == (bisR u c : Int) then insAt u (bisL u c) c else u
noncomputable def unlikeL (counts : List Int) : List Int := counts.foldl unlikeStep []
noncomputable def marksL (counts : List Int) : List Int := counts.map fun c => (bisL (unlikeL counts) c : Int)
theorem unlikeStep_length (u : List Int) (c : Int) : (unlikeStep u c).length ≤ u.length + 1 := by
  unfold unlikeStep; split
  · rw [insAt_length]; exact Nat.le_refl _
  · omega
theorem foldl_unlike_length (xs k : List Int) : (xs.foldl unlikeStep k).length ≤ k.length + xs.length := by
  induction xs generalizing k with
  | nil => simp
  | cons x xs ih => rw [List.foldl_cons]; have := ih (unlikeStep k x); have := unlikeStep_length k x; simp; omega
theorem unlikeL_length (xs : List Int) : (unlikeL xs).length ≤ xs.length := by unfold unlikeL; have := foldl_unlike_length xs []; simpa using this

theorem unlikeL_succ {xs : List Int} {i : Nat} {x : Int} (hx : xs[i]? = some x) : unlikeL (xs.take (i + 1)) = unlikeStep (unlikeL (xs.take i)) x := foldl_take_succ _ _ _ _ _ hx
theorem unlikeStep_yes {u : List Int} {c : Int} (h : ((bisL u c : Int) == (bisR u c : Int)) = true) : unlikeStep u c = insAt u (bisL u c) c := if_pos h
theorem unlikeStep_no {u : List Int} {c : Int} (h : ((bisL u c : Int) == (bisR u c : Int)) = false) : unlikeStep u c = u := if_neg (by rw [h]; exact Bool.false_ne_true)

noncomputable abbrev fMarks (w : World) : FuncData := fnAt (KK w) 206

theorem marks_call (G : Gd (KK w) g) (hA : AOk A 6) {L l : Addr} {counts : List Int} {Φ : V → Loc → AH → Prop} (hl : σ l = some (.list (ivs counts))) (hz : counts.length ≤ 900)
    (h : ∀ t r σ'', Sub σ σ'' → σ'' t = some (.tuple [.int (unlikeL counts).length, .ref r]) → σ'' r = some (.list (ivs (marksL counts))) → Φ (.ref t) m σ'') :
    ACall PP w g A L (.ref 206) [.ref l] [] m σ Φ := by
  refine call_defC (fd := fMarks w) (oc := .type "function") (od := none) (osl := #[]) (binds := [(Str.ofString "counts", .ref l)]) G hA.room (by kernel_rfl!) (by kernel_rfl!) (by kernel_rfl!) (fun pos' rs => ?_) (by kernel_rfl!) (by kernel_rfl!) (by kernel_rfl!) (fun L' cs σ₁ hcs hap hoff hsub hcell => ?_) (by kernel_rfl!) (by kernel_rfl!) (by kernel_rfl!)
  · obtain ⟨_, _, rfl, r0, rs⟩ := rs.c
    obtain rfl := rs.n
    exact ⟨[(Str.ofString "counts", _)], by kernel_rfl!, .cons r0 .nil⟩
  replace hcs := hcs.trans (c := [Str.ofString "unlike"]) (by kernel_rfl!)
  obtain ⟨c, cs1, rfl, hcs1⟩ := cells_cons hcs
  obtain rfl := cells_nil hcs1
  have hA' := hA.deeper (envC (fMarks w) L' 206 [(Str.ofString "unlike", c)])
  have hc : σ₁ c = some (.cell none) := hcell _ (List.mem_singleton.mpr rfl)
  have oc : σ c = none := hoff _ (List.mem_singleton.mpr rfl)
  have hl₁ := hsub _ _ hl
  show AXs PP w g _ (envC (fMarks w) L' 206 [(Str.ofString "unlike", c)]) (bodyOf (fMarks w)) [(Str.ofString "counts", .ref l)] σ₁ _
  refine AXs_cons <| X_AssignCell (a := c) rfl <| E_List <| Args_nil' ⟨by decide, fun r hr => ⟨⟨_, AH.set_get hc hr⟩, ?_⟩⟩
  have s2 : ∀ a o, σ₁ a = some o → a ≠ c → ((σ₁.set r (.list [])).set c (.cell (some (.ref r)))) a = some o := fun a o e hne => by rw [AH.set_ne _ _ hne]; exact AH.set_get e hr
  have cr : c ≠ r := fun z => by rw [← z, hc] at hr; cases hr
  have e1 : ((σ₁.set r (.list [])).set c (.cell (some (.ref r)))) r = some (.list (ivs (unlikeL (counts.take 0)))) := by rw [AH.set_ne _ _ (Ne.symm cr), AH.set_self]; rfl
  have e2 : ((σ₁.set r (.list [])).set c (.cell (some (.ref r)))) c = some (.cell (some (.ref r))) := AH.set_self ..
  have hl₂ := s2 _ _ hl₁ (AH.ne_of hl oc)
  have sub₂ : Sub σ ((σ₁.set r (.list [])).set c (.cell (some (.ref r)))) := fun a o e => s2 _ _ (hsub _ _ e) (AH.ne_of e oc)
  have rσ : σ r = none := by
    cases z : σ r with
    | none => rfl
    | some o => rw [hsub _ _ z] at hr; cases hr
  generalize ((σ₁.set r (.list [])).set c (.cell (some (.ref r)))) = σ₂ at s2 e1 e2 hl₂ sub₂ ⊢
  have hrl : l ≠ r := AH.ne_of hl rσ
  refine AXs_cons <| X_For <| E_Local rfl ⟨ivs counts, _, fun i m' σ' => m' = [(Str.ofString "counts", .ref l)] ∧ σ' r = some (.list (ivs (unlikeL (counts.take i)))) ∧ ∀ a o, a ≠ r → σ₂ a = some o → σ' a = some o, iter_list hA'.handled, ⟨rfl, e1, fun a o _ e => e⟩, ?_, ?_, ?_⟩
  · rintro i m' σ' ⟨rfl, _, k⟩; exact k _ _ hrl hl₂
  · rintro i v m' σ' hv ⟨rfl, hr', k⟩
    obtain ⟨x, hx, rfl⟩ := ivs_at hv
    have hc' := k _ _ cr e2
    have hlen : (unlikeL (counts.take i)).length ≤ 900 := by have := unlikeL_length (counts.take i); rw [List.length_take] at this; omega
    refine asg_local ?_
    refine AXs_cons <| X_If <| T_Compare1 <| E_Call <| E_Global G (by kernel_rfl!) (.ref 57) <| Args_cons <| E_Cell (a := c) rfl hc' <| Args_cons' <| E_Local rfl <| Args_nil' <| Kws_nil <| bisL_call G (hA'.le (by decide)) hr' (by omega) <|
      E_Call <| E_Global G (by kernel_rfl!) (.ref 39) <| Args_cons <| E_Cell (a := c) rfl hc' <| Args_cons' <| E_Local rfl <| Args_nil' <| Kws_nil <| bisR_call G (hA'.le (by decide)) hr' (by omega) <| eq_I <| tr_B ⟨fun hb => ?_, fun hb => ?_⟩
    · refine AXs_cons <| X_Expr <| E_Call <| E_Global G (by kernel_rfl!) (.ref 48) <| Args_cons <| E_Cell (a := c) rfl hc' <| Args_cons' <| E_Local rfl <| Args_nil' <| Kws_nil <| insL_call G (hA'.le (by decide)) hr' (by omega) <| AXs_nil <| AXs_nil ?_
      refine Fgt.now' (m' := [(Str.ofString "counts", .ref l)]) (LSub.pre [(_, _)] [(_, _)]) ⟨rfl, ?_, fun a o h1 e => ?_⟩
      · rw [AH.set_self, unlikeL_succ hx, unlikeStep_yes hb]
      · rw [AH.set_ne _ _ h1]; exact k _ _ h1 e
    · refine AXs_nil <| AXs_nil ?_
      refine Fgt.now' (m' := [(Str.ofString "counts", .ref l)]) (LSub.pre [(_, _)] [(_, _)]) ⟨rfl, ?_, k⟩
      rw [hr', unlikeL_succ hx, unlikeStep_no hb]
  · rintro m' σ' ⟨rfl, hr', k⟩
    rw [ivs_length, List.take_length] at hr'
    have hc' := k _ _ cr e2
    have hl' := k _ _ hrl hl₂
    have hlen := unlikeL_length counts
    refine AXs_nil <| AXs_cons <| X_Return <| E_Tuple <| Args_cons' <| E_Call <| E_Builtin G (by kernel_rfl!) boot_len (.blt _) <| Args_cons <| E_Cell (a := c) rfl hc' <| Args_nil' <| Kws_nil <| call_len_list hr' ?_ (by rw [ivs_length]; omega)
    rw [ivs_length]
    refine Args_cons' <| E_ListComp (cl := [(Str.ofString "unlike", c)]) (by kernel_rfl!) (comp_pure (fun _ => true) (fun v => .int (bisL (unlikeL counts) v.toI : Nat)) <| E_Local rfl ⟨ivs counts, _, iter_list hA'.handled, by rw [ivs_length]; omega, hl', fun C i v hv => ?_, fun a ha => Args_nil' ⟨by simp, fun t ht => ⟨_, Sub.refl _, h t a _ ?_ (AH.set_self ..) ?_⟩⟩⟩)
    · obtain ⟨x, hx, rfl⟩ := ivs_at hv
      refine tests_none ⟨rfl, Sub.refl _, fun _ => ?_⟩
      refine E_Call <| E_Global G (by kernel_rfl!) (.ref 57) <| Args_cons <| E_Cell (a := c) (by kernel_rfl!) hc' <| Args_cons' <| E_Local rfl <| Args_nil' <| Kws_nil <| bisL_call G (hA'.le (by decide)) hr' (by omega) ⟨rfl, Sub.refl _⟩
    · refine Sub.trans ?_ ((Sub.set ha).trans (Sub.set ht))
      exact fun a o e => k _ _ (AH.ne_of e rσ) (sub₂ _ _ e)
    · rw [AH.set_get (AH.set_self ..) ht, filter_true, ivs_map counts _ (fun x => (bisL (unlikeL counts) x : Int)) (fun x => rfl)]
      rfl
end
end Mine

namespace Mine
open PySem PySem.W PyProof.Rows

noncomputable abbrev cellOb : Obj := { cls := .type "cell", data := .cell none }

theorem nfe_cell {M : Model} {A : Around} {E : Value → Shared → Prop} {s : Shared} {scope : Scope} {globals : Addr} {closure : List (Str × Addr)} {x : Str} {qual : Str} {func : Option Addr} {code : Value} {env : Env} {builtins : Addr} {Q : Env → Shared → Prop}
    (hcells : ∀ n acc, cellsFrom n scope.names acc = (x, n) :: acc) (hpush : ∀ h, pushCells h scope.names = h.push cellOb)
    (h : Q (newEnv scope s.heap.objs.size globals ((x, s.heap.objs.size + 1) :: closure) qual func code (some env) builtins) { s with heap := (s.heap.push { cls := .type "dict", data := .dict #[] }).push cellOb }) :
    wpAny M A (newFunctionEnv scope globals closure [] qual func code (some env) builtins) Q E s := by
  simp only [newFunctionEnv, Option.isSome_some, if_true]
  refine wpAny_bind (wpAny_alloc (wpAny_bind (wpAny_layCells _ (fun name kind cells => by cases hkc : kind == NameKind.cell <;> simp [hkc]) _ _ _ _ ?_)))
  rw [hcells, hpush]
  refine wpAny_bind ?_
  rw [List.forIn_nil]
  refine wpAny_pure (wpAny_pure ?_)
  rw [show ({ s with heap := s.heap.push { cls := .type "dict", data := .dict #[] } } : Shared).heap.objs.size = s.heap.objs.size + 1 from Heap.size_push ..]
  exact h

section
variable {prog : Program} {w : World} {K : Frag} {g : Heap} {A : Around} {env : Env} {m : Loc} {σ : AH}

theorem comp_coreC {elt iter : Expr} {x : Str} {px : Pos} {ifs : List Expr} {scope : Scope} {cl : List (Str × Addr)} {pos : Pos} {use : Option (Value → Sem Unit)} {Q : Value → Shared → Prop} {E : Value → Shared → Prop} {s : Shared}
    (hcells : ∀ n acc, cellsFrom n scope.names acc = (x, n) :: acc) (hpush : ∀ h, pushCells h scope.names = h.push cellOb) (hkind : scope.kind = .function) (hx : (relabel scope env).names.lookup x = some .cell)
    {I : Addr} {xs : List V} {D : AH → Prop} {St : Nat → Heap → Prop} (W : ItOk prog w g A I xs D St) (st : St 0 s.heap) {h₀ : Heap} (S : Sim g env.locals m σ h₀) (hk₀ : ∀ b o, h₀.get? b = some o → s.heap.get? b = some o) (hI : h₀.get? I = none)
    (hz : xs.length ≤ sizeLine) (J : Nat → List V → AH → Prop) (h0 : J 0 [] σ) (hD : ∀ i ys σ, J i ys σ → D σ) (hlen : ∀ i ys σ, J i ys σ → ys.length ≤ i)
    (turn : ∀ C c i v ys σ, xs[i]? = some v → J i ys σ → σ c = none → ATests prog w g A (compEnvC scope ((x, c) :: cl) C env) ifs [] (σ.set c (.cell (some v))) fun b m₁ σ₁ =>
      (b = true → AE prog w g A (compEnvC scope ((x, c) :: cl) C env) elt m₁ σ₁ fun y m₂ σ₂ => (∃ ov, σ₂ c = some (.cell ov)) ∧ ∃ σ₃, Sub σ₃ σ₂ ∧ σ₃ c = none ∧ J (i + 1) (ys ++ [y]) σ₃) ∧ (b = false → (∃ ov, σ₁ c = some (.cell ov)) ∧ ∃ σ₃, Sub σ₃ σ₁ ∧ σ₃ c = none ∧ J (i + 1) ys σ₃))
    (fin : ∀ ys σ' Da C h' tk, J xs.length ys σ' → σ' Da = none → h₀.get? Da = none → (∃ M, h'.Ns C M) → h₀.get? C = none → σ' C = none → Da ≠ C → (∀ h'', Heap.SameBut C h' h'' → Sim g env.locals m (σ'.set Da (.list ys)) h'' ∧ Tr env.locals σ (σ'.set Da (.list ys)) h₀ h'') →
      compPost (model prog w) A E use Q (.ref Da) C (.ok .next) { s with heap := h', toks := tk }) :
    wpAny (model prog w) A (newList []) (fun acc s₃ => wpAny (model prog w) A (newFunctionEnv scope env.globals cl [] env.qual none .none (some env)) (fun cenv s₄ =>
      codeAny (model prog w) A (.compStart (.ListComp elt [⟨.Name x px, iter, ifs, 0⟩] scope pos) 0 (.ref I) acc { cenv with scope := relabel scope env }) (compPost (model prog w) A E use Q acc cenv.locals) s₄) E s₃) E s := by
  refine wpAny_newObj_type (nfe_cell hcells hpush ?_)
  dsimp only
  generalize hDa : s.heap.objs.size = Da
  generalize hH2 : s.heap.push { cls := .type "list", dict := none, data := .seq ([] : List Value).toArray } = H2
  generalize hC : H2.objs.size = C
  generalize hcc : C + 1 = c
  generalize hH3 : H2.push { cls := .type "dict", data := .dict #[] } = H3
  generalize hh1 : H3.push cellOb = h₁
  have hDaN : s.heap.get? Da = none := hDa ▸ size_none _
  have hH2C : H2.get? C = none := hC ▸ size_none _
  have hH2D : H2.get? Da = some { cls := .type "list", data := .seq #[] } := by rw [← hH2, ← hDa]; exact Heap.get?_push_size _ rfl
  have hH3s : H3.objs.size = c := by rw [← hH3, Heap.size_push, hC, hcc]
  have up2 : ∀ b o, s.heap.get? b = some o → H2.get? b = some o := fun b o e => by rw [← hH2]; exact Heap.get?_push_of_some _ e
  have up3 : ∀ b o, H2.get? b = some o → H3.get? b = some o := fun b o e => by rw [← hH3]; exact Heap.get?_push_of_some _ e
  have up4 : ∀ b o, H3.get? b = some o → h₁.get? b = some o := fun b o e => by rw [← hh1]; exact Heap.get?_push_of_some _ e
  have hns₁ : h₁.Ns C (fun _ => none) := by
    have := Heap.Ns.new H2 (.type "dict")
    rw [hC, hH3] at this
    exact this.keeps up4
  have hc₁ : h₁.get? c = some cellOb := by rw [← hh1, ← hH3s]; exact Heap.get?_push_size _ rfl
  have hH3c : H3.get? c = none := hH3s ▸ size_none _
  have noneOf : ∀ {h h' : Heap} {a : Addr}, (∀ b o, h.get? b = some o → h'.get? b = some o) → h'.get? a = none → h.get? a = none := fun {h h' a} k e => by
    cases q : h.get? a with
    | none => rfl
    | some o => rw [k _ _ q] at e; cases e
  have hH2c : H2.get? c = none := noneOf up3 hH3c
  have hsC : s.heap.get? C = none := noneOf up2 hH2C
  have hsc : s.heap.get? c = none := noneOf up2 hH2c
  have hDC : Da ≠ C := fun z => by rw [z, hH2C] at hH2D; cases hH2D
  have hDc : Da ≠ c := fun z => by rw [z, hH2c] at hH2D; cases hH2D
  have hCc : c ≠ C := fun z => by rw [← hcc] at z; exact absurd z (Nat.succ_ne_self C)
  have up1 : ∀ b o, H2.get? b = some o → h₁.get? b = some o := fun b o e => up4 _ _ (up3 _ _ e)
  have old : ∀ b o, s.heap.get? b = some o → h₁.get? b = some o := fun b o e => up1 b o (up2 b o e)
  have h0D : h₀.get? Da = none := noneOf hk₀ hDaN
  have h0C : h₀.get? C = none := noneOf hk₀ hsC
  have h0c : h₀.get? c = none := noneOf hk₀ hsc
  have gN : ∀ a, h₀.get? a = none → g.get? a = none := fun a e => S.gN e
  have σN : ∀ a, h₀.get? a = none → σ a = none := fun a e => S.σN e
  obtain ⟨oI, hoI⟩ := W.live _ _ st
  have hIC : I ≠ C := fun z => by rw [z, hsC] at hoI; cases hoI
  have hID : I ≠ Da := fun z => by rw [z, hDaN] at hoI; cases hoI
  have hIc : I ≠ c := fun z => by rw [z, hsc] at hoI; cases hoI
  have LN : ∀ a, h₀.get? a = none → a ≠ env.locals := fun a e => S.neL e
  have S₁ : Sim g (compEnvC scope ((x, c) :: cl) C env).locals [] σ h₁ := by
    refine ⟨fun b o e => old b o (hk₀ _ _ (S.base b o e)), gN C h0C, σN C h0C, S.off, ⟨_, hns₁, fun x v e => by cases e⟩, fun a o e => ?_⟩
    obtain ⟨ob, x, y⟩ := S.fit a o e
    exact ⟨ob, old _ _ (hk₀ _ _ x), y⟩
  have st₁ : St 0 h₁ := W.frame _ _ _ st fun o e => old _ _ e
  have loop : codeAny (model prog w) A (.compLoop (.ListComp elt [⟨.Name x px, iter, ifs, 0⟩] scope pos) 0 (.ref I) (.ref Da) (compEnvC scope ((x, c) :: cl) C env)) (compPost (model prog w) A E use Q (.ref Da) C) { s with heap := h₁ } := by
    refine codeAny_compLoop_tests (fun n s' => ∃ i ys σ₂ h₃ tk₃ items, ∃ mm : Loc, s' = { s with heap := h₃, toks := tk₃ } ∧ n = xs.length - i ∧ i ≤ xs.length ∧ J i ys σ₂ ∧ St i h₃ ∧ Sim g C mm σ₂ h₃ ∧ σ₂ I = none ∧ σ₂ Da = none ∧ (σ₂ c = none ∧ ∃ ov ob, h₃.get? c = some ob ∧ OR (.cell ov) ob) ∧
        h₃.PlainList Da items ∧ VRs ys items.toList ∧ (∀ b o, h₀.get? b = some o → σ b = none → h₃.get? b = some o) ∧ (∀ a, σ₂ a ≠ none → σ a ≠ none ∨ h₀.get? a = none)) ?_ xs.length
      ⟨0, [], σ, h₁, s.toks, #[], [], rfl, rfl, Nat.zero_le _, h0, st₁, S₁, σN I hI, σN Da h0D, ⟨σN c h0c, none, cellOb, hc₁, _, rfl, .none⟩, ⟨0, up1 _ _ hH2D⟩, .nil, fun b o e _ => old b o (hk₀ _ _ e), fun a e => .inl e⟩ (by intro _; rfl)
    rintro n _ ⟨i, ys, σ₂, h₃, tk₃, items, mm, rfl, rfl, hi, hJ, st₃, S₃, qI, qD, ⟨qc, ovc, obc, hoc, hrc⟩, hpl, rv, kp, fr⟩
    have gI := gN I hI
    have σ2N : ∀ b o, h₀.get? b = some o → σ b = none → σ₂ b = none := fun b o e q => by
      cases z : σ₂ b with
      | none => rfl
      | some x =>
        rcases fr b (by rw [z]; simp) with y | y
        · exact absurd q y
        · rw [y] at e; cases e
    have neI : ∀ b o, h₀.get? b = some o → b ≠ I := fun b o e z => by rw [z, hI] at e; cases e
    have neC : ∀ b o, h₀.get? b = some o → b ≠ C := fun b o e z => by rw [z, h0C] at e; cases e
    have nec : ∀ b o, h₀.get? b = some o → b ≠ c := fun b o e z => by rw [z, h0c] at e; cases e
    by_cases hlt : i < xs.length
    · have hxi : xs[i]? = some xs[i] := by simp [hlt]
      refine W.item i xs[i] C mm σ₂ { s with heap := h₃, toks := tk₃ } _ _ hxi st₃ S₃ (hD _ _ _ hJ) hIC qI fun x' h₄ tk₄ rx st₄ k₄ => ?_
      have S₄ := (S₃.forgetL (LSub.nil _)).but qI hIC gI k₄
      obtain ⟨oJ, hoJ⟩ := W.live _ _ st₄
      obtain ⟨nD, hD3⟩ := hpl
      have hD4 := k₄ _ _ (Ne.symm hID) hD3
      have S₄' := S₄.know (k₄ _ _ (Ne.symm hIc) hoc) hrc (gN c h0c) hCc
      refine wpAny_assign_Name (A_storeCell (prog := prog) (w := w) (g := g) (A := A) (env := compEnvC scope ((x, c) :: cl) C env) (m := []) (σ := σ₂.set c (.cell ovc)) (a := c) (ov := ovc) (Φ := fun _ m' σ' => m' = [] ∧ σ' = (σ₂.set c (.cell ovc)).set c (.cell (some xs[i]))) rx (by show List.lookup x ((x, c) :: cl) = some c; rw [List.lookup_cons, beq_self_eq_true]) (AH.set_self ..) ⟨rfl, rfl⟩ hkind hx { s with heap := h₄, toks := tk₄ } _ _ S₄' fun _ _ m₅ σ₅ h₅ tk₅ p₅ _ S₅ T₅ => ?_)
      obtain ⟨rfl, rfl⟩ := p₅
      rw [AH.set_set] at S₅ T₅
      have t := turn C c i xs[i] ys σ₂ hxi hJ qc
      refine t { s with heap := h₅, toks := tk₅ } _ _ S₅ fun b b' m₆ σ₆ h₆ tk₆ p₆ r₆ S₆ T₆ => ?_
      subst r₆
      have nxt : ∀ {σ₇ σ₈ : AH} {h₇ : Heap}, Tr C (σ₂.set c (.cell ovc)) σ₇ h₄ h₇ → Sub σ₈ σ₇ → σ₈ c = none → St (i + 1) h₇ ∧ σ₈ I = none ∧ σ₈ Da = none ∧ σ₇ Da = none ∧ h₇.PlainList Da items ∧ (∀ b o, h₀.get? b = some o → σ b = none → h₇.get? b = some o) ∧ (∀ a, σ₈ a ≠ none → σ a ≠ none ∨ h₀.get? a = none) := by
        intro σ₇ σ₈ h₇ T7 k7 c8
        have z : ∀ a, σ₇ a = none → σ₈ a = none := fun a e => by
          cases q : σ₈ a with
          | none => rfl
          | some o => rw [k7 _ _ q] at e; cases e
        have qI' : (σ₂.set c (.cell ovc)) I = none := by rw [AH.set_ne _ _ hIc]; exact qI
        have qD' : (σ₂.set c (.cell ovc)) Da = none := by rw [AH.set_ne _ _ hDc]; exact qD
        refine ⟨W.frame _ _ _ st₄ (fun o e => T7.keep I o e qI' hIC), z _ (T7.off qI' hoJ), z _ (T7.off qD' hD4), T7.off qD' hD4, ⟨nD, T7.keep _ _ hD4 qD' hDC⟩, fun b o e q => T7.keep b o (k₄ _ _ (neI b o e) (kp b o e q)) (by rw [AH.set_ne _ _ (nec b o e)]; exact σ2N b o e q) (neC b o e), fun a e => ?_⟩
        have hac : a ≠ c := fun z => by rw [z] at e; exact e c8
        have e7 : σ₇ a ≠ none := fun q => e (z a q)
        rcases T7.fresh a e7 with y | y
        · rw [AH.set_ne _ _ hac] at y; exact fr a y
        · cases q : h₀.get? a with
          | none => exact .inr rfl
          | some o =>
            refine .inl fun q' => ?_
            rw [k₄ _ _ (neI a o q) (kp a o q q')] at y
            cases y.1
      have T56 := T₅.trans T₆
      cases b with
      | false =>
        rw [if_neg Bool.false_ne_true]
        obtain ⟨⟨ov', hov'⟩, σ₇, k7, c7, hJ7⟩ := p₆.2 rfl
        obtain ⟨a1, a2, a3, _, a4, a5, a6⟩ := nxt T56 k7 c7
        obtain ⟨ob', ho', hr'⟩ := S₆.fit _ _ hov'
        exact ⟨_, by omega, i + 1, ys, σ₇, h₆, tk₆, items, m₆, rfl, rfl, hlt, hJ7, a1, S₆.forget k7, a2, a3, ⟨c7, ov', ob', ho', hr'⟩, a4, rv, a5, a6⟩
      | true =>
        rw [if_pos rfl]
        refine p₆.1 rfl { s with heap := h₆, toks := tk₆ } _ _ S₆ fun y y' m₇ σ₇ h₇ tk₇ p₇ r₇ S₇ T₇ => ?_
        obtain ⟨⟨ov', hov'⟩, σ₈, k8, c8, hJ8⟩ := p₇
        obtain ⟨a1, a2, a3, a3', a4, a5, a6⟩ := nxt (T56.trans T₇) k8 c8
        obtain ⟨ob', ho', hr'⟩ := S₇.fit _ _ hov'
        have hitems : items.size ≤ sizeLine := by
          have e1 := rv.length
          have e2 := hlen _ _ _ hJ
          rw [Array.length_toList] at e1
          omega
        refine wpAny_list_append_plain a4 (fun h₈ hl₈ hs₈ => ?_) hitems
        have k₈ : ∀ b o, b ≠ Da → h₇.get? b = some o → h₈.get? b = some o := fun b o hb e => (hs₈.2 b hb).trans e
        refine ⟨_, by omega, i + 1, ys ++ [y], σ₈, h₈, tk₇, items.push y', m₇, rfl, rfl, hlt, hJ8, W.frame _ _ _ a1 (fun o e => k₈ _ _ hID e), (S₇.but a3' hDC (gN Da h0D) k₈).forget k8, a2, a3, ⟨c8, ov', ob', k₈ _ _ (Ne.symm hDc) ho', hr'⟩, hl₈, ?_, fun b o e q => k₈ b o (fun z => by rw [z, h0D] at e; cases e) (a5 b o e q), a6⟩
        rw [Array.toList_push]
        exact rv.append (.cons r₇ .nil)
    · have hi' : i = xs.length := by omega
      subst hi'
      refine W.done C mm σ₂ { s with heap := h₃, toks := tk₃ } _ _ st₃ S₃ (hD _ _ _ hJ) hIC qI fun h₄ tk₄ k₄ => ?_
      have S₄ := S₃.but qI hIC gI k₄
      obtain ⟨nD, hD3⟩ := hpl
      have hD4 := k₄ _ _ (Ne.symm hID) hD3
      refine fin ys σ₂ Da C h₄ tk₄ hJ qD h0D (let ⟨M, q, _⟩ := S₄.ns; ⟨M, q⟩) h0C S₃.offL hDC fun h'' hs'' => ?_
      have up : ∀ b o, h₀.get? b = some o → σ b = none → h''.get? b = some o := fun b o e q => (hs''.2 b (neC b o e)).trans (k₄ _ _ (neI b o e) (kp b o e q))
      obtain ⟨M, ⟨oL, es, ep, hoL, rL⟩, qM⟩ := S.ns
      refine ⟨⟨fun b o e => ?_, S.gL, ?_, fun a e => ?_, ⟨M, ⟨oL, es, ep, up _ _ hoL S.offL, rL⟩, qM⟩, fun a o e => ?_⟩, ⟨fun b o e q _ => up b o e q, fun a e => ?_⟩⟩
      · exact (hs''.2 b (fun z => by rw [z, gN C h0C] at e; cases e)).trans (S₄.base b o e)
      · rw [AH.set_ne _ _ (Ne.symm (LN Da h0D))]; exact σ2N _ _ hoL S.offL
      · by_cases q : a = Da
        · rw [q]; exact gN Da h0D
        · rw [AH.set_ne _ _ q] at e; exact S₃.off a e
      · by_cases q : a = Da
        · rw [q, AH.set_self] at e; cases e
          exact ⟨_, (hs''.2 a (by rw [q]; exact hDC)).trans (by rw [q]; exact hD4), items, nD, rfl, rv⟩
        · rw [AH.set_ne _ _ q] at e
          obtain ⟨ob, x, y⟩ := S₄.fit a o e
          exact ⟨ob, (hs''.2 a (S₄.ne e)).trans x, y⟩
      · by_cases q : a = Da
        · rw [q]; exact .inr ⟨h0D, LN Da h0D⟩
        · rw [AH.set_ne _ _ q] at e
          exact (fr a e).imp id fun z => ⟨z, LN a z⟩
  exact codeAny_compStart_list loop (W.self 0 _ _ _ st₁ loop)

/-- what is asked of a comprehension whose variable is a cell; all stays as it was, but for its list -/
noncomputable def CompPC (prog : Program) (w : World) (g : Heap) (A : Around) (env : Env) (elt iter : Expr) (x : Str) (ifs : List Expr) (scope : Scope) (cl : List (Str × Addr)) (p : V → Bool) (f : V → V) (m : Loc) (σ : AH) (Φ : V → Loc → AH → Prop) : Prop :=
  AE prog w g A env iter m σ fun v m₁ σ₁ => ∃ (xs : List V) (D : AH → Prop), AIter prog w g A v xs D ∧ xs.length ≤ 1000 ∧ D σ₁ ∧
    (∀ (C c : Addr) (i : Nat) (v : V), xs[i]? = some v → σ₁ c = none → ATests prog w g A (compEnvC scope ((x, c) :: cl) C env) ifs [] (σ₁.set c (.cell (some v))) fun b m₂ σ₂ => b = p v ∧ Sub (σ₁.set c (.cell (some v))) σ₂ ∧
      (b = true → AE prog w g A (compEnvC scope ((x, c) :: cl) C env) elt m₂ σ₂ fun y _ σ₃ => y = f v ∧ Sub (σ₁.set c (.cell (some v))) σ₃)) ∧
    ∀ Da, σ₁ Da = none → Φ (.ref Da) m₁ (σ₁.set Da (.list ((xs.filter p).map f)))

theorem E_ListCompC {elt iter : Expr} {x : Str} {px : Pos} {ifs : List Expr} {scope : Scope} {cl : List (Str × Addr)} {pos : Pos} {Φ : V → Loc → AH → Prop} (p : V → Bool) (f : V → V)
    (hclos : closureFor scope env = pure cl) (h : CompPC prog w g A env elt iter x ifs scope cl p f m σ Φ) (hcells : ∀ n acc, cellsFrom n scope.names acc = (x, n) :: acc := by intro _ _; kernel_rfl!) (hpush : ∀ h, pushCells h scope.names = h.push cellOb := by intro _; kernel_rfl!)
    (hkind : scope.kind = .function := by kernel_rfl!) (hnames : ∀ y ∈ scope.names, y.2 = .local → scope.names.lookup y.1 = some .local := by decide) (hx : (relabel scope env).names.lookup x = some .cell := by kernel_rfl!)
    (hs : ∀ x, foldedSetIterable iter env x = pure x := by intro _; kernel_rfl!) : AE prog w g A env (.ListComp elt [⟨.Name x px, iter, ifs, 0⟩] scope pos) m σ Φ := fun s Q E S c => by
  rw [eval_ListComp]
  refine wpAny_comprehension_free (use := none) rfl hs hclos hkind hnames (h s _ E S fun v a m₁ σ₁ h₁ tk p₁ r S₁ T₁ => ?_)
  obtain ⟨xs, D, hit, hz, h0, turn, fin⟩ := p₁
  refine hit env.locals m₁ σ₁ a r h0 { s with heap := h₁, toks := tk } _ E S₁ fun I h₂ tk₂ St W st hI hk => ?_
  refine comp_coreC hcells hpush hkind hx W st S₁ hk hI (by have := sizeLine_eq; omega) (fun i ys σ => σ = σ₁ ∧ ys = ((xs.take i).filter p).map f) ⟨rfl, by simp⟩ (fun i ys σ q => by rw [q.1]; exact h0)
    (fun i ys σ q => by rw [q.2, List.length_map]; exact Nat.le_trans (List.length_filter_le _ _) (by rw [List.length_take]; omega)) ?_ fun ys σ' Da C h' tk' hj qD h0D hn h0C qC hDC k => ?_
  · rintro C c i v ys σ hv ⟨rfl, rfl⟩ hc
    refine AW.mono (turn C c i v hv hc) ?_
    rintro b m₂ σ₂ ⟨rfl, hs, k⟩
    have e : xs.take (i + 1) = xs.take i ++ [v] := by rw [List.take_add_one, hv]; rfl
    refine ⟨fun hb => ?_, fun hb => ⟨⟨_, hs _ _ (AH.set_self ..)⟩, σ, (Sub.set hc).trans hs, hc, rfl, ?_⟩⟩
    · refine AW.mono (k hb) ?_
      rintro y m₃ σ₃ ⟨rfl, hs'⟩
      refine ⟨⟨_, hs' _ _ (AH.set_self ..)⟩, σ, (Sub.set hc).trans hs', hc, rfl, ?_⟩
      rw [e, List.filter_append, List.filter_cons_of_pos (by simpa using hb)]
      simp
    · rw [e, List.filter_append, List.filter_cons_of_neg (by simpa using hb)]
      simp
  · obtain ⟨rfl, rfl⟩ := hj
    obtain ⟨M, hn⟩ := hn
    refine ⟨M, hn, fun h'' hs'' => ?_⟩
    obtain ⟨S'', T''⟩ := k h'' hs''
    refine c _ _ _ _ h'' tk' (fin Da qD) (.ref Da) ?_ (T₁.trans ?_)
    · rw [List.take_length] at S''; exact S''
    · rw [List.take_length] at T''; exact T''

/-! «and» as a value -/
theorem E_And2 {a b : Expr} {pos : Pos} {Φ : V → Loc → AH → Prop} (h : AE prog w g A env a m σ fun v m₁ σ₁ => A1 prog w g A env truthy Eq v m₁ σ₁ fun t m₂ σ₂ => (t = false → Φ v m₂ σ₂) ∧ (t = true → AE prog w g A env b m₂ σ₂ Φ)) :
    AE prog w g A env (.BoolOp .And [a, b] pos) m σ Φ := fun s Q E S c => by
  rw [arm_eval_BoolOp]
  show wpAny _ _ (do
    let v ← eval a env
    standAt pos
    let t ← holding [v] (truthy v)
    match BoolOp.And, t with
    | .And, false | .Or, true => pure v
    | _, _ => boolOp pos .And [eval b env]) _ E s
  refine wpAny_bind (h s _ E S fun v x m₁ σ₁ h₁ tk p r S₁ T₁ => wpAny_bind (wpAny_standAt (wpAny_bind (wpAny_holding ?_))))
  refine p x r { s with heap := h₁, toks := tk } _ E S₁ fun t t' m₂ σ₂ h₂ tk₂ p₂ r₂ S₂ T₂ => ?_
  subst r₂
  cases t with
  | false => exact wpAny_pure (c _ _ _ _ h₂ tk₂ (p₂.1 rfl) r S₂ (T₁.trans T₂))
  | true => exact p₂.2 rfl { s with heap := h₂, toks := tk₂ } _ E S₂ fun v x m₃ σ₃ h₃ tk₃ p₃ r₃ S₃ T₃ => c _ _ _ _ h₃ tk₃ p₃ r₃ S₃ (T₁.trans (T₂.trans T₃))
theorem E_Or2 {a b : Expr} {pos : Pos} {Φ : V → Loc → AH → Prop} (h : AE prog w g A env a m σ fun v m₁ σ₁ => A1 prog w g A env truthy Eq v m₁ σ₁ fun t m₂ σ₂ => (t = true → Φ v m₂ σ₂) ∧ (t = false → AE prog w g A env b m₂ σ₂ Φ)) :
    AE prog w g A env (.BoolOp .Or [a, b] pos) m σ Φ := fun s Q E S c => by
  rw [arm_eval_BoolOp]
  show wpAny _ _ (do
    let v ← eval a env
    standAt pos
    let t ← holding [v] (truthy v)
    match BoolOp.Or, t with
    | .And, false | .Or, true => pure v
    | _, _ => boolOp pos .Or [eval b env]) _ E s
  refine wpAny_bind (h s _ E S fun v x m₁ σ₁ h₁ tk p r S₁ T₁ => wpAny_bind (wpAny_standAt (wpAny_bind (wpAny_holding ?_))))
  refine p x r { s with heap := h₁, toks := tk } _ E S₁ fun t t' m₂ σ₂ h₂ tk₂ p₂ r₂ S₂ T₂ => ?_
  subst r₂
  cases t with
  | true => exact wpAny_pure (c _ _ _ _ h₂ tk₂ (p₂.1 rfl) r S₂ (T₁.trans T₂))
  | false => exact p₂.2 rfl { s with heap := h₂, toks := tk₂ } _ E S₂ fun v x m₃ σ₃ h₃ tk₃ p₃ r₃ S₃ T₃ => c _ _ _ _ h₃ tk₃ p₃ r₃ S₃ (T₁.trans (T₂.trans T₃))
end
end Mine

namespace Mine
open PySem PySem.W PyProof.Rows

noncomputable def nats (n : Nat) : List Int := (List.range n).map fun (i : Nat) => (i : Int)
theorem rngL_nats (n : Nat) : rngL 0 1 n = ivs (nats n) := by
  unfold rngL ivs nats
  rw [List.map_map]
  exact List.map_congr_left fun i _ => by simp
theorem nats_at {n i : Nat} {x : Int} (h : (nats n)[i]? = some x) : i < n ∧ x = i := by
  have := rngL_at (n := n) (i := i) (v := .int x) (by rw [rngL_nats]; unfold ivs; rw [List.getElem?_map, h]; rfl)
  exact ⟨this.1, by injection this.2⟩
theorem nats_length (n : Nat) : (nats n).length = n := by simp [nats]
theorem mem_nats {n : Nat} {x : Int} (h : x ∈ nats n) : ∃ k : Nat, k < n ∧ x = k := by
  obtain ⟨k, hk, rfl⟩ := List.mem_map.mp h
  exact ⟨k, List.mem_range.mp hk, rfl⟩
theorem filter_ivs (xs : List Int) (p : V → Bool) (q : Int → Bool) (h : ∀ x, p (.int x) = q x) : (ivs xs).filter p = ivs (xs.filter q) := by
  unfold ivs
  rw [List.filter_map]
  congr 1
  exact List.filter_congr fun x _ => h x
theorem map_idV (xs : List V) : xs.map (fun v => v) = xs := List.map_id' xs
theorem keyOf_nat (vals : List Int) (k : Nat) : keyOf vals (k : Int) = vals.getD k 0 := by unfold keyOf; simp

section
variable {w : World} {g : Heap} {A : Around} {m : Loc} {σ : AH} {env : Env}

theorem sub_key {value slice : Expr} {l : Addr} {vals : List Int} {k : Nat} {Φ : V → Loc → AH → Prop} (hl : σ l = some (.list (ivs vals))) (hk : k < vals.length) (hz : vals.length ≤ 1000) (h : Φ (.int (keyOf vals k)) m σ)
    (hs : ∀ a b, subscripted slice false a b = operate [a, b] (getItem a b) := by intro _ _; kernel_rfl!) : A2 PP w g A env (subscriptTail value slice) (.ref l) (.int (k : Int)) m σ Φ :=
  sub_listN hl (by omega) (ivs_get hk) (by rw [keyOf_nat] at h; exact h) hs

noncomputable abbrev fPairs (w : World) : FuncData := fnAt (KK w) 211

theorem pairs_call (G : Gd (KK w) g) (hA : AOk A 6) {L lb le lbe lbh lf ll : Addr} {begins ends before behind first last : List Int} {Φ : V → Loc → AH → Prop} (n : Nat)
    (hb : σ lb = some (.list (ivs begins))) (he : σ le = some (.list (ivs ends))) (hbe : σ lbe = some (.list (ivs before))) (hbh : σ lbh = some (.list (ivs behind))) (hf : σ lf = some (.list (ivs first))) (hl : σ ll = some (.list (ivs last)))
    (n1 : begins.length = n) (n2 : ends.length = n) (n3 : before.length = n) (n4 : behind.length = n) (n5 : first.length = n) (n6 : last.length = n) (hz : n ≤ 900)
    (H : ∀ i : Nat, i < n → keyOf before i = (((nats n).filter fun j => decide (keyOf ends j ≤ keyOf begins i)).length : Int) ∧ keyOf behind i = (((nats n).filter fun j => decide (keyOf ends i ≤ keyOf begins j)).length : Int) ∧
      (nats n).filter (fun j => decide (keyOf ends j ≤ keyOf begins i)) = (nats n).filter fun j => decide (keyOf last j < keyOf first i))
    (h : ∀ σ'', Sub σ σ'' → Φ (.bool true) m σ'') :
    ACall PP w g A L (.ref 211) [.ref lb, .ref le, .ref lbe, .ref lbh, .ref lf, .ref ll] [] m σ Φ := by
  refine call_defC (fd := fPairs w) (oc := .type "function") (od := none) (osl := #[]) (binds := [(Str.ofString "begins", .ref lb), (Str.ofString "ends", .ref le), (Str.ofString "before", .ref lbe), (Str.ofString "behind", .ref lbh), (Str.ofString "first", .ref lf), (Str.ofString "last", .ref ll)]) G hA.room (by kernel_rfl!) (by kernel_rfl!) (by kernel_rfl!) (fun pos' rs => ?_) (by kernel_rfl!) (by kernel_rfl!) (by kernel_rfl!) (fun L' cs σ₁ hcs hap hoff hsub hcell => ?_) (by kernel_rfl!) (by kernel_rfl!) (by kernel_rfl!)
  · obtain ⟨_, _, rfl, r0, rs⟩ := rs.c
    obtain ⟨_, _, rfl, r1, rs⟩ := rs.c
    obtain ⟨_, _, rfl, r2, rs⟩ := rs.c
    obtain ⟨_, _, rfl, r3, rs⟩ := rs.c
    obtain ⟨_, _, rfl, r4, rs⟩ := rs.c
    obtain ⟨_, _, rfl, r5, rs⟩ := rs.c
    obtain rfl := rs.n
    exact ⟨[(Str.ofString "begins", _), (Str.ofString "ends", _), (Str.ofString "before", _), (Str.ofString "behind", _), (Str.ofString "first", _), (Str.ofString "last", _)], by kernel_rfl!, .cons r0 (.cons r1 (.cons r2 (.cons r3 (.cons r4 (.cons r5 .nil)))))⟩
  replace hcs := hcs.trans (c := [Str.ofString "one", Str.ofString "last", Str.ofString "first", Str.ofString "ends", Str.ofString "begins"]) (by kernel_rfl!)
  obtain ⟨c1, cs1, rfl, hcs1⟩ := cells_cons hcs
  obtain ⟨c2, cs2, rfl, hcs2⟩ := cells_cons hcs1
  obtain ⟨c3, cs3, rfl, hcs3⟩ := cells_cons hcs2
  obtain ⟨c4, cs4, rfl, hcs4⟩ := cells_cons hcs3
  obtain ⟨c5, cs5, rfl, hcs5⟩ := cells_cons hcs4
  obtain rfl := cells_nil hcs5
  have hA' := hA.deeper (envC (fPairs w) L' 211 [(Str.ofString "one", c1), (Str.ofString "last", c2), (Str.ofString "first", c3), (Str.ofString "ends", c4), (Str.ofString "begins", c5)])
  have e1 : σ₁ c1 = some (.cell none) := hcell (Str.ofString "one", c1) (.head _)
  have e2 : σ₁ c2 = some (.cell (some (.ref ll))) := hcell (Str.ofString "last", c2) (.tail _ (.head _))
  have e3 : σ₁ c3 = some (.cell (some (.ref lf))) := hcell (Str.ofString "first", c3) (.tail _ (.tail _ (.head _)))
  have e4 : σ₁ c4 = some (.cell (some (.ref le))) := hcell (Str.ofString "ends", c4) (.tail _ (.tail _ (.tail _ (.head _))))
  have e5 : σ₁ c5 = some (.cell (some (.ref lb))) := hcell (Str.ofString "begins", c5) (.tail _ (.tail _ (.tail _ (.tail _ (.head _)))))
  have ap := (List.pairwise_cons.mp hap).1
  have c12 : c2 ≠ c1 := Ne.symm (ap (Str.ofString "last", c2) (.head _))
  have c13 : c3 ≠ c1 := Ne.symm (ap (Str.ofString "first", c3) (.tail _ (.head _)))
  have c14 : c4 ≠ c1 := Ne.symm (ap (Str.ofString "ends", c4) (.tail _ (.tail _ (.head _))))
  have c15 : c5 ≠ c1 := Ne.symm (ap (Str.ofString "begins", c5) (.tail _ (.tail _ (.tail _ (.head _)))))
  have o1 : σ c1 = none := hoff (Str.ofString "one", c1) (.head _)
  show AXs PP w g _ (envC (fPairs w) L' 211 [(Str.ofString "one", c1), (Str.ofString "last", c2), (Str.ofString "first", c3), (Str.ofString "ends", c4), (Str.ofString "begins", c5)]) (bodyOf (fPairs w)) [(Str.ofString "behind", .ref lbh), (Str.ofString "before", .ref lbe)] σ₁ _
  refine AXs_cons <| X_AssignLocal <| E_Call <| E_Builtin G (by kernel_rfl!) boot_range (.typ _) <| Args_cons <| E_Call <| E_Builtin G (by kernel_rfl!) boot_len (.blt _) <| Args_cons <| E_Cell (a := c5) rfl e5 <| Args_nil' <| Kws_nil <| call_len_list (hsub _ _ hb) (Args_nil' <| Kws_nil <| call_range1 fun ρ hρ => ?_) (by rw [ivs_length]; omega)
  rw [ivs_length, n1]
  have sb : ∀ a o, σ₁ a = some o → (σ₁.set ρ (.rng 0 n 1)) a = some o := fun a o e => AH.set_get e hρ
  have hρ' : (σ₁.set ρ (.rng 0 n 1)) ρ = some (.rng 0 n 1) := AH.set_self ..
  have ρ1 : ρ ≠ c1 := fun z => by rw [z, e1] at hρ; cases hρ
  generalize (σ₁.set ρ (.rng 0 n 1)) = σb at sb hρ' ⊢
  refine AXs_cons <| X_For <| E_Local rfl ⟨rngL 0 1 n, _, fun i m' σ' => m' = [(Str.ofString "behind", .ref lbh), (Str.ofString "before", .ref lbe), (Str.ofString "every", .ref ρ)] ∧ (∃ ov, σ' c1 = some (.cell ov)) ∧ ∀ a o, a ≠ c1 → σb a = some o → σ' a = some o,
    iter_rng hA'.handled (rng1 n (by omega)).1 (rng1 n (by omega)).2, ⟨rfl, ⟨none, sb _ _ e1⟩, fun a o _ e => e⟩, ?_, ?_, ?_⟩
  · rintro i m' σ' ⟨_, _, q⟩; exact q _ _ ρ1 hρ'
  · rintro i v m' σ' hv ⟨rfl, ⟨ov, hov⟩, q⟩
    obtain ⟨hi, rfl⟩ := rngL_at hv
    obtain ⟨H1, H2, H3⟩ := H i hi
    refine asg_cell (c := c1) rfl hov ?_
    have q' : ∀ a o, σ₁ a = some o → a ≠ c1 → (σ'.set c1 (.cell (some (.int i)))) a = some o := fun a o e hne => by rw [AH.set_ne _ _ hne]; exact q _ _ hne (sb _ _ e)
    have f1 : (σ'.set c1 (.cell (some (.int i)))) c1 = some (.cell (some (.int i))) := AH.set_self ..
    have fρ : (σ'.set c1 (.cell (some (.int i)))) ρ = some (.rng 0 n 1) := by rw [AH.set_ne _ _ ρ1]; exact q _ _ ρ1 hρ'
    have f2 := q' _ _ e2 c12
    have f3 := q' _ _ e3 c13
    have f4 := q' _ _ e4 c14
    have f5 := q' _ _ e5 c15
    have gb := q' _ _ (hsub _ _ hb) (AH.ne_of hb o1)
    have ge := q' _ _ (hsub _ _ he) (AH.ne_of he o1)
    have gbe := q' _ _ (hsub _ _ hbe) (AH.ne_of hbe o1)
    have gbh := q' _ _ (hsub _ _ hbh) (AH.ne_of hbh o1)
    have gf := q' _ _ (hsub _ _ hf) (AH.ne_of hf o1)
    have gl := q' _ _ (hsub _ _ hl) (AH.ne_of hl o1)
    have qb : ∀ a o, a ≠ c1 → σb a = some o → (σ'.set c1 (.cell (some (.int i)))) a = some o := fun a o hne e => by rw [AH.set_ne _ _ hne]; exact q _ _ hne e
    clear q q'
    generalize (σ'.set c1 (.cell (some (.int i)))) = σc at f1 fρ f2 f3 f4 f5 gb ge gbe gbh gf gl qb ⊢
    refine AXs_cons <| X_AssignComp (cl := [(Str.ofString "one", c1), (Str.ofString "ends", c4), (Str.ofString "begins", c5)]) (by kernel_rfl!) (comp_pure (fun v => decide (keyOf ends v.toI ≤ keyOf begins i)) (fun v => v) <| E_Local rfl ⟨rngL 0 1 n, _, iter_rng hA'.handled (rng1 n (by omega)).1 (rng1 n (by omega)).2, by rw [rngL_length]; omega, fρ, fun C j v hv => ?_, fun a1 ha1 => ?_⟩)
    · obtain ⟨hj, rfl⟩ := rngL_at hv
      refine tests_one <| T_Compare1 <| E_Sub <| E_Cell (a := c4) (by kernel_rfl!) f4 <| E_Local rfl <| sub_key ge (by omega) (by omega) <| E_Sub <| E_Cell (a := c5) (by kernel_rfl!) f5 <| E_Cell (a := c1) (by kernel_rfl!) f1 <| sub_key gb (by omega) (by omega) <| le_I <| tr_B ⟨rfl, Sub.refl _, fun _ => E_Local rfl ⟨rfl, Sub.refl _⟩⟩
    rw [map_idV, rngL_nats, filter_ivs _ _ (fun j => decide (keyOf ends j ≤ keyOf begins i)) (fun x => rfl)]
    have s1 := Sub.set (p := .list (ivs ((nats n).filter fun j => decide (keyOf ends j ≤ keyOf begins i)))) ha1
    have A1 : (σc.set a1 (.list (ivs ((nats n).filter fun j => decide (keyOf ends j ≤ keyOf begins i))))) a1 = _ := AH.set_self ..
    generalize (σc.set a1 (.list (ivs ((nats n).filter fun j => decide (keyOf ends j ≤ keyOf begins i))))) = σd at s1 A1 ⊢
    refine AXs_cons <| X_AssignComp (cl := [(Str.ofString "one", c1), (Str.ofString "ends", c4), (Str.ofString "begins", c5)]) (by kernel_rfl!) (comp_pure (fun v => decide (keyOf ends i ≤ keyOf begins v.toI)) (fun v => v) <| E_Local rfl ⟨rngL 0 1 n, _, iter_rng hA'.handled (rng1 n (by omega)).1 (rng1 n (by omega)).2, by rw [rngL_length]; omega, s1 _ _ fρ, fun C j v hv => ?_, fun a2 ha2 => ?_⟩)
    · obtain ⟨hj, rfl⟩ := rngL_at hv
      refine tests_one <| T_Compare1 <| E_Sub <| E_Cell (a := c4) (by kernel_rfl!) (s1 _ _ f4) <| E_Cell (a := c1) (by kernel_rfl!) (s1 _ _ f1) <| sub_key (s1 _ _ ge) (by omega) (by omega) <| E_Sub <| E_Cell (a := c5) (by kernel_rfl!) (s1 _ _ f5) <| E_Local rfl <| sub_key (s1 _ _ gb) (by omega) (by omega) <| le_I <| tr_B ⟨rfl, Sub.refl _, fun _ => E_Local rfl ⟨rfl, Sub.refl _⟩⟩
    rw [map_idV, rngL_nats, filter_ivs _ _ (fun j => decide (keyOf ends i ≤ keyOf begins j)) (fun x => rfl)]
    have s2 := Sub.set (p := .list (ivs ((nats n).filter fun j => decide (keyOf ends i ≤ keyOf begins j)))) ha2
    have A2' : (σd.set a2 (.list (ivs ((nats n).filter fun j => decide (keyOf ends i ≤ keyOf begins j))))) a2 = _ := AH.set_self ..
    have A1' := s2 _ _ A1
    generalize (σd.set a2 (.list (ivs ((nats n).filter fun j => decide (keyOf ends i ≤ keyOf begins j))))) = σe at s2 A2' A1' ⊢
    have s12 : Sub σc σe := s1.trans s2
    have len1 : ((nats n).filter fun j => decide (keyOf ends j ≤ keyOf begins i)).length ≤ 900 := Nat.le_trans (List.length_filter_le _ _) (by rw [nats_length]; omega)
    have len2 : ((nats n).filter fun j => decide (keyOf ends i ≤ keyOf begins j)).length ≤ 900 := Nat.le_trans (List.length_filter_le _ _) (by rw [nats_length]; omega)
    refine AXs_cons <| X_If <| T_BoolOp <| all_Or <| T_Compare1 <| E_Sub <| E_Local rfl <| E_Cell (a := c1) rfl (s12 _ _ f1) <| sub_key (s12 _ _ gbe) (by omega) (by omega) <| E_Call <| E_Builtin G (by kernel_rfl!) boot_len (.blt _) <| Args_cons <| E_Local rfl <| Args_nil' <| Kws_nil <| call_len_list A1' (ne_I <| tr_B ⟨fun hb => ?_, fun _ => ?_⟩) (by rw [ivs_length]; omega)
    · rw [ivs_length, H1] at hb; simp at hb
    refine all_Or <| T_Compare1 <| E_Sub <| E_Local rfl <| E_Cell (a := c1) rfl (s12 _ _ f1) <| sub_key (s12 _ _ gbh) (by omega) (by omega) <| E_Call <| E_Builtin G (by kernel_rfl!) boot_len (.blt _) <| Args_cons <| E_Local rfl <| Args_nil' <| Kws_nil <| call_len_list A2' (ne_I <| tr_B ⟨fun hb => ?_, fun _ => ?_⟩) (by rw [ivs_length]; omega)
    · rw [ivs_length, H2] at hb; simp at hb
    refine all_Or_nil ⟨fun hb => absurd hb (by decide), fun _ => AXs_nil ?_⟩
    refine AXs_cons <| X_If <| T_Compare1 <| E_Local rfl <| E_ListComp (cl := [(Str.ofString "one", c1), (Str.ofString "last", c2), (Str.ofString "first", c3)]) (by kernel_rfl!) (comp_pure (fun v => decide (keyOf last v.toI < keyOf first i)) (fun v => v) <| E_Local rfl ⟨rngL 0 1 n, _, iter_rng hA'.handled (rng1 n (by omega)).1 (rng1 n (by omega)).2, by rw [rngL_length]; omega, s12 _ _ fρ, fun C j v hv => ?_, fun a3 ha3 => ?_⟩)
    · obtain ⟨hj, rfl⟩ := rngL_at hv
      refine tests_one <| T_Compare1 <| E_Sub <| E_Cell (a := c2) (by kernel_rfl!) (s12 _ _ f2) <| E_Local rfl <| sub_key (s12 _ _ gl) (by omega) (by omega) <| E_Sub <| E_Cell (a := c3) (by kernel_rfl!) (s12 _ _ f3) <| E_Cell (a := c1) (by kernel_rfl!) (s12 _ _ f1) <| sub_key (s12 _ _ gf) (by omega) (by omega) <| lt_I <| tr_B ⟨rfl, Sub.refl _, fun _ => E_Local rfl ⟨rfl, Sub.refl _⟩⟩
    rw [map_idV, rngL_nats, filter_ivs _ _ (fun j => decide (keyOf last j < keyOf first i)) (fun x => rfl)]
    refine ne_LL hA'.unitsOk (AH.set_get A1' ha3) (AH.set_self ..) <| tr_B ⟨fun hb => ?_, fun _ => AXs_nil <| AXs_nil ?_⟩
    · rw [H3] at hb; simp at hb
    · refine Fgt.now' (m' := [(Str.ofString "behind", .ref lbh), (Str.ofString "before", .ref lbe), (Str.ofString "every", .ref ρ)]) (LSub.pre [(_, _), (_, _), (_, _)] [(_, _), (_, _)]) ⟨rfl, ⟨_, AH.set_get (s12 _ _ f1) ha3⟩, fun a o hne e => AH.set_get (s12 _ _ (qb _ _ hne e)) ha3⟩
  · rintro m' σ' ⟨rfl, _, q⟩
    exact AXs_nil <| AXs_cons <| X_Return <| E_Bool ⟨_, Sub.refl _, h _ fun a o e => q _ _ (AH.ne_of e o1) (sb _ _ (hsub _ _ e))⟩
end
end Mine

namespace Mine
open PySem PySem.W PyProof.Rows

inductive LLi (σ : AH) : List Addr → List (List Int) → Prop where
  | nil : LLi σ [] []
  | cons {a as xs xss} : σ a = some (.list (ivs xs)) → LLi σ as xss → LLi σ (a :: as) (xs :: xss)
theorem LLi.mono {σ σ' : AH} {as xss} (h : LLi σ as xss) (k : ∀ a xs, a ∈ as → σ a = some (.list (ivs xs)) → σ' a = some (.list (ivs xs))) : LLi σ' as xss := by
  induction h with
  | nil => exact .nil
  | cons e _ ih => exact .cons (k _ _ (List.mem_cons_self ..) e) (ih fun a xs ha => k a xs (List.mem_cons_of_mem _ ha))
theorem LLi.sub {σ σ' : AH} {as xss} (h : LLi σ as xss) (k : Sub σ σ') : LLi σ' as xss := h.mono fun a xs _ e => k _ _ e
theorem LLi.snoc {σ : AH} {as xss a xs} (h : LLi σ as xss) (e : σ a = some (.list (ivs xs))) : LLi σ (as ++ [a]) (xss ++ [xs]) := by
  induction h with
  | nil => exact .cons e .nil
  | cons e' _ ih => exact .cons e' ih
theorem LLi.length {σ : AH} {as xss} (h : LLi σ as xss) : as.length = xss.length := by
  induction h with
  | nil => rfl
  | cons _ _ ih => simp [ih]
theorem LLi.get {σ : AH} {as xss} (h : LLi σ as xss) : ∀ {i : Nat} {a : Addr}, as[i]? = some a → ∃ xs, xss[i]? = some xs ∧ σ a = some (.list (ivs xs)) := by
  induction h with
  | nil => intro i a e; simp at e
  | cons e' _ ih =>
    intro i a e
    cases i with
    | zero => simp at e; subst e; exact ⟨_, rfl, e'⟩
    | succ i => simp at e; simpa using ih e
theorem LLi.get' {σ : AH} {as xss} (h : LLi σ as xss) : ∀ {i : Nat} {xs : List Int}, xss[i]? = some xs → ∃ a, as[i]? = some a ∧ σ a = some (.list (ivs xs)) := by
  induction h with
  | nil => intro i a e; simp at e
  | cons e' _ ih =>
    intro i a e
    cases i with
    | zero => simp at e; subst e; exact ⟨_, rfl, e'⟩
    | succ i => simp at e; simpa using ih e
theorem LLi.ll {σ : AH} {as xss} (h : LLi σ as xss) : LLs σ as xss := ⟨h.length, fun i a e => by
  obtain ⟨xs, e1, e2⟩ := h.get e
  rw [e2]; simp [e1]⟩

noncomputable def V.il (σ : AH) : V → List Int
  | .ref a => match σ a with
    | some (.list xs) => xs.map V.toI
    | _ => []
  | _ => []
theorem il_of {σ : AH} {a : Addr} {xs : List Int} (h : σ a = some (.list (ivs xs))) : (V.ref a).il σ = xs := by
  show (match σ a with
    | some (.list xs) => xs.map V.toI
    | _ => []) = xs
  rw [h]
  show (ivs xs).map V.toI = xs
  unfold ivs
  rw [List.map_map]
  exact List.map_id _
theorem LLi.filter {σ : AH} {as xss} (h : LLi σ as xss) (p : List Int → Bool) : LLi σ (as.filter fun a => p ((V.ref a).il σ)) (xss.filter p) := by
  induction h with
  | nil => exact .nil
  | @cons a as xs xss e _ ih =>
    by_cases q : p xs = true
    · rw [List.filter_cons_of_pos (by rw [il_of e]; exact q), List.filter_cons_of_pos q]; exact .cons e ih
    · rw [List.filter_cons_of_neg (by rw [il_of e]; exact q), List.filter_cons_of_neg q]; exact ih
theorem LLi.any {σ : AH} {as xss} (h : LLi σ as xss) (p : List Int → Bool) : (as.any fun a => p ((V.ref a).il σ)) = xss.any p := by
  induction h with
  | nil => rfl
  | cons e _ ih => rw [List.any_cons, List.any_cons, il_of e, ih]

noncomputable def heldL (n : Nat) (begins ends : List Int) (p : Int) : List Int := (nats n).filter fun j => decide (keyOf begins j ≤ p) && decide (p < keyOf ends j)
noncomputable def setStep (n : Nat) (begins ends : List Int) (S : List (List Int)) (p : Int) : List (List Int) := if heldL n begins ends p ∈ S then S else S ++ [heldL n begins ends p]
noncomputable def setsL (n : Nat) (begins ends pts : List Int) : List (List Int) := pts.foldl (setStep n begins ends) []
noncomputable def ltB (h o : List Int) : Bool := !decide (h = o) && h.all fun x => decide (x ∈ o)
noncomputable def fullL (S : List (List Int)) : List (List Int) := S.filter fun h => !(S.any fun o => ltB h o)
theorem setStep_length (n : Nat) (b e : List Int) (S : List (List Int)) (p : Int) : (setStep n b e S p).length ≤ S.length + 1 := by
  unfold setStep; split <;> simp
theorem foldl_setStep_length (n : Nat) (b e : List Int) (pts : List Int) (S : List (List Int)) : (pts.foldl (setStep n b e) S).length ≤ S.length + pts.length := by
  induction pts generalizing S with
  | nil => simp
  | cons x xs ih => rw [List.foldl_cons]; have := ih (setStep n b e S x); have := setStep_length n b e S x; simp; omega
theorem setsL_succ {n : Nat} {b e xs : List Int} {i : Nat} {x : Int} (hx : xs[i]? = some x) : setsL n b e (xs.take (i + 1)) = setStep n b e (setsL n b e (xs.take i)) x := foldl_take_succ _ _ _ _ _ hx
theorem heldL_length (n : Nat) (b e : List Int) (p : Int) : (heldL n b e p).length ≤ n := by
  unfold heldL; exact Nat.le_trans (List.length_filter_le _ _) (by rw [nats_length]; exact Nat.le_refl _)

section
variable {prog : Program} {w : World} {g : Heap} {A : Around} {m : Loc} {σ : AH} {env : Env}

theorem call_list_append {L l : Addr} {xs : List V} {v : V} {Φ : V → Loc → AH → Prop} (hl : σ l = some (.list xs)) (hz : xs.length ≤ 1000) (h : Φ .none m (σ.set l (.list (xs ++ [v])))) :
    ACall prog w g A L (.blt "list.append") [.ref l, v] [] m σ Φ := by
  intro f' pos' kw' r rs rk
  obtain rfl := r.f
  obtain rfl := rk.n
  obtain ⟨_, _, rfl, r1, rs⟩ := rs.c
  obtain ⟨y, _, rfl, rv, rs⟩ := rs.c
  obtain rfl := rs.n
  obtain rfl := r1.r
  refine ⟨keeper_blt, fun s Q E S c => ?_⟩
  obtain ⟨items, hp, rx⟩ := S.plist hl
  refine wpAny_list_append_plain hp (fun h' hp' hs => ?_) (by rw [rx.len2]; have := sizeLine_eq; omega)
  obtain ⟨n', ho'⟩ := hp'
  exact c _ _ _ _ h' s.toks h .none (S.upd hl hs ho' ⟨_, _, rfl, by rw [Array.toList_push]; exact rx.append (.cons rv .nil)⟩) (Tr.upd hl hs)

noncomputable abbrev fFull (w : World) : FuncData := fnAt (KK w) 216

theorem refs_at {as : List Addr} {i : Nat} {v : V} (h : (as.map V.ref)[i]? = some v) : ∃ a, as[i]? = some a ∧ v = .ref a := by
  rw [List.getElem?_map] at h
  cases q : as[i]? with
  | none => rw [q] at h; cases h
  | some a => rw [q] at h; cases h; exact ⟨a, rfl, rfl⟩

theorem fullest_call (G : Gd (KK w) g) (hA : AOk A 6) {L lb le : Addr} {begins ends : List Int} {Φ : V → Loc → AH → Prop} (n : Nat)
    (hb : σ lb = some (.list (ivs begins))) (he : σ le = some (.list (ivs ends))) (n1 : begins.length = n) (n2 : ends.length = n) (hz : n ≤ 60)
    (h : ∀ r as pts σ'', Sub σ σ'' → pts.Perm begins → pts.Pairwise (· ≤ ·) → σ'' r = some (.list (as.map V.ref)) → LLi σ'' as (fullL (setsL n begins ends pts)) → Φ (.ref r) m σ'') :
    ACall PP w g A L (.ref 216) [.ref lb, .ref le] [] m σ Φ := by
  refine call_defC (fd := fFull w) (oc := .type "function") (od := none) (osl := #[]) (binds := [(Str.ofString "begins", .ref lb), (Str.ofString "ends", .ref le)]) G hA.room (by kernel_rfl!) (by kernel_rfl!) (by kernel_rfl!) (fun pos' rs => ?_) (by kernel_rfl!) (by kernel_rfl!) (by kernel_rfl!) (fun L' cs σ₁ hcs hap hoff hsub hcell => ?_) (by kernel_rfl!) (by kernel_rfl!) (by kernel_rfl!)
  · obtain ⟨_, _, rfl, r0, rs⟩ := rs.c
    obtain ⟨_, _, rfl, r1, rs⟩ := rs.c
    obtain rfl := rs.n
    exact ⟨[(Str.ofString "begins", _), (Str.ofString "ends", _)], by kernel_rfl!, .cons r0 (.cons r1 .nil)⟩
  replace hcs := hcs.trans (c := [Str.ofString "point", Str.ofString "sets", Str.ofString "ends", Str.ofString "begins"]) (by kernel_rfl!)
  obtain ⟨c1, cs1, rfl, hcs1⟩ := cells_cons hcs
  obtain ⟨c2, cs2, rfl, hcs2⟩ := cells_cons hcs1
  obtain ⟨c3, cs3, rfl, hcs3⟩ := cells_cons hcs2
  obtain ⟨c4, cs4, rfl, hcs4⟩ := cells_cons hcs3
  obtain rfl := cells_nil hcs4
  have hA' := hA.deeper (envC (fFull w) L' 216 [(Str.ofString "point", c1), (Str.ofString "sets", c2), (Str.ofString "ends", c3), (Str.ofString "begins", c4)])
  have e1 : σ₁ c1 = some (.cell none) := hcell (Str.ofString "point", c1) (.head _)
  have e2 : σ₁ c2 = some (.cell none) := hcell (Str.ofString "sets", c2) (.tail _ (.head _))
  have e3 : σ₁ c3 = some (.cell (some (.ref le))) := hcell (Str.ofString "ends", c3) (.tail _ (.tail _ (.head _)))
  have e4 : σ₁ c4 = some (.cell (some (.ref lb))) := hcell (Str.ofString "begins", c4) (.tail _ (.tail _ (.tail _ (.head _))))
  have ap1 := (List.pairwise_cons.mp hap).1
  have ap2 := (List.pairwise_cons.mp (List.pairwise_cons.mp hap).2).1
  have c21 : c2 ≠ c1 := Ne.symm (ap1 (Str.ofString "sets", c2) (.head _))
  have c31 : c3 ≠ c1 := Ne.symm (ap1 (Str.ofString "ends", c3) (.tail _ (.head _)))
  have c41 : c4 ≠ c1 := Ne.symm (ap1 (Str.ofString "begins", c4) (.tail _ (.tail _ (.head _))))
  have c32 : c3 ≠ c2 := Ne.symm (ap2 (Str.ofString "ends", c3) (.head _))
  have c42 : c4 ≠ c2 := Ne.symm (ap2 (Str.ofString "begins", c4) (.tail _ (.head _)))
  have o1 : σ c1 = none := hoff (Str.ofString "point", c1) (.head _)
  have o2 : σ c2 = none := hoff (Str.ofString "sets", c2) (.tail _ (.head _))
  show AXs PP w g _ (envC (fFull w) L' 216 [(Str.ofString "point", c1), (Str.ofString "sets", c2), (Str.ofString "ends", c3), (Str.ofString "begins", c4)]) (bodyOf (fFull w)) [] σ₁ _
  refine AXs_cons <| X_AssignCell (a := c2) rfl <| E_List <| Args_nil' ⟨by decide, fun r hr => ⟨⟨_, AH.set_get e2 hr⟩, ?_⟩⟩
  have s2 : ∀ a o, σ₁ a = some o → a ≠ c2 → ((σ₁.set r (.list [])).set c2 (.cell (some (.ref r)))) a = some o := fun a o e hne => by rw [AH.set_ne _ _ hne]; exact AH.set_get e hr
  have rc2 : r ≠ c2 := fun z => by rw [z, e2] at hr; cases hr
  have rc1 : r ≠ c1 := fun z => by rw [z, e1] at hr; cases hr
  have er : ((σ₁.set r (.list [])).set c2 (.cell (some (.ref r)))) r = some (.list []) := by rw [AH.set_ne _ _ rc2, AH.set_self]
  have ec2 : ((σ₁.set r (.list [])).set c2 (.cell (some (.ref r)))) c2 = some (.cell (some (.ref r))) := AH.set_self ..
  have rσ : σ r = none := by
    cases z : σ r with
    | none => rfl
    | some o => rw [hsub _ _ z] at hr; cases hr
  generalize ((σ₁.set r (.list [])).set c2 (.cell (some (.ref r)))) = σ₂ at s2 er ec2 ⊢
  have ec1 := s2 _ _ e1 (Ne.symm c21)
  have ec3 := s2 _ _ e3 c32
  have ec4 := s2 _ _ e4 c42
  have hb2 := s2 _ _ (hsub _ _ hb) (AH.ne_of hb o2)
  have he2 := s2 _ _ (hsub _ _ he) (AH.ne_of he o2)
  have sub₂ : Sub σ σ₂ := fun a o e => s2 _ _ (hsub _ _ e) (AH.ne_of e o2)
  refine AXs_cons <| X_For <| E_Call <| E_Builtin G (by kernel_rfl!) boot_sorted (.blt _) <| Args_cons <| E_Cell (a := c4) rfl ec4 <| Args_nil' <| Kws_nil <| call_sortedI hb2 (by omega) fun lp pts hlp hperm hsort => ?_
  have s3 := Sub.set (p := .list (ivs pts)) hlp
  have hp3 : (σ₂.set lp (.list (ivs pts))) lp = _ := AH.set_self ..
  have lr : lp ≠ r := fun z => by rw [z, er] at hlp; cases hlp
  have lc1 : lp ≠ c1 := fun z => by rw [z, ec1] at hlp; cases hlp
  generalize (σ₂.set lp (.list (ivs pts))) = σ₃ at s3 hp3 ⊢
  have plen : pts.length = n := by rw [hperm.length_eq]; exact n1
  refine ⟨ivs pts, _, fun i m' σ' => m' = [] ∧ (∃ ov, σ' c1 = some (.cell ov)) ∧ (∃ as, σ' r = some (.list (as.map V.ref)) ∧ LLi σ' as (setsL n begins ends (pts.take i)) ∧ ∀ a ∈ as, a ≠ r ∧ a ≠ c1) ∧ ∀ a o, a ≠ r → a ≠ c1 → σ₃ a = some o → σ' a = some o,
    iter_list hA'.handled, ⟨rfl, ⟨_, s3 _ _ ec1⟩, ⟨[], s3 _ _ er, .nil, by simp⟩, fun a o _ _ e => e⟩, ?_, ?_, ?_⟩
  · rintro i m' σ' ⟨_, _, _, q⟩; exact q _ _ lr lc1 hp3
  · rintro i v m' σ' hv ⟨rfl, ⟨ov, hov⟩, ⟨as, har, hll, has⟩, q⟩
    obtain ⟨x, hx, rfl⟩ := ivs_at hv
    refine asg_cell (c := c1) rfl hov ?_
    have q1 : ∀ a o, σ₂ a = some o → a ≠ r → a ≠ c1 → (σ'.set c1 (.cell (some (.int x)))) a = some o := fun a o e h1 h2 => by rw [AH.set_ne _ _ h2]; exact q _ _ h1 h2 (s3 _ _ e)
    have f1 : (σ'.set c1 (.cell (some (.int x)))) c1 = some (.cell (some (.int x))) := AH.set_self ..
    have fr : (σ'.set c1 (.cell (some (.int x)))) r = _ := (AH.set_ne _ _ rc1).trans har
    have fl := hll.mono (σ' := σ'.set c1 (.cell (some (.int x)))) fun a xs ha e => by rw [AH.set_ne _ _ (has a ha).2]; exact e
    have f2 := q1 _ _ ec2 (Ne.symm rc2) c21
    have f3 := q1 _ _ ec3 (fun z => by rw [z, er] at ec3; cases ec3) c31
    have f4 := q1 _ _ ec4 (fun z => by rw [z, er] at ec4; cases ec4) c41
    have gb := q1 _ _ hb2 (AH.ne_of hb rσ) (AH.ne_of hb o1)
    have ge := q1 _ _ he2 (AH.ne_of he rσ) (AH.ne_of he o1)
    have qc : ∀ a o, a ≠ r → a ≠ c1 → σ₃ a = some o → (σ'.set c1 (.cell (some (.int x)))) a = some o := fun a o h1 h2 e => by rw [AH.set_ne _ _ h2]; exact q _ _ h1 h2 e
    clear q q1
    generalize (σ'.set c1 (.cell (some (.int x)))) = σc at f1 fr fl f2 f3 f4 gb ge qc ⊢
    refine AXs_cons <| X_AssignComp (cl := [(Str.ofString "point", c1), (Str.ofString "ends", c3), (Str.ofString "begins", c4)]) (by kernel_rfl!) (comp_pure (fun v => decide (keyOf begins v.toI ≤ x) && decide (x < keyOf ends v.toI)) (fun v => v) <| E_Call <| E_Builtin G (by kernel_rfl!) boot_range (.typ _) <| Args_cons <| E_Call <| E_Builtin G (by kernel_rfl!) boot_len (.blt _) <| Args_cons <| E_Cell (a := c4) rfl f4 <| Args_nil' <| Kws_nil <| call_len_list gb (Args_nil' <| Kws_nil <| call_range1 fun ρ hρ => ?_) (by rw [ivs_length]; omega))
    rw [ivs_length, n1]
    have s4 := Sub.set (p := .rng 0 n 1) hρ
    have hρ' : (σc.set ρ (.rng 0 n 1)) ρ = _ := AH.set_self ..
    generalize (σc.set ρ (.rng 0 n 1)) = σd at s4 hρ' ⊢
    refine ⟨rngL 0 1 n, _, iter_rng hA'.handled (rng1 n (by omega)).1 (rng1 n (by omega)).2, by rw [rngL_length]; omega, hρ', fun C j v hv => ?_, fun a1 ha1 => ?_⟩
    · obtain ⟨hj, rfl⟩ := rngL_at hv
      refine tests_one <| T_Compare2 <| E_Sub <| E_Cell (a := c4) (by kernel_rfl!) (s4 _ _ f4) <| E_Local rfl <| sub_key (s4 _ _ gb) (by omega) (by omega) <| E_Cell (a := c1) (by kernel_rfl!) (s4 _ _ f1) <| le_I <| tr_B ⟨fun hb => ⟨?_, Sub.refl _, fun e => absurd e Bool.false_ne_true⟩, fun hb => ?_⟩
      · show false = (decide (keyOf begins (j : Int) ≤ x) && decide (x < keyOf ends (j : Int)))
        rw [hb, Bool.false_and]
      · refine E_Sub <| E_Cell (a := c3) (by kernel_rfl!) (s4 _ _ f3) <| E_Local rfl <| sub_key (s4 _ _ ge) (by omega) (by omega) <| lt_I <| tr_B ⟨?_, Sub.refl _, fun _ => E_Local rfl ⟨rfl, Sub.refl _⟩⟩
        show decide (x < keyOf ends (j : Int)) = (decide (keyOf begins (j : Int) ≤ x) && decide (x < keyOf ends (j : Int)))
        rw [hb, Bool.true_and]
    rw [map_idV, rngL_nats, filter_ivs _ _ (fun j => decide (keyOf begins j ≤ x) && decide (x < keyOf ends j)) (fun x => rfl)]
    have s5 := Sub.set (p := .list (ivs (heldL n begins ends x))) ha1
    have A1 : (σd.set a1 (.list (ivs (heldL n begins ends x)))) a1 = _ := AH.set_self ..
    have s45 := s4.trans s5
    have a1r : a1 ≠ r := fun z => by rw [z, s4 _ _ fr] at ha1; cases ha1
    have a1c : a1 ≠ c1 := fun z => by rw [z, s4 _ _ f1] at ha1; cases ha1
    show AXs PP w g _ _ _ _ (σd.set a1 (.list (ivs (heldL n begins ends x)))) _
    generalize (σd.set a1 (.list (ivs (heldL n begins ends x)))) = σe at s5 A1 s45 ⊢
    have fl' := fl.sub s45
    refine AXs_cons <| X_If <| T_Compare1 <| E_Local rfl <| E_Cell (a := c2) rfl (s45 _ _ f2) <| notIn_LL (by have := hA'.units; omega) A1 (s45 _ _ fr) fl'.ll <| tr_B ⟨fun hbb => ?_, fun hbb => ?_⟩
    · have hni : heldL n begins ends x ∉ setsL n begins ends (pts.take i) := by simpa using hbb
      have alen : as.length ≤ 60 := by rw [fl.length]; unfold setsL; have := foldl_setStep_length n begins ends (pts.take i) []; rw [List.length_take] at this; simp at this; omega
      refine AXs_cons <| X_Expr <| E_CallAttr (few := true) (by kernel_rfl!) <| E_Cell (a := c2) rfl (s45 _ _ f2) <| callee_list (s45 _ _ fr) F.slot_list_append F.type_list_append <| Args_cons <| E_Local rfl <| Args_nil' <| Kws_nil <| call_list_append (s45 _ _ fr) (by rw [List.length_map]; omega) <| AXs_nil <| AXs_nil ?_
      refine Fgt.now' (m' := []) (LSub.nil _) ⟨rfl, ⟨_, (AH.set_ne _ _ (Ne.symm rc1)).trans (s45 _ _ f1)⟩, ⟨as ++ [a1], ?_, ?_, ?_⟩, fun a o h1 h2 e => (AH.set_ne _ _ h1).trans (s45 _ _ (qc _ _ h1 h2 e))⟩
      · rw [AH.set_self, List.map_append]; rfl
      · rw [setsL_succ hx]
        unfold setStep
        rw [if_neg hni]
        refine LLi.snoc (fl'.mono fun a xs ha e => (AH.set_ne _ _ (has a ha).1).trans e) ((AH.set_ne _ _ a1r).trans A1)
      · intro a ha
        rcases List.mem_append.mp ha with ha | ha
        · exact has a ha
        · rw [List.mem_singleton.mp ha]; exact ⟨a1r, a1c⟩
    · have hni : heldL n begins ends x ∈ setsL n begins ends (pts.take i) := by simpa using hbb
      refine AXs_nil <| AXs_nil <| Fgt.now' (m' := []) (LSub.nil _) ⟨rfl, ⟨_, s45 _ _ f1⟩, ⟨as, s45 _ _ fr, ?_, has⟩, fun a o h1 h2 e => s45 _ _ (qc _ _ h1 h2 e)⟩
      rw [setsL_succ hx]
      unfold setStep
      rw [if_pos hni]
      exact fl'
  · rintro m' σ' ⟨rfl, _, ⟨as, har, hll, has⟩, q⟩
    rw [ivs_length, List.take_length] at hll
    have f2 := q _ _ (Ne.symm rc2) c21 (s3 _ _ ec2)
    have subF : Sub σ σ' := fun a o e => q _ _ (AH.ne_of e rσ) (AH.ne_of e o1) (s3 _ _ (sub₂ _ _ e))
    have alen : as.length ≤ 60 := by rw [hll.length]; unfold setsL; have := foldl_setStep_length n begins ends pts []; simp at this; omega
    clear q
    refine AXs_nil <| AXs_cons <| X_Return <| E_ListCompC (cl := [(Str.ofString "sets", c2)]) (fun v => !(as.any fun o => ltB (v.il σ') ((V.ref o).il σ'))) (fun v => v) (by kernel_rfl!) <| E_Cell (a := c2) rfl f2 ⟨as.map V.ref, _, iter_list hA'.handled, by rw [List.length_map]; omega, har, fun C ch i v hv hch => ?_, fun Da hDa => ⟨_, Sub.refl _, ?_⟩⟩
    · obtain ⟨a, ha, rfl⟩ := refs_at hv
      obtain ⟨hs, hhs, hha⟩ := hll.get ha
      dsimp only
      rw [il_of hha]
      have t1 := Sub.set (p := .cell (some (.ref a))) hch
      have hc1' : (σ'.set ch (.cell (some (.ref a)))) ch = _ := AH.set_self ..
      generalize (σ'.set ch (.cell (some (.ref a)))) = σf at t1 hc1' ⊢
      refine tests_one <| T_Not <| T_Value <| E_Call <| E_Builtin G (by kernel_rfl!) boot_any (.blt _) <| Args_cons <| E_ListCompC (cl := [(Str.ofString "held", ch)]) (fun _ => true) (fun v => .bool (ltB hs (v.il σ'))) (by kernel_rfl!) <| E_Cell (a := c2) (by kernel_rfl!) (t1 _ _ f2) ⟨as.map V.ref, _, iter_list hA'.handled, by rw [List.length_map]; omega, t1 _ _ har, fun C' co j v hv hco => ?_, fun D1 hD1 => ?_⟩
      · obtain ⟨b, hb', rfl⟩ := refs_at hv
        obtain ⟨os, hos, hob⟩ := hll.get hb'
        dsimp only
        rw [il_of hob]
        have t2 := Sub.set (p := .cell (some (.ref b))) hco
        have hco' : (σf.set co (.cell (some (.ref b)))) co = _ := AH.set_self ..
        generalize (σf.set co (.cell (some (.ref b)))) = σg at t2 hco' ⊢
        refine tests_none ⟨rfl, Sub.refl _, fun _ => ?_⟩
        refine E_And2 <| E_Compare1 <| E_Cell (a := ch) (by kernel_rfl!) (t2 _ _ hc1') <| E_Cell (a := co) (by kernel_rfl!) hco' <| ne_LL hA'.unitsOk (t2 _ _ (t1 _ _ hha)) (t2 _ _ (t1 _ _ hob)) <| tr_B ⟨fun hq => ⟨?_, Sub.refl _⟩, fun hq => ?_⟩
        · unfold ltB; rw [hq, Bool.false_and]
        · refine E_Call <| E_Builtin G (by kernel_rfl!) boot_all (.blt _) <| Args_cons <| E_ListComp (cl := [(Str.ofString "other", co)]) (by kernel_rfl!) (comp_pure (fun _ => true) (fun v => .bool (decide (v.toI ∈ os))) <| E_Cell (a := ch) (by kernel_rfl!) (t2 _ _ hc1') ⟨ivs hs, _, iter_list hA'.handled, ?_, t2 _ _ (t1 _ _ hha), fun C'' k v hv => ?_, fun D2 hD2 => ?_⟩)
          · rw [ivs_length]
            have hmem : hs ∈ setsL n begins ends pts := List.mem_of_getElem? hhs
            have : ∀ (l : List Int) (S : List (List Int)), (∀ y ∈ S, y.length ≤ n) → ∀ y ∈ l.foldl (setStep n begins ends) S, y.length ≤ n := by
              intro l
              induction l with
              | nil => intro S hS y hy; exact hS y hy
              | cons z l ih =>
                intro S hS y hy
                refine ih _ (fun y hy => ?_) y hy
                unfold setStep at hy
                split at hy
                · exact hS y hy
                · rcases List.mem_append.mp hy with hy | hy
                  · exact hS y hy
                  · rw [List.mem_singleton.mp hy]; exact heldL_length ..
            have := this pts [] (by simp) hs hmem
            omega
          · obtain ⟨x, hx, rfl⟩ := ivs_at hv
            refine tests_none ⟨rfl, Sub.refl _, fun _ => ?_⟩
            refine E_Compare1 <| E_Local rfl <| E_Cell (a := co) (by kernel_rfl!) hco' <| in_I (t2 _ _ (t1 _ _ hob)) ⟨rfl, Sub.refl _⟩
          · rw [filter_true]
            refine Args_nil' <| Kws_nil <| call_all (bs := hs.map fun x => decide (x ∈ os)) hA'.handled ?_ ⟨?_, Sub.set hD2⟩
            · rw [AH.set_self]
              unfold ivs bvs
              rw [List.map_map, List.map_map]
              rfl
            · unfold ltB; rw [hq, Bool.true_and, List.all_map]; rfl
      · rw [filter_true]
        refine Args_nil' <| Kws_nil <| call_any (bs := as.map fun o => ltB hs ((V.ref o).il σ')) hA'.handled ?_ <| tr_B ⟨?_, Sub.set hD1, fun _ => E_Cell (a := ch) (by kernel_rfl!) (AH.set_get hc1' hD1) ⟨rfl, Sub.set hD1⟩⟩
        · rw [AH.set_self]
          unfold bvs
          rw [List.map_map, List.map_map]
          rfl
        · rw [List.any_map]; rfl
    · rw [map_idV]
      have e : (as.map V.ref).filter (fun v => !(as.any fun o => ltB (v.il σ') ((V.ref o).il σ'))) = (as.filter fun a => (fun h => !((setsL n begins ends pts).any fun o => ltB h o)) ((V.ref a).il σ')).map V.ref := by
        rw [List.filter_map]
        congr 1
        refine List.filter_congr fun a _ => ?_
        show (!(as.any fun o => ltB ((V.ref a).il σ') ((V.ref o).il σ'))) = _
        rw [hll.any fun o => ltB ((V.ref a).il σ') o]
      rw [e]
      exact h Da _ pts _ (subF.trans (Sub.set hDa)) hperm hsort (AH.set_self ..) ((hll.filter fun h => !((setsL n begins ends pts).any fun o => ltB h o)).sub (Sub.set hDa))
end
end Mine

namespace Mine
open PySem PySem.W PyProof.Rows

inductive TTi (σ : AH) : List Addr → List (Int × Int) → Prop where
  | nil : TTi σ [] []
  | cons {a as p ps} : σ a = some (.tuple [.int p.1, .int p.2]) → TTi σ as ps → TTi σ (a :: as) (p :: ps)
theorem TTi.sub {σ σ' : AH} {as ps} (h : TTi σ as ps) (k : Sub σ σ') : TTi σ' as ps := by
  induction h with
  | nil => exact .nil
  | cons e _ ih => exact .cons (k _ _ e) ih
theorem TTi.snoc {σ : AH} {as ps a p} (h : TTi σ as ps) (e : σ a = some (.tuple [.int p.1, .int p.2])) : TTi σ (as ++ [a]) (ps ++ [p]) := by
  induction h with
  | nil => exact .cons e .nil
  | cons e' _ ih => exact .cons e' ih
theorem TTi.length {σ : AH} {as ps} (h : TTi σ as ps) : as.length = ps.length := by
  induction h with
  | nil => rfl
  | cons _ _ ih => simp [ih]
theorem TTi.get {σ : AH} {as ps} (h : TTi σ as ps) : ∀ {i : Nat} {a : Addr}, as[i]? = some a → ∃ p, ps[i]? = some p ∧ σ a = some (.tuple [.int p.1, .int p.2]) := by
  induction h with
  | nil => intro i a e; simp at e
  | cons e' _ ih =>
    intro i a e
    cases i with
    | zero => simp at e; subst e; exact ⟨_, rfl, e'⟩
    | succ i => simp at e; simpa using ih e
noncomputable def V.tp (σ : AH) : V → Int × Int
  | .ref a => match σ a with
    | some (.tuple [x, y]) => (x.toI, y.toI)
    | _ => (0, 0)
  | _ => (0, 0)
theorem tp_of {σ : AH} {a : Addr} {p : Int × Int} (h : σ a = some (.tuple [.int p.1, .int p.2])) : (V.ref a).tp σ = p := by
  show (match σ a with
    | some (.tuple [x, y]) => (x.toI, y.toI)
    | _ => (0, 0)) = p
  rw [h]
  rfl
theorem TTi.map {σ : AH} {as ps} (h : TTi σ as ps) (f : Int × Int → Int) : (as.map V.ref).map (fun v => V.int (f (v.tp σ))) = ivs (ps.map f) := by
  induction h with
  | nil => rfl
  | cons e _ ih =>
    unfold ivs at ih ⊢
    simp only [List.map_cons]
    rw [tp_of e, ih]

noncomputable def numbersL (ns : List Int) : List Int := ns.take 16 ++ [4, 9, 9, 12, 0, 3, 2, 6, 10, 10, 7, 4]
noncomputable def stretchL (nums : List Int) : List (Int × Int) := (List.range (nums.length / 2)).map fun (i : Nat) => (min (keyOf nums (0 + (i : Int) * 2)) (keyOf nums (0 + (i : Int) * 2 + 1)), max (keyOf nums (0 + (i : Int) * 2)) (keyOf nums (0 + (i : Int) * 2 + 1)) + 1)

theorem rng2 (N : Nat) (h1 : 1 ≤ N) (hn : N ≤ 1000) : Builtin.Range.small 0 ((N : Int) - 1) 2 = true ∧ Builtin.Range.rangeSize 0 ((N : Int) - 1) 2 = (N / 2 : Nat) := by
  have e : Builtin.Range.rangeSize 0 ((N : Int) - 1) 2 = (N / 2 : Nat) := by
    unfold Builtin.Range.rangeSize
    simp
    omega
  refine ⟨?_, e⟩
  unfold Builtin.Range.small
  rw [e]
  unfold Builtin.Range.rangeFitsLong
  simp
  omega
theorem rngL_at2 {n i : Nat} {v : V} (h : (rngL 0 2 n)[i]? = some v) : i < n ∧ v = .int (0 + (i : Int) * 2) := by
  unfold rngL at h
  rw [List.getElem?_map] at h
  have hi : i < n := by
    cases q : (List.range n)[i]? with
    | none => rw [q] at h; cases h
    | some x => simpa using (List.getElem?_eq_some_iff.mp q).1
  refine ⟨hi, ?_⟩
  rw [List.getElem?_range hi] at h
  simp at h
  rw [← h]
  simp

section
variable {w : World} {g : Heap} {A : Around} {m : Loc} {σ : AH} {env : Env}

theorem sub_keyI {value slice : Expr} {l : Addr} {vals : List Int} {k : Int} {Φ : V → Loc → AH → Prop} (hl : σ l = some (.list (ivs vals))) (h0 : 0 ≤ k) (hk : k < vals.length) (hz : vals.length ≤ 1000) (h : Φ (.int (keyOf vals k)) m σ)
    (hs : ∀ a b, subscripted slice false a b = operate [a, b] (getItem a b) := by intro _ _; kernel_rfl!) : A2 PP w g A env (subscriptTail value slice) (.ref l) (.int k) m σ Φ :=
  sub_list hl h0 (by omega) (ivs_get (by omega)) h hs

noncomputable abbrev fStr (w : World) : FuncData := fnAt (KK w) 182

theorem stretches_call (G : Gd (KK w) g) (hA : AOk A 6) {L ls : Addr} {ns : List Int} {Φ : V → Loc → AH → Prop} (hl : HasL g σ ls (ivs ns)) (hz : ns.length ≤ 63)
    (h : ∀ r as σ'', Sub σ σ'' → σ'' r = some (.list (as.map V.ref)) → TTi σ'' as (stretchL (numbersL ns)) → Φ (.ref r) m σ'') :
    ACall PP w g A L (.ref 182) [.ref ls] [] m σ Φ := by
  refine call_defC (fd := fStr w) (oc := .type "function") (od := none) (osl := #[]) (binds := [(Str.ofString "script", .ref ls)]) G hA.room (by kernel_rfl!) (by kernel_rfl!) (by kernel_rfl!) (fun pos' rs => ?_) (by kernel_rfl!) (by kernel_rfl!) (by kernel_rfl!) (fun L' cs σ₁ hcs hap hoff hsub hcell => ?_) (by kernel_rfl!) (by kernel_rfl!) (by kernel_rfl!)
  · obtain ⟨_, _, rfl, r0, rs⟩ := rs.c
    obtain rfl := rs.n
    exact ⟨[(Str.ofString "script", _)], by kernel_rfl!, .cons r0 .nil⟩
  replace hcs := hcs.trans (c := [Str.ofString "numbers"]) (by kernel_rfl!)
  obtain ⟨c, cs1, rfl, hcs1⟩ := cells_cons hcs
  obtain rfl := cells_nil hcs1
  have hA' := hA.deeper (envC (fStr w) L' 182 [(Str.ofString "numbers", c)])
  have hc : σ₁ c = some (.cell none) := hcell _ (List.mem_singleton.mpr rfl)
  have oc : σ c = none := hoff _ (List.mem_singleton.mpr rfl)
  have hl₁ : HasL g σ₁ ls (ivs ns) := hl.imp (fun e => hsub _ _ e) id
  show AXs PP w g _ (envC (fStr w) L' 182 [(Str.ofString "numbers", c)]) (bodyOf (fStr w)) [(Str.ofString "script", .ref ls)] σ₁ _
  refine AXs_cons <| X_AssignCell (a := c) rfl <| E_BinOp <| E_Slice <| E_Local rfl <| part_none <| part_some <| E_Int ⟨16, rfl, ls, ivs ns, rfl, hl₁, by rw [ivs_length]; omega, _, pick_upto 16, fun a1 ha1 => ?_⟩
  refine E_List <| Args_cons' <| E_Int <| Args_cons' <| E_Int <| Args_cons' <| E_Int <| Args_cons' <| E_Int <| Args_cons' <| E_Int <| Args_cons' <| E_Int <| Args_cons' <| E_Int <| Args_cons' <| E_Int <| Args_cons' <| E_Int <| Args_cons' <| E_Int <| Args_cons' <| E_Int <| Args_cons' <| E_Int <| Args_nil' ⟨by decide, fun a2 ha2 => ?_⟩
  refine add_LL (AH.set_get (AH.set_self ..) ha2) (AH.set_self ..) (by simp [ivs_length]; omega) fun a3 ha3 => ⟨⟨_, AH.set_get (AH.set_get (AH.set_get hc ha1) ha2) ha3⟩, ?_⟩
  have en : (ivs ns).take 16 ++ [V.int 4, V.int 9, V.int 9, V.int 12, V.int 0, V.int 3, V.int 2, V.int 6, V.int 10, V.int 10, V.int 7, V.int 4] = ivs (numbersL ns) := by
    unfold ivs numbersL
    rw [List.map_append, List.map_take]
    rfl
  have hs3 : Sub σ₁ (((σ₁.set a1 (.list ((ivs ns).take 16))).set a2 (.list [V.int 4, V.int 9, V.int 9, V.int 12, V.int 0, V.int 3, V.int 2, V.int 6, V.int 10, V.int 10, V.int 7, V.int 4])).set a3 (.list ((ivs ns).take 16 ++ [V.int 4, V.int 9, V.int 9, V.int 12, V.int 0, V.int 3, V.int 2, V.int 6, V.int 10, V.int 10, V.int 7, V.int 4]))) := (Sub.set ha1).trans ((Sub.set ha2).trans (Sub.set ha3))
  have ha3' : (((σ₁.set a1 (.list ((ivs ns).take 16))).set a2 (.list [V.int 4, V.int 9, V.int 9, V.int 12, V.int 0, V.int 3, V.int 2, V.int 6, V.int 10, V.int 10, V.int 7, V.int 4])).set a3 (.list ((ivs ns).take 16 ++ [V.int 4, V.int 9, V.int 9, V.int 12, V.int 0, V.int 3, V.int 2, V.int 6, V.int 10, V.int 10, V.int 7, V.int 4]))) a3 = some (.list (ivs (numbersL ns))) := by rw [AH.set_self, en]
  generalize (((σ₁.set a1 (.list ((ivs ns).take 16))).set a2 (.list [V.int 4, V.int 9, V.int 9, V.int 12, V.int 0, V.int 3, V.int 2, V.int 6, V.int 10, V.int 10, V.int 7, V.int 4])).set a3 (.list ((ivs ns).take 16 ++ [V.int 4, V.int 9, V.int 9, V.int 12, V.int 0, V.int 3, V.int 2, V.int 6, V.int 10, V.int 10, V.int 7, V.int 4]))) = σ₂ at hs3 ha3' ⊢
  have a3c : a3 ≠ c := fun z => by rw [z, hs3 _ _ hc] at ha3'; cases ha3'
  have f1 : (σ₂.set c (.cell (some (.ref a3)))) c = _ := AH.set_self ..
  have f2 : (σ₂.set c (.cell (some (.ref a3)))) a3 = _ := (AH.set_ne _ _ a3c).trans ha3'
  have sub₃ : Sub σ (σ₂.set c (.cell (some (.ref a3)))) := fun a o e => (AH.set_ne _ _ (AH.ne_of e oc)).trans (hs3 _ _ (hsub _ _ e))
  generalize (σ₂.set c (.cell (some (.ref a3)))) = σ₃ at f1 f2 sub₃ ⊢
  have nlen : (numbersL ns).length ≤ 28 := by unfold numbersL; rw [List.length_append, List.length_take]; simp; omega
  have nlen' : 12 ≤ (numbersL ns).length := by unfold numbersL; rw [List.length_append]; simp
  refine AXs_cons <| X_AssignLocal <| E_Call <| E_Builtin G (by kernel_rfl!) boot_range (.typ _) <| Args_cons <| E_Int <| Args_cons' <| E_BinOp <| E_Call <| E_Builtin G (by kernel_rfl!) boot_len (.blt _) <| Args_cons <| E_Cell (a := c) rfl f1 <| Args_nil' <| Kws_nil <| call_len_list f2 (E_Int <| sub_I <| Args_cons' <| E_Int <| Args_nil' <| Kws_nil <| call_range3 (by decide) (PyProof.noPylong_of_log2 ?_) fun ρ hρ => ?_) (by rw [ivs_length]; omega)
  · decide +kernel
  rw [ivs_length]
  generalize hN : (numbersL ns).length = N at nlen nlen' hρ ⊢
  have s4 := Sub.set (p := .rng 0 ((N : Int) - 1) 2) hρ
  have hρ' : (σ₃.set ρ (.rng 0 ((N : Int) - 1) 2)) ρ = _ := AH.set_self ..
  generalize (σ₃.set ρ (.rng 0 ((N : Int) - 1) 2)) = σ₄ at s4 hρ' ⊢
  have g1 := s4 _ _ f1
  have g2 := s4 _ _ f2
  refine AXs_cons <| X_Return <| E_ListComp (cl := [(Str.ofString "numbers", c)]) (by kernel_rfl!) <| E_Local rfl ⟨rngL 0 2 (N / 2), _, fun i ys σ' => ∃ as, ys = as.map V.ref ∧ as.length = i ∧ TTi σ' as ((stretchL (numbersL ns)).take i) ∧ Sub σ₄ σ', iter_rng hA'.handled (rng2 N (by omega) (by omega)).1 (rng2 N (by omega) (by omega)).2, by rw [rngL_length]; have := sizeLine_eq; omega, ⟨[], rfl, rfl, .nil, Sub.refl _⟩, ?_, ?_, ?_⟩
  · rintro i ys σ' ⟨as, rfl, hlen, _, k⟩; exact ⟨k _ _ hρ', by rw [List.length_map]; omega⟩
  · rintro C i v ys σ' hv ⟨as, rfl, hlen, ht, k⟩
    obtain ⟨hi, rfl⟩ := rngL_at2 hv
    refine tests_none ⟨fun _ => ?_, fun e => absurd e (by decide)⟩
    have b1 : (0 : Int) ≤ 0 + (i : Int) * 2 := by omega
    have b2 : 0 + (i : Int) * 2 + 1 < (numbersL ns).length := by rw [hN]; omega
    have b3 : 0 + (i : Int) * 2 < (numbersL ns).length := by omega
    refine E_Tuple <| Args_cons' <| E_Call <| E_Builtin G (by kernel_rfl!) boot_min (.blt _) <| Args_cons <| E_Sub <| E_Cell (a := c) (by kernel_rfl!) (k _ _ g1) <| E_Local rfl <| sub_keyI (k _ _ g2) b1 b3 (by omega) <| Args_cons' <| E_Sub <| E_Cell (a := c) (by kernel_rfl!) (k _ _ g1) <| E_BinOp <| E_Local rfl <| E_Int <| add_I <| sub_keyI (k _ _ g2) (by omega) b2 (by omega) <| Args_nil' <| Kws_nil <| call_min2 hA'.handled <|
      Args_cons' <| E_BinOp <| E_Call <| E_Builtin G (by kernel_rfl!) boot_max (.blt _) <| Args_cons <| E_Sub <| E_Cell (a := c) (by kernel_rfl!) (k _ _ g1) <| E_Local rfl <| sub_keyI (k _ _ g2) b1 b3 (by omega) <| Args_cons' <| E_Sub <| E_Cell (a := c) (by kernel_rfl!) (k _ _ g1) <| E_BinOp <| E_Local rfl <| E_Int <| add_I <| sub_keyI (k _ _ g2) (by omega) b2 (by omega) <| Args_nil' <| Kws_nil <| call_max2 hA'.handled <| E_Int <| add_I <| Args_nil' ⟨by simp, fun t ht' => ⟨_, Sub.refl _, as ++ [t], by rw [List.map_append]; rfl, by simp [hlen], ?_, k.trans (Sub.set ht')⟩⟩
    have e : (stretchL (numbersL ns)).take (i + 1) = (stretchL (numbersL ns)).take i ++ [(min (keyOf (numbersL ns) (0 + (i : Int) * 2)) (keyOf (numbersL ns) (0 + (i : Int) * 2 + 1)), max (keyOf (numbersL ns) (0 + (i : Int) * 2)) (keyOf (numbersL ns) (0 + (i : Int) * 2 + 1)) + 1)] := by
      rw [List.take_add_one]
      congr 1
      unfold stretchL
      rw [List.getElem?_map, List.getElem?_range (by rw [hN]; exact hi)]
      rfl
    rw [e]
    exact (ht.sub (Sub.set ht')).snoc (AH.set_self ..)
  · rintro ys σ' Da ⟨as, rfl, hlen, ht, k⟩ hDa
    rw [rngL_length] at hlen ht
    have e : (stretchL (numbersL ns)).take (N / 2) = stretchL (numbersL ns) := List.take_of_length_le (by unfold stretchL; rw [List.length_map, List.length_range, hN]; exact Nat.le_refl _)
    rw [e] at ht
    exact ⟨_, Sub.refl _, h Da as _ ((sub₃.trans s4).trans (k.trans (Sub.set hDa))) (AH.set_self ..) (ht.sub (Sub.set hDa))⟩
end
end Mine

namespace Mine
open PySem PySem.W PyProof.Rows

/-! the sort's questions, answered by a rank -/
noncomputable def Cmp (N : Nat) (rk : Nat → Int) (s : Shared) (cmp : Nat → Nat → (Bool → Shared → Prop) → Shared → Prop) : Prop := ∀ i j C, i < N → j < N → C (decide (rk i < rk j)) s → cmp i j C s
noncomputable def kK (rk : Nat → Int) (p : Array Nat) (i : Nat) : Int := rk (p.getD i 0)
noncomputable def Pm (N : Nat) (p : Array Nat) : Prop := p.toList.Perm (List.range N)
theorem Pm.size {N : Nat} {p : Array Nat} (h : Pm N p) : p.size = N := by have := h.length_eq; simpa using this
theorem getD_lt {p : Array Nat} {i : Nat} (h : i < p.size) : p.getD i 0 = p[i] := by simp [Array.getD, h]
theorem Pm.lt {N : Nat} {p : Array Nat} (h : Pm N p) {i : Nat} (hi : i < N) : p.getD i 0 < N := by
  have hs : i < p.size := by rw [h.size]; exact hi
  rw [getD_lt hs]
  have : p[i] ∈ p.toList := by simp
  exact List.mem_range.mp (h.mem_iff.mp this)
theorem Pm.inj {N : Nat} {p : Array Nat} (h : Pm N p) {i j : Nat} (hi : i < N) (hj : j < N) (e : p.getD i 0 = p.getD j 0) : i = j := by
  have hs : i < p.size := by rw [h.size]; exact hi
  have hs' : j < p.size := by rw [h.size]; exact hj
  have nd : p.toList.Nodup := h.symm.nodup List.nodup_range
  rw [getD_lt hs, getD_lt hs'] at e
  exact (List.getElem_inj (xs := p.toList) (i := i) (j := j) (h₀ := by simpa using hs) (h₁ := by simpa using hs') nd).mp (by simpa using e)
theorem Pm.arr {N : Nat} {p q : Array Nat} (h : Pm N p) (e : q.Perm p) : Pm N q := (Array.perm_iff_toList_perm.mp e).trans h
theorem getD_at (p : Array Nat) (i : Nat) : p.getD i 0 = (p[i]?).getD 0 := by simp [Array.getD]; split <;> simp_all

noncomputable def Inc (rk : Nat → Int) (p : Array Nat) (n : Nat) : Prop := ∀ i j, i < j → j < n → kK rk p i < kK rk p j
noncomputable def Dec (rk : Nat → Int) (p : Array Nat) (n : Nat) : Prop := ∀ i j, i < j → j < n → kK rk p j < kK rk p i

section
variable {N : Nat} {rk : Nat → Int} {s : Shared} {cmp : Nat → Nat → (Bool → Shared → Prop) → Shared → Prop}

theorem kK_ne (inj : ∀ a b, a < N → b < N → rk a = rk b → a = b) {p : Array Nat} (hp : Pm N p) {i j : Nat} (hi : i < N) (hj : j < N) (h : i ≠ j) : kK rk p i ≠ kK rk p j := fun e =>
  h (hp.inj hi hj (inj _ _ (hp.lt hi) (hp.lt hj) e))

theorem asc_wp (hc : Cmp N rk s cmp) (inj : ∀ a b, a < N → b < N → rk a = rk b → a = b) {p : Array Nat} (hp : Pm N p) {Q : Nat → Shared → Prop} : ∀ f n, 1 ≤ n → n + f ≤ N → Inc rk p n →
    (∀ k, n ≤ k → k ≤ n + f → Inc rk p k → (k < n + f → kK rk p k < kK rk p (k - 1)) → Q k s) → (kas_asc p f n).kasWp cmp Q s
  | 0, n, h1, hn, hi, h => h n (Nat.le_refl _) (Nat.le_refl _) hi (fun e => absurd e (by omega))
  | f + 1, n, h1, hn, hi, h => by
    refine hc _ _ _ (hp.lt (by omega)) (hp.lt (by omega)) ?_
    by_cases q : rk (p.getD n 0) < rk (p.getD (n - 1) 0)
    · rw [decide_eq_true q]
      exact h n (Nat.le_refl _) (by omega) hi (fun _ => q)
    · rw [decide_eq_false q]
      have ne := kK_ne inj hp (i := n) (j := n - 1) (by omega) (by omega) (by omega)
      have lt : kK rk p (n - 1) < kK rk p n := by unfold kK at ne ⊢; omega
      refine asc_wp hc inj hp f (n + 1) (by omega) (by omega) (fun i j hij hj => ?_) fun k h2 h3 h4 h5 => h k (by omega) (by omega) h4 (fun e => h5 (by omega))
      by_cases z : j = n
      · subst z
        by_cases z' : i = j - 1
        · rw [z']; exact lt
        · have := hi i (j - 1) (by omega) (by omega); omega
      · exact hi i j hij (by omega)

theorem desc_wp (hc : Cmp N rk s cmp) (inj : ∀ a b, a < N → b < N → rk a = rk b → a = b) {p : Array Nat} (hp : Pm N p) {Q : Array Nat × Nat × Nat → Shared → Prop} : ∀ f n, 1 ≤ n → n + f ≤ N → Dec rk p n →
    (∀ k, n ≤ k → k ≤ n + f → Dec rk p k → Q (p, k, 0) s) → (kas_desc f p n 0).kasWp cmp Q s
  | 0, n, h1, hn, hi, h => h n (Nat.le_refl _) (Nat.le_refl _) hi
  | f + 1, n, h1, hn, hi, h => by
    refine hc _ _ _ (hp.lt (by omega)) (hp.lt (by omega)) ?_
    by_cases q : rk (p.getD n 0) < rk (p.getD (n - 1) 0)
    · rw [decide_eq_true q]
      refine desc_wp hc inj hp f (n + 1) (by omega) (by omega) (fun i j hij hj => ?_) fun k h2 h3 h4 => h k (by omega) (by omega) h4
      by_cases z : j = n
      · subst z
        by_cases z' : i = j - 1
        · rw [z']; exact q
        · have := hi i (j - 1) (by omega) (by omega); have q' : kK rk p j < kK rk p (j - 1) := q; omega
      · exact hi i j hij (by omega)
    · rw [decide_eq_false q]
      refine hc _ _ _ (hp.lt (by omega)) (hp.lt (by omega)) ?_
      have ne := kK_ne inj hp (i := n) (j := n - 1) (by omega) (by omega) (by omega)
      have lt : rk (p.getD (n - 1) 0) < rk (p.getD n 0) := by unfold kK at ne; omega
      rw [decide_eq_true lt]
      exact h n (Nat.le_refl _) (by omega) hi

theorem rev_kK {p : Array Nat} {n : Nat} (hn : n ≤ p.size) {i : Nat} (hi : i < n) : kK rk (kas_rev p 0 n) i = kK rk p (n - 1 - i) := by
  unfold kK kas_rev
  rw [getD_at, getD_at, getElem?_mirror_all hn, if_pos ⟨Nat.zero_le _, hi⟩]
  congr 4
  omega

theorem tail3_wp (hc : Cmp N rk s cmp) (inj : ∀ a b, a < N → b < N → rk a = rk b → a = b) {p : Array Nat} (hp : Pm N p) {n : Nat} {Q : Nat × Array Nat → Shared → Prop} (h1 : 1 ≤ n) (hn : n ≤ N) (hd : Dec rk p n)
    (h : ∀ k q, 1 ≤ k → k ≤ N → Pm N q → Inc rk q k → Q (k, q) s) : (kas_tail3 n N p).kasWp cmp Q s := by
  unfold kas_tail3
  rw [KasT.kasWp_bind]
  have hq : Pm N (kas_rev p 0 n) := hp.arr (mirror_perm ..)
  refine asc_wp hc inj hq (N - n) n h1 (by omega) (fun i j hij hj => ?_) fun k h2 h3 h4 _ => h k _ (by omega) (by omega) hq h4
  rw [rev_kK (by rw [hp.size]; exact hn) (by omega), rev_kK (by rw [hp.size]; exact hn) hj]
  exact hd _ _ (by omega) (by omega)

theorem count_wp (hc : Cmp N rk s cmp) (inj : ∀ a b, a < N → b < N → rk a = rk b → a = b) {p : Array Nat} (hp : Pm N p) {Q : Nat × Array Nat → Shared → Prop} (h2 : 2 ≤ N)
    (h : ∀ k q, 1 ≤ k → k ≤ N → Pm N q → Inc rk q k → Q (k, q) s) : (kas_count N p).kasWp cmp Q s := by
  unfold kas_count
  rw [KasT.kasWp_bind]
  refine asc_wp hc inj hp (N - 1) 1 (Nat.le_refl _) (by omega) (fun i j hij hj => by omega) fun n h3 h4 h5 h6 => ?_
  by_cases z : n = N
  · rw [if_pos (by simpa using z)]
    exact h n p h3 (by omega) hp h5
  · rw [if_neg (by simpa using z)]
    by_cases z1 : n > 1
    · rw [if_pos z1]
      refine hc _ _ _ (hp.lt (by omega)) (hp.lt (by omega)) ?_
      have lt : rk (p.getD 0 0) < rk (p.getD (n - 1) 0) := h5 0 (n - 1) (by omega) (by omega)
      rw [decide_eq_true lt]
      exact h n p h3 (by omega) hp h5
    · rw [if_neg z1]
      have z2 : n = 1 := by omega
      subst z2
      unfold kas_descPart
      rw [KasT.kasWp_bind]
      have lt := h6 (by omega)
      refine desc_wp hc inj hp (N - (1 + 1)) (1 + 1) (by omega) (by omega) (fun i j hij hj => ?_) fun k a1 a2 a3 => ?_
      · have : i = 0 := by omega
        have : j = 1 := by omega
        subst_vars
        exact lt
      · show KasT.kasWp cmp (kas_tail3 k N p) Q s
        exact tail3_wp hc inj hp (by omega) (by omega) a3 h

theorem place_wp (hc : Cmp N rk s cmp) (inj : ∀ a b, a < N → b < N → rk a = rk b → a = b) {p : Array Nat} (hp : Pm N p) {k : Nat} (hk : k < N) (hi : Inc rk p k) {Q : Nat → Shared → Prop} : ∀ f l r, l ≤ r → r ≤ k → r - l ≤ f →
    (∀ i, i < l → kK rk p i < kK rk p k) → (∀ i, r ≤ i → i < k → kK rk p k < kK rk p i) → (∀ l, l ≤ k → (∀ i, i < l → kK rk p i < kK rk p k) → (∀ i, l ≤ i → i < k → kK rk p k < kK rk p i) → Q l s) → (kas_place p k f l r).kasWp cmp Q s
  | 0, l, r, h1, h2, h3, a, b, h => h l (by omega) a (fun i hi => b i (by omega))
  | f + 1, l, r, h1, h2, h3, a, b, h => by
    unfold kas_place
    by_cases z : l ≥ r
    · rw [if_pos z]; exact h l (by omega) a (fun i hi => b i (by omega))
    · rw [if_neg z]
      refine hc _ _ _ (hp.lt hk) (hp.lt (by omega)) ?_
      by_cases q : rk (p.getD k 0) < rk (p.getD ((l + r) / 2) 0)
      · rw [decide_eq_true q]
        refine place_wp hc inj hp hk hi f l ((l + r) / 2) (by omega) (by omega) (by omega) a (fun i h4 h5 => ?_) h
        by_cases e : i = (l + r) / 2
        · rw [e]; exact q
        · have := hi ((l + r) / 2) i (by omega) h5; have q' : kK rk p k < kK rk p ((l + r) / 2) := q; omega
      · rw [decide_eq_false q]
        have ne := kK_ne inj hp (i := k) (j := (l + r) / 2) hk (by omega) (by omega)
        have lt : kK rk p ((l + r) / 2) < kK rk p k := by unfold kK at ne ⊢; omega
        refine place_wp hc inj hp hk hi f ((l + r) / 2 + 1) r (by omega) h2 (by omega) (fun i h4 => ?_) b h
        by_cases e : i = (l + r) / 2
        · rw [e]; exact lt
        · have := hi i ((l + r) / 2) (by omega) (by omega); omega

theorem bub_kK {p : Array Nat} {k d : Nat} (hk : k < p.size) (hd : d ≤ k) (j : Nat) : kK rk (bubble p k d) j = if j = k - d then kK rk p k else if k - d < j ∧ j ≤ k then kK rk p (j - 1) else kK rk p j := by
  unfold kK
  rw [getD_at, getElem?_bubble hk d hd]
  by_cases h1 : j = k - d
  · rw [if_pos h1, if_pos h1, ← getD_at]
  · rw [if_neg h1, if_neg h1]
    by_cases h2 : k - d < j ∧ j ≤ k
    · rw [if_pos h2, if_pos h2, ← getD_at]
    · rw [if_neg h2, if_neg h2, ← getD_at]

theorem bin_wp (hc : Cmp N rk s cmp) (inj : ∀ a b, a < N → b < N → rk a = rk b → a = b) {Q : Array Nat → Shared → Prop} (h : ∀ q, Pm N q → Inc rk q N → Q q s) : ∀ f p k, k + f = N → 1 ≤ k → Pm N p → Inc rk p k → (kas_bin f p k).kasWp cmp Q s
  | 0, p, k, e, h1, hp, hi => h p hp (by have : k = N := by omega
                                         subst this; exact hi)
  | f + 1, p, k, e, h1, hp, hi => by
    show ((kas_place p k k 0 k).bind fun l => kas_bin f (bubble p k (k - l)) (k + 1)).kasWp cmp Q s
    rw [KasT.kasWp_bind]
    refine place_wp hc inj hp (by omega) hi k 0 k (by omega) (by omega) (by omega) (fun i h => by omega) (fun i h h' => by omega) fun l hl a b => ?_
    refine bin_wp hc inj h f _ (k + 1) (by omega) (by omega) (hp.arr (bubble_perm ..)) (fun i j hij hj => ?_)
    have hks : k < p.size := by rw [hp.size]; omega
    rw [bub_kK hks (by omega), bub_kK hks (by omega)]
    have e1 : k - (k - l) = l := by omega
    rw [e1]
    by_cases c1 : i = l
    · rw [if_pos c1, if_neg (by omega), if_pos (by omega)]
      exact b (j - 1) (by omega) (by omega)
    · rw [if_neg c1]
      by_cases c2 : l < i ∧ i ≤ k
      · rw [if_pos c2, if_neg (by omega), if_pos (by omega)]
        exact hi _ _ (by omega) (by omega)
      · rw [if_neg c2]
        by_cases c3 : j = l
        · rw [if_pos c3]; exact a i (by omega)
        · rw [if_neg c3]
          by_cases c4 : l < j ∧ j ≤ k
          · rw [if_pos c4]
            by_cases c5 : i = j - 1
            · omega
            · exact hi _ _ (by omega) (by omega)
          · rw [if_neg c4]; exact hi _ _ hij (by omega)

theorem sort_wp (hc : Cmp N rk s cmp) (inj : ∀ a b, a < N → b < N → rk a = rk b → a = b) {Q : Array Nat → Shared → Prop} (h2 : 2 ≤ N) (h : ∀ q, Pm N q → Inc rk q N → Q q s) : (kas_sort N).kasWp cmp Q s := by
  unfold kas_sort
  rw [KasT.kasWp_bind]
  refine count_wp hc inj (p := List.toArray (List.range N)) (List.Perm.refl _) h2 fun k q h3 h4 hq hi => ?_
  show KasT.kasWp cmp (if k < N then kas_bin (N - max k 1) q (max k 1) else .ret q) Q s
  by_cases z : k < N
  · rw [if_pos z, show max k 1 = k by omega]
    exact bin_wp hc inj h (N - k) q k (by omega) h3 hq hi
  · rw [if_neg z]
    have : k = N := by omega
    subst this
    exact h q hq hi
end
end Mine

namespace Mine
open PySem PySem.W PyProof.Rows

/-- all that stands, but L -/
noncomputable def allNews (h : Heap) (L : Addr) : List (Addr × Obj) := (List.range h.objs.size).filterMap fun a => if a = L then none else (h.get? a).map fun o => (a, o)
theorem mem_allNews {h : Heap} {L a : Addr} {o : Obj} : (a, o) ∈ allNews h L ↔ h.get? a = some o ∧ a ≠ L := by
  unfold allNews
  rw [List.mem_filterMap]
  constructor
  · rintro ⟨b, hb, e⟩
    by_cases z : b = L
    · rw [if_pos z] at e; cases e
    · rw [if_neg z] at e
      cases q : h.get? b with
      | none => rw [q] at e; cases e
      | some o' => rw [q] at e; cases e; exact ⟨q, z⟩
  · rintro ⟨e, z⟩
    exact ⟨a, List.mem_range.mpr (Heap.lt_size e), by rw [if_neg z, e]; rfl⟩
noncomputable def h00 : Heap := {}
theorem h00_none (a : Addr) : h00.get? a = none := by unfold h00 Heap.get?; simp

theorem refs_eq {as : List Addr} {l : List Value} (r : VRs (as.map V.ref) l) : l = as.map Value.ref := by
  induction as generalizing l with
  | nil => exact r.n
  | cons a as ih =>
    obtain ⟨y, ys, rfl, ry, rs⟩ := VRs.c r
    rw [ry.r, ih rs]
    rfl

/-- a heap that has kept all but L, where a namespace stands still -/
theorem Sim.ns' {g : Heap} {L : Addr} {m : Loc} {σ : AH} {h h' : Heap} (S : Sim g L m σ h) {M : Str → Option Value} (hM : h.Ns L M) (hm : ∀ x v, m.lookup x = some v → ∃ v', M x = some v' ∧ VR v v') (k : ∀ b o, h.get? b = some o → b ≠ L → h'.get? b = some o) (hn : h'.Ns L M) : Sim g L m σ h' :=
  ⟨fun b o e => k _ _ (S.base b o e) (fun z => by rw [z, S.gL] at e; cases e), S.gL, S.offL, S.off, ⟨M, hn, hm⟩, fun a o e => let ⟨ob, x, y⟩ := S.fit a o e; ⟨ob, k _ _ x (S.ne e), y⟩⟩
theorem Tr.ns' {L : Addr} {σ : AH} {h h' : Heap} (k : ∀ b o, h.get? b = some o → b ≠ L → h'.get? b = some o) : Tr L σ σ h h' := ⟨fun b o e _ hb => k b o e hb, fun _ e => .inl e⟩

noncomputable def rkP (ps : List (Int × Int)) (i : Nat) : Int := (ps.getD i (0, 0)).1 * (ps.length : Int) + i
theorem rkP_lt (ps : List (Int × Int)) {i j : Nat} (hi : i < ps.length) (hj : j < ps.length) : decide (rkP ps i < rkP ps j) = if (ps.getD i (0, 0)).1 = (ps.getD j (0, 0)).1 then decide (i < j) else decide ((ps.getD i (0, 0)).1 < (ps.getD j (0, 0)).1) := by
  unfold rkP
  generalize (ps.getD i (0, 0)).1 = x
  generalize (ps.getD j (0, 0)).1 = y
  generalize ps.length = N at hi hj
  have hN : (0 : Int) ≤ N := Int.natCast_nonneg _
  by_cases e : x = y
  · rw [if_pos e, e]
    refine decide_eq_decide.mpr ⟨fun h => ?_, fun h => ?_⟩ <;> omega
  · rw [if_neg e]
    refine decide_eq_decide.mpr ⟨fun h => ?_, fun h => ?_⟩
    · by_cases q : x < y
      · exact q
      · exfalso
        have : (y + 1) * (N : Int) ≤ x * N := Int.mul_le_mul_of_nonneg_right (by omega) hN
        rw [Int.add_mul, Int.one_mul] at this
        omega
    · have : (x + 1) * (N : Int) ≤ y * N := Int.mul_le_mul_of_nonneg_right (by omega) hN
      rw [Int.add_mul, Int.one_mul] at this
      omega
theorem rkP_inj (ps : List (Int × Int)) (a b : Nat) (ha : a < ps.length) (hb : b < ps.length) (e : rkP ps a = rkP ps b) : a = b := by
  have h1 := rkP_lt ps ha hb
  have h2 := rkP_lt ps hb ha
  rw [e] at h1 h2
  simp only [Int.lt_irrefl, decide_false] at h1 h2
  by_cases q : (ps.getD a (0, 0)).1 = (ps.getD b (0, 0)).1
  · rw [if_pos q] at h1
    rw [if_pos q.symm] at h2
    have h1 := of_decide_eq_false h1.symm
    have h2 := of_decide_eq_false h2.symm
    omega
  · rw [if_neg q] at h1
    rw [if_neg (fun z => q z.symm)] at h2
    have h1 := of_decide_eq_false h1.symm
    have h2 := of_decide_eq_false h2.symm
    omega

section
variable {prog : Program} {w : World} {g : Heap} {A : Around} {m : Loc} {σ : AH} {env : Env}

theorem TTi.tups {L : Addr} {h : Heap} {as : List Addr} {ps : List (Int × Int)} (t : TTi σ as ps) (S : Sim g L m σ h) : ∃ fs, KatTups h (as.map Value.ref) fs ∧ fs.length = ps.length ∧ ∀ v ∈ fs, ∃ i t, v = .int i t := by
  induction t with
  | nil => exact ⟨[], KatTups.nil, rfl, by simp⟩
  | @cons a as p ps e _ ih =>
    obtain ⟨fs, k1, k2, k3⟩ := ih
    obtain ⟨ob, ho, items, n, rfl, r⟩ := S.fit _ _ e
    obtain ⟨x, xs, ex, rx, rs⟩ := r.c
    obtain ⟨t, rfl⟩ := rx.i
    have e0 : items[0]? = some (.int p.1 t) := by
      have : items.toList[0]? = some (.int p.1 t) := by rw [ex]; rfl
      simpa using this
    refine ⟨.int p.1 t :: fs, KatTups.cons ho rfl rfl e0 k1, by simp [k2], fun v hv => ?_⟩
    rcases List.mem_cons.mp hv with rfl | hv
    · exact ⟨_, _, rfl⟩
    · exact k3 v hv

theorem lt_pairs {L : Addr} {s : Shared} (S : Sim g L m σ s.heap) {x y : Addr} {p q : Int × Int} (hx : σ x = some (.tuple [.int p.1, .int p.2])) (hy : σ y = some (.tuple [.int q.1, .int q.2])) {C : Bool → Shared → Prop} {E : Value → Shared → Prop}
    (h : C (if p.1 = q.1 then decide (p.2 < q.2) else decide (p.1 < q.1)) s) : wpAny (model prog w) A (keyLt' (tuples' true) (.ref x) (.ref y)) C E s := by
  obtain ⟨ox, hox, ix, nx, rfl, rx⟩ := S.fit _ _ hx
  obtain ⟨oy, hoy, iy, ny, rfl, ry⟩ := S.fit _ _ hy
  obtain ⟨_, _, ex, r1, rx⟩ := rx.c
  obtain ⟨_, _, rfl, r2, rx⟩ := rx.c
  obtain rfl := rx.n
  obtain ⟨_, _, ey, r3, ry⟩ := ry.c
  obtain ⟨_, _, rfl, r4, ry⟩ := ry.c
  obtain rfl := ry.n
  obtain ⟨t1, rfl⟩ := r1.i
  obtain ⟨t2, rfl⟩ := r2.i
  obtain ⟨t3, rfl⟩ := r3.i
  obtain ⟨t4, rfl⟩ := r4.i
  have sx : ix.size = 2 := by rw [← Array.length_toList, ex]; rfl
  have sy : iy.size = 2 := by rw [← Array.length_toList, ey]; rfl
  refine kat_lt hox rfl hoy rfl ?_
  rw [ex, ey, sx, sy]
  refine kat_cons (wpAny_eqBool_int ?_)
  by_cases e : p.1 = q.1
  · rw [if_pos e] at h
    rw [beq_iff_eq.mpr e]
    refine kat_yes (kat_cons (wpAny_eqBool_int ?_))
    by_cases e2 : p.2 = q.2
    · rw [beq_iff_eq.mpr e2]
      refine kat_yes (kat_nil ?_)
      rw [e2, decide_eq_false (Int.lt_irrefl _)] at h
      exact h
    · rw [beq_eq_false_iff_ne.mpr e2]
      exact kat_no (kat_one _ _ (PySem.P.lt_int h))
  · rw [if_neg e] at h
    rw [beq_eq_false_iff_ne.mpr e]
    exact kat_no (oneLt_int h)

theorem call_sortedT {L l : Addr} {as : List Addr} {ps : List (Int × Int)} {Φ : V → Loc → AH → Prop} (hl : σ l = some (.list (as.map V.ref))) (ht : TTi σ as ps) (h2 : 2 ≤ ps.length) (h64 : ps.length < 64) (hpl : ∀ (i : Nat) p, ps[i]? = some p → p.2 = (i : Int))
    (h : ∀ a (q : Array Nat), σ a = none → Pm ps.length q → Inc (rkP ps) q ps.length → Φ (.ref a) m (σ.set a (.list ((q.toList.map fun i => as.getD i 0).map V.ref)))) :
    ACall prog w g A L (.blt "sorted") [.ref l] [] m σ Φ := by
  intro f' pos' kw' r rs rk
  obtain rfl := r.f
  obtain ⟨_, _, rfl, r1, rs⟩ := rs.c
  obtain rfl := rs.n
  obtain rfl := rk.n
  obtain rfl := r1.r
  refine ⟨keeper_blt, fun s Q E S c => ?_⟩
  obtain ⟨items, hi, rx⟩ := S.list hl
  obtain ⟨M, hM, hm⟩ := S.ns
  have hvs := refs_eq rx
  have hi' : s.heap.IsList l (as.map Value.ref).toArray := by rw [← hvs]; simpa using hi
  have alen := ht.length
  have vlen : (as.map Value.ref).length = ps.length := by rw [List.length_map, alen]
  refine kat_sorted (h₀ := h00) (L := L) (m := M) (news := allNews s.heap L) ⟨hM, (fun b o e => by rw [h00_none] at e; cases e), Nat.zero_le _⟩ (fun p hp => let q := mem_allNews.mp hp; ⟨q.1, q.2, h00_none _⟩) hi' (by rw [vlen]; exact h2) (by rw [vlen]; exact h64) fun D e1 h' F' N' hD => ?_
  rw [vlen]
  have keep : ∀ b o, s.heap.get? b = some o → b ≠ L → h'.get? b = some o := fun b o e hb => (N' (b, o) (List.mem_cons_of_mem _ (mem_allNews.mpr ⟨e, hb⟩))).1
  have S' : Sim g L m σ h' := S.ns' hM hm keep F'.ns
  have DN : s.heap.get? D = none := by
    cases q : s.heap.get? D with
    | none => rfl
    | some o =>
      have hDL : D ≠ L := (N' _ (List.mem_cons_self ..)).2.1
      exact absurd (hD (D, o) (mem_allNews.mpr ⟨q, hDL⟩)) (Nat.lt_irrefl _)
  obtain ⟨fs, k1, k2, k3⟩ := ht.tups S'
  refine kat_kind (T := .type "int") k1 (by rw [k2]; omega) (fun v hv => ?_) (by decide) ?_
  · obtain ⟨i, t, rfl⟩ := k3 v hv
    exact Looks.of_pure rfl
  refine sort_wp (rk := rkP ps) (fun i j C hi hj hC => ?_) (rkP_inj ps) h2 fun q hq hinc => ?_
  · have ei : as[i]? = some (as.getD i 0) := by simp [show i < as.length by omega]
    have ej : as[j]? = some (as.getD j 0) := by simp [show j < as.length by omega]
    obtain ⟨p, hp, hpσ⟩ := ht.get ei
    obtain ⟨p', hp', hpσ'⟩ := ht.get ej
    unfold kas_ask
    have g1 : (as.map Value.ref).getD i Value.none = .ref (as.getD i 0) := by simp [show i < as.length by omega]
    have g2 : (as.map Value.ref).getD j Value.none = .ref (as.getD j 0) := by simp [show j < as.length by omega]
    rw [g1, g2]
    refine lt_pairs S' hpσ hpσ' ?_
    rw [rkP_lt ps hi hj] at hC
    have d1 : ps.getD i (0, 0) = p := by simp [hp]
    have d2 : ps.getD j (0, 0) = p' := by simp [hp']
    rw [d1, d2] at hC
    rw [hpl _ _ hp, hpl _ _ hp']
    have z : decide ((i : Int) < (j : Int)) = decide (i < j) := decide_eq_decide.mpr (by omega)
    rw [z]
    exact hC
  · refine KasFin.intro F' N' (UpdF.head fun p hp => Nat.ne_of_lt (hD p hp)) fun h'' c' F'' N'' => ?_
    have keep' : ∀ b o, s.heap.get? b = some o → b ≠ L → h''.get? b = some o := fun b o e hb => (N'' (b, o) (List.mem_cons_of_mem _ (mem_allNews.mpr ⟨e, hb⟩))).1
    have hDD := (N'' _ (List.mem_cons_self ..)).1
    have S'' : Sim g L m σ h'' := S.ns' hM hm keep' F''.ns
    refine c _ _ _ _ h'' _ (h D q (S.σN DN) hq hinc) (.ref _) (S''.know hDD ⟨_, _, rfl, ?_⟩ (S.gN DN) (S.neL DN)) ((Tr.ns' keep').know DN (S.neL DN))
    have e : (q.toList.map fun i => (as.map Value.ref).getD i Value.none) = (q.toList.map fun i => as.getD i 0).map Value.ref := by
      rw [List.map_map]
      refine List.map_congr_left fun i hi => ?_
      have : i < ps.length := List.mem_range.mp (hq.mem_iff.mp hi)
      simp [show i < as.length by omega]
    rw [e]
    generalize (q.toList.map fun i => as.getD i 0) = bs
    show VRs (bs.map V.ref) (bs.map Value.ref)
    induction bs with
    | nil => exact .nil
    | cons b bs ih => exact .cons (.ref _) ih
end
end Mine

namespace Mine
open PySem PySem.W PyProof.Rows

/-! ## dicts of names: an object's own -/
theorem SEs.get {m : Loc} {es : List DictEntry} (h : SEs m es) (x : Str) : ∃ o, getL x es = some o ∧ VRo (m.lookup x) o := by
  induction h with
  | nil => exact ⟨none, rfl, .none⟩
  | @cons k v y t hsh m es r _ ih =>
    unfold getL at ih ⊢
    by_cases e : x = k
    · subst e
      refine ⟨some y, ?_, ?_⟩
      · rw [List.find?_cons_of_pos (by simp [Value.isStr])]
      · rw [List.lookup_cons, beq_self_eq_true]; exact .some r
    · obtain ⟨o, h1, h2⟩ := ih
      refine ⟨o, ?_, ?_⟩
      · rw [List.find?_cons_of_neg (by simpa [Value.isStr] using fun z => e z.symm)]
        have z : (DictEntry.refKey ⟨hsh, .str k t, y⟩) = false := rfl
        rw [List.any_cons, z, Bool.false_or]
        exact h1
      · rw [List.lookup_cons, beq_eq_false_iff_ne.mpr e]; exact h2
theorem SEs.put {m : Loc} {es : List DictEntry} (h : SEs m es) {x : Str} {v : V} {y : Value} {hsh : Int} {t : Tok} (r : VR v y) : SEs (m.set x v) (putL x hsh (.str x t) y es) := by
  induction h with
  | nil => exact .cons r .nil
  | @cons k u z t' hsh' m es r' h' ih =>
    unfold Loc.set putL
    by_cases e : k = x
    · subst e
      rw [if_pos (beq_self_eq_true k), if_pos (by simp [Value.isStr])]
      exact .cons r h'
    · rw [if_neg (by rw [beq_eq_false_iff_ne.mpr e]; exact Bool.false_ne_true), if_neg (by simpa [Value.isStr] using e)]
      exact .cons r' ih
theorem SEs.length {m : Loc} {es : List DictEntry} (h : SEs m es) : es.length = m.length := by
  induction h with
  | nil => rfl
  | cons _ _ ih => simp [ih]

/-- all that stands, but L and a -/
noncomputable def restNews (h : Heap) (L a : Addr) : List (Addr × Obj) := (allNews h L).filter fun p => decide (p.1 ≠ a)
theorem mem_restNews {h : Heap} {L a b : Addr} {o : Obj} : (b, o) ∈ restNews h L a ↔ h.get? b = some o ∧ b ≠ L ∧ b ≠ a := by
  unfold restNews
  rw [List.mem_filter, mem_allNews]
  simp [and_assoc]

section
variable {prog : Program} {w : World} {K : Frag} {g : Heap} {A : Around} {env : Env} {L : Addr} {m : Loc} {σ : AH}

/-- what Fr and News leave of the knowledge, when the object at a has turned -/
theorem Sim.turned {h h' : Heap} (S : Sim g L m σ h) {M : Str → Option Value} (hM : h.Ns L M) (hm : ∀ x v, m.lookup x = some v → ∃ v', M x = some v' ∧ VR v v') {a : Addr} {o o' : O} {ob : Obj} (ha : σ a = some o)
    (F : Fr h00 L h' M) (N : News h00 L h' ((a, ob) :: restNews h L a)) (hr : OR o' ob) : Sim g L m (σ.set a o') h' ∧ Tr L σ (σ.set a o') h h' := by
  have keep : ∀ b x, h.get? b = some x → b ≠ L → b ≠ a → h'.get? b = some x := fun b x e h1 h2 => (N (b, x) (List.mem_cons_of_mem _ (mem_restNews.mpr ⟨e, h1, h2⟩))).1
  have hg := S.off a (by rw [ha]; simp)
  refine ⟨⟨fun b x e => keep _ _ (S.base b x e) (fun z => by rw [z, S.gL] at e; cases e) (fun z => by rw [z, hg] at e; cases e), S.gL, ?_, fun b e => ?_, ⟨M, F.ns, hm⟩, fun b x e => ?_⟩, ⟨fun b x e q hb => keep b x e hb (fun z => by rw [z, ha] at q; cases q), fun b e => ?_⟩⟩
  · rw [AH.set_ne _ _ (Ne.symm (S.ne ha))]; exact S.offL
  · by_cases q : b = a
    · subst q; exact hg
    · rw [AH.set_ne _ _ q] at e; exact S.off b e
  · by_cases q : b = a
    · subst q; rw [AH.set_self] at e; cases e; exact ⟨ob, (N _ (List.mem_cons_self ..)).1, hr⟩
    · rw [AH.set_ne _ _ q] at e
      obtain ⟨y, q1, q2⟩ := S.fit b x e
      exact ⟨y, keep _ _ q1 (S.ne e) q, q2⟩
  · by_cases q : b = a
    · subst q; exact .inl (by rw [ha]; simp)
    · rw [AH.set_ne _ _ q] at e; exact .inl e
theorem Sim.news {h : Heap} (S : Sim g L m σ h) {a : Addr} {ob : Obj} (hb : h.get? a = some ob) (ha : a ≠ L) : News h00 L h ([] ++ (a, ob) :: restNews h L a) := fun p hp => by
  rcases List.mem_cons.mp hp with rfl | hp
  · exact ⟨hb, ha, h00_none _⟩
  · obtain ⟨x, y⟩ := p
    obtain ⟨h1, h2, _⟩ := mem_restNews.mp hp
    exact ⟨h1, h2, h00_none _⟩
theorem fr00 {h : Heap} {M : Str → Option Value} (hM : h.Ns L M) : Fr h00 L h M := ⟨hM, (fun b o e => by rw [h00_none] at e; cases e), Nat.zero_le _⟩

/-! ## attributes -/
noncomputable def AGet (prog : Program) (w : World) (g : Heap) (A : Around) (L : Addr) (o : V) (name : Str) (m : Loc) (σ : AH) (Φ : V → Loc → AH → Prop) : Prop := ∀ a, VR o a → AW prog w g VR A L (getAttr a name true) m σ Φ
noncomputable def ASet (prog : Program) (w : World) (g : Heap) (A : Around) (L : Addr) (o : V) (name : Str) (v : V) (m : Loc) (σ : AH) (Φ : Loc → AH → Prop) : Prop := ∀ a x, VR o a → VR v x → AW prog w g (fun (_ : Unit) (_ : Unit) => True) A L (setAttr a name x) m σ fun _ m' σ' => Φ m' σ'

noncomputable abbrev KAt (prog : Program) (w : World) (g : Heap) (A : Around) (env : Env) (attr : Str) (Φ : V → Loc → AH → Prop) : V → Loc → AH → Prop := fun o m₁ σ₁ => AGet prog w g A env.locals o attr m₁ σ₁ Φ
theorem E_Attr {value : Expr} {attr : Str} {pos : Pos} {Φ : V → Loc → AH → Prop} (h : AE prog w g A env value m σ (KAt prog w g A env attr Φ))
    (he : eval (.Attribute value attr pos) env = (do
      let o ← eval value env
      standAt pos.atName
      let r ← holding [o] (getAttr o attr true)
      letTemporaryGo value o r
      pure r) := by kernel_rfl!) : AE prog w g A env (.Attribute value attr pos) m σ Φ := fun s Q E S c => by
  refine Attribute_any_ (h s _ E S fun o a m₁ σ₁ h₁ tk p r S₁ T₁ => ?_) he
  exact p a r { s with heap := h₁, toks := tk } _ E S₁ fun v x m₂ σ₂ h₂ tk₂ p₂ r₂ S₂ T₂ => c _ _ _ _ h₂ tk₂ p₂ r₂ S₂ (T₁.trans T₂)

theorem X_AssignAttr {o value : Expr} {attr : Str} {pos' pos : Pos} {Φ : F → Loc → AH → Prop}
    (h : AE prog w g A env value m σ fun v m₁ σ₁ => AE prog w g A env o m₁ σ₁ fun ov m₂ σ₂ => ASet prog w g A env.locals ov attr v m₂ σ₂ fun m₃ σ₃ => Φ .next m₃ σ₃)
    (hs : swapsWith value (some (.Attribute o attr pos')) pos.line env = pure false := by kernel_rfl!) : AX prog w g A env (.Assign [.Attribute o attr pos'] value pos) m σ Φ := fun s Q E S c => by
  refine plainObj_wpAny_Assign_Attribute (h s _ E S fun v x m₁ σ₁ h₁ tk p r S₁ T₁ => ?_) hs
  refine p { s with heap := h₁, toks := tk } _ E S₁ fun ov a m₂ σ₂ h₂ tk₂ p₂ r₂ S₂ T₂ => ?_
  exact p₂ a x r₂ r { s with heap := h₂, toks := tk₂ } _ E S₂ fun _ _ m₃ σ₃ h₃ tk₃ p₃ _ S₃ T₃ => c _ _ _ _ h₃ tk₃ p₃ .next S₃ (T₁.trans (T₂.trans T₃))
theorem X_AugAttr {o value : Expr} {attr : Str} {op : Operator} {pos' pos : Pos} {Φ : F → Loc → AH → Prop}
    (h : AE prog w g A env o m σ fun ov m₁ σ₁ => AGet prog w g A env.locals ov attr m₁ σ₁ fun old m₂ σ₂ => AE prog w g A env value m₂ σ₂ fun v m₃ σ₃ => A2 prog w g A env (inplaceOp op) old v m₃ σ₃ fun new m₄ σ₄ => ASet prog w g A env.locals ov attr new m₄ σ₄ fun m₅ σ₅ => Φ .next m₅ σ₅) :
    AX prog w g A env (.AugAssign (.Attribute o attr pos') op value pos) m σ Φ := fun s Q E S c => by
  refine wpAny_AugAssign_AttributeAny (h s _ E S fun ov a m₁ σ₁ h₁ tk p r S₁ T₁ => ?_)
  refine p a r { s with heap := h₁, toks := tk } _ E S₁ fun old x m₂ σ₂ h₂ tk₂ p₂ r₂ S₂ T₂ => ?_
  refine p₂ { s with heap := h₂, toks := tk₂ } _ E S₂ fun v y m₃ σ₃ h₃ tk₃ p₃ r₃ S₃ T₃ => ?_
  refine p₃ x y r₂ r₃ { s with heap := h₃, toks := tk₃ } _ E S₃ fun new z m₄ σ₄ h₄ tk₄ p₄ r₄ S₄ T₄ => ?_
  exact p₄ a z r r₄ { s with heap := h₄, toks := tk₄ } _ E S₄ fun _ _ m₅ σ₅ h₅ tk₅ p₅ _ S₅ T₅ => c _ _ _ _ h₅ tk₅ p₅ .next S₅ (T₁.trans (T₂.trans (T₃.trans (T₄.trans T₅))))
theorem iadd_I {x y : Int} {Φ : V → Loc → AH → Prop} (h : Φ (.int (x + y)) m σ) : A2 prog w g A env (inplaceOp .Add) (.int x) (.int y) m σ Φ := fun a b r r' s Q E S c => by
  obtain ⟨t, rfl⟩ := r.i; obtain ⟨u, rfl⟩ := r'.i; exact AutoIntOps.iadd_0 (c _ _ _ _ s.heap _ h (.int ..) S (Tr.refl ..))
theorem isub_I {x y : Int} {Φ : V → Loc → AH → Prop} (h : Φ (.int (x - y)) m σ) : A2 prog w g A env (inplaceOp .Sub) (.int x) (.int y) m σ Φ := fun a b r r' s Q E S c => by
  obtain ⟨t, rfl⟩ := r.i; obtain ⟨u, rfl⟩ := r'.i; exact AutoIntOps.isub_0 (c _ _ _ _ s.heap _ h (.int ..) S (Tr.refl ..))

/-- an object with a dict of its own -/
structure InstD (σ : AH) (x C dx : Addr) (mm : Loc) : Prop where
  obj : σ x = some (.raw (instObj C dx))
  dict : σ dx = some (.sdict mm)
theorem InstD.at {h : Heap} {x C dx : Addr} {mm : Loc} (I : InstD σ x C dx mm) (S : Sim g L m σ h) : ∃ es n, InstAt h x (instObj C dx) C (some (dictOf es n)) ∧ h.get? dx = some (dictOf es n) ∧ SEs mm es := by
  obtain ⟨ob, ho, rfl⟩ := S.fit _ _ I.obj
  obtain ⟨od, hd, es, n, rfl, r⟩ := S.fit _ _ I.dict
  exact ⟨es, n, ⟨ho, rfl, rfl, hd⟩, hd, r⟩

/-- the class C reads name from the object's own dict -/
noncomputable def ownName (K : Frag) (C : Addr) (name : Str) : Bool := plainGet K C name && hasDictIn K C && findIn K (.ref C) name == some none
theorem V.handed {v : V} {x : Value} (r : VR v x) (h : v.small = true) : handedIn x = true := by
  cases r <;> first | rfl | cases h

theorem get_ownA (G : Gd K g) {x C dx : Addr} {mm : Loc} {name : Str} {v : V} {Φ : V → Loc → AH → Prop} (I : InstD σ x C dx mm) (hv : mm.lookup name = some v) (hs : v.small = true) (h : Φ v m σ) (hc : ownName K C name = true := by kernel_rfl!) :
    AGet prog w g A L (.ref x) name m σ Φ := fun a r s Q E S c => by
  obtain rfl := r.r
  obtain ⟨es, n, IA, _, rs⟩ := I.at S
  obtain ⟨hc, h3⟩ := Bool.and_eq_true_iff.mp hc
  obtain ⟨h1, h2⟩ := Bool.and_eq_true_iff.mp hc
  obtain ⟨o, e1, e2⟩ := rs.get name
  rw [hv] at e2
  cases e2 with
  | @some _ y r =>
    have X := G.inK.keeps S.base
    have hf : findObj K C (some (dictOf es n)) name = some (.value y) := by
      obtain ⟨cd, hcd, hd⟩ := any_some h2
      unfold findObj
      rw [hcd, Option.bind_some, beq_iff_eq.mp h3, Option.bind_some]
      show ((W.ownOf cd (some (dictOf es n)) name).bind _) = _
      unfold W.ownOf
      rw [if_pos hd]
      show ((lookIn name (dictOf es n)).bind _) = _
      rw [lookIn_dict, e1]
      rfl
    exact get_value X IA (plainGet_of h1).1 hf (V.handed r hs) (c _ _ _ _ s.heap _ h r S (Tr.refl ..))

/-- the class C stores name into the object's own dict -/
noncomputable def ownStore (K : Frag) (C : Addr) (name : Str) : Bool := findIn K (.ref C) "__setattr__" == some (some (.builtin "object.__setattr__")) && plainOver K C && takerIn K C name == some none && hasDictIn K C
theorem set_ownA (G : Gd K g) {x C dx : Addr} {mm : Loc} {name : Str} {v : V} {Φ : Loc → AH → Prop} (I : InstD σ x C dx mm) (hz : mm.length ≤ 900) (h : Φ m (σ.set dx (.sdict (mm.set name v)))) (hc : ownStore K C name = true := by kernel_rfl!) :
    ASet prog w g A L (.ref x) name v m σ Φ := fun a y r ry s Q E S c => by
  obtain rfl := r.r
  obtain ⟨es, n, IA, hd, rs⟩ := I.at S
  obtain ⟨hc, h4⟩ := Bool.and_eq_true_iff.mp hc
  obtain ⟨hc, h3⟩ := Bool.and_eq_true_iff.mp hc
  obtain ⟨h1, h2⟩ := Bool.and_eq_true_iff.mp hc
  obtain ⟨M, hM, hm⟩ := S.ns
  have X := G.inK.keeps S.base
  obtain ⟨o, e1, _⟩ := rs.get name
  refine set_plain X IA (beq_iff_eq.mp h1) ?_
  have hlen : (putL name (PyData.keyHash w.params name) (.str name (s.toks + 1)) y es).length ≤ 1000 := by
    have : ∀ es : List DictEntry, (putL name (PyData.keyHash w.params name) (.str name (s.toks + 1)) y es).length ≤ es.length + 1 := by
      intro es
      induction es with
      | nil => exact Nat.le_refl _
      | cons e r ih => unfold putL; split <;> simp <;> omega
    have := this es
    rw [rs.length] at this
    omega
  refine osa_dict (s := { s with toks := s.toks + 1 }) (fr00 hM) (S.news hd (S.ne I.dict)) X IA rfl h2 (beq_iff_eq.mp h3) h4 (by rw [lookIn_dict, e1]; rfl) (fun p hp => nomatch hp) (fun p hp => (mem_restNews.mp hp).2.2)
    (putName_dict ..) rfl hlen fun h' F' N' => ?_
  obtain ⟨S', T'⟩ := S.turned hM hm I.dict F' N' (o' := .sdict (mm.set name v)) ⟨_, _, rfl, rs.put ry⟩
  exact c () () _ _ h' _ h trivial S' T'
end
end Mine

namespace Mine
open PySem PySem.W PyProof.Rows

theorem VRos.get {vs : List (Option V)} {l : List (Option Value)} (r : VRos vs l) : ∀ {i : Nat} {v : V}, vs[i]? = some (some v) → ∃ x, l[i]? = some (some x) ∧ VR v x := by
  induction r with
  | nil => intro i v e; simp at e
  | cons h _ ih =>
    intro i v e
    cases i with
    | zero => simp at e; subst e; cases h with | some h => exact ⟨_, rfl, h⟩
    | succ i => simp at e; simpa using ih e
theorem VRos.length {vs : List (Option V)} {l : List (Option Value)} (r : VRos vs l) : l.length = vs.length := by
  induction r with
  | nil => rfl
  | cons _ _ ih => simp [ih]
theorem VRos.pad {vs : List (Option V)} {l : List (Option Value)} (r : VRos vs l) (n : Nat) : VRos (vs ++ List.replicate n none) (l ++ List.replicate n none) := by
  induction r with
  | nil =>
    induction n with
    | zero => exact .nil
    | succ n ih => exact .cons .none ih
  | cons h _ ih => exact .cons h ih
theorem VRos.set {vs : List (Option V)} {l : List (Option Value)} (r : VRos vs l) {v : V} {x : Value} (rv : VR v x) : ∀ i, VRos (vs.set i (some v)) (l.set i (some x)) := by
  induction r with
  | nil => intro i; exact .nil
  | cons h r ih =>
    intro i
    cases i with
    | zero => exact .cons (.some rv) r
    | succ i => exact .cons h (ih i)

section
variable {prog : Program} {w : World} {K : Frag} {g : Heap} {A : Around} {env : Env} {L : Addr} {m : Loc} {σ : AH}

/-! ## slots -/
structure InstS (σ : AH) (x C dx : Addr) (vs : List (Option V)) : Prop where
  obj : σ x = some (.slots C dx vs)
  dict : σ dx = some (.raw emptyDict)
noncomputable def slotGet (K : Frag) (C p : Addr) (i : Nat) (name : Str) : Bool := plainGet K C name && isClsIn K C && findIn K (.ref C) name == some (some (.ref p)) && specialIn K (.ref p) "__get__" == some (some (.builtin "member_descriptor.__get__")) && takesIn K (.ref p) == some true && slotIn K p C == some i
theorem get_slotA (G : Gd K g) {x C dx : Addr} (p : Addr) (i : Nat) {vs : List (Option V)} {name : Str} {v : V} {Φ : V → Loc → AH → Prop} (I : InstS σ x C dx vs) (hv : vs[i]? = some (some v)) (hs : v.small = true) (h : Φ v m σ)
    (hc : slotGet K C p i name = true := by kernel_rfl!) : AGet prog w g A L (.ref x) name m σ Φ := fun a r s Q E S c => by
  obtain rfl := r.r
  obtain ⟨ob, ho, sl, rfl, rs⟩ := S.fit _ _ I.obj
  obtain ⟨od, hd, rfl⟩ := S.fit _ _ I.dict
  obtain ⟨y, hy, ry⟩ := rs.get hv
  obtain ⟨hc, h6⟩ := Bool.and_eq_true_iff.mp hc
  obtain ⟨hc, h5⟩ := Bool.and_eq_true_iff.mp hc
  obtain ⟨hc, h4⟩ := Bool.and_eq_true_iff.mp hc
  obtain ⟨hc, h3⟩ := Bool.and_eq_true_iff.mp hc
  obtain ⟨h1, h2⟩ := Bool.and_eq_true_iff.mp hc
  have X := G.inK.keeps S.base
  have IA : InstAt s.heap x { cls := .ref C, dict := some dx, data := .plain, slots := sl } C (some emptyDict) := ⟨ho, rfl, rfl, hd⟩
  have hj : (sl[i]?).join = some y := by
    have : sl[i]? = some (some y) := by rw [← hy]; simp
    rw [this]; rfl
  exact get_bind X IA (plainGet_of h1).1 (findObj_data h2 (beq_iff_eq.mp h3) (beq_iff_eq.mp h4) (beq_iff_eq.mp h5)) (plainGet_of h1).2
    (wpAny_call (slot_get (s := { s with toks := s.toks + 1 }) X IA (beq_iff_eq.mp h6) hj (handed_on (V.handed ry hs) (c _ _ _ _ s.heap _ h ry S (Tr.refl ..)))))

noncomputable def slotPut (K : Frag) (C p : Addr) (i : Nat) (name : Str) : Bool := findIn K (.ref C) "__setattr__" == some (some (.builtin "object.__setattr__")) && plainOver K C && takerIn K C name == some (some (.ref p)) && typeIn K (.ref p) == some (.type "member_descriptor") && slotIn K p C == some i && decide (i < 1000)
noncomputable def putSlot (vs : List (Option V)) (i : Nat) (v : V) : List (Option V) := (vs ++ List.replicate (i + 1 - vs.length) none).set i (some v)
theorem set_slotA (G : Gd K g) {x C dx : Addr} (p : Addr) (i : Nat) {vs : List (Option V)} {name : Str} {v : V} {Φ : Loc → AH → Prop} (I : InstS σ x C dx vs) (h : Φ m (σ.set x (.slots C dx (putSlot vs i v))))
    (hc : slotPut K C p i name = true := by kernel_rfl!) : ASet prog w g A L (.ref x) name v m σ Φ := fun a y r ry s Q E S c => by
  obtain rfl := r.r
  obtain ⟨ob, ho, sl, rfl, rs⟩ := S.fit _ _ I.obj
  obtain ⟨od, hd, rfl⟩ := S.fit _ _ I.dict
  obtain ⟨hc, h6⟩ := Bool.and_eq_true_iff.mp hc
  obtain ⟨hc, h5⟩ := Bool.and_eq_true_iff.mp hc
  obtain ⟨hc, h4⟩ := Bool.and_eq_true_iff.mp hc
  obtain ⟨hc, h3⟩ := Bool.and_eq_true_iff.mp hc
  obtain ⟨h1, h2⟩ := Bool.and_eq_true_iff.mp hc
  have X := G.inK.keeps S.base
  obtain ⟨M, hM, hm⟩ := S.ns
  have IA : InstAt s.heap x { cls := .ref C, dict := some dx, data := .plain, slots := sl } C (some emptyDict) := ⟨ho, rfl, rfl, hd⟩
  refine set_plain X IA (beq_iff_eq.mp h1) (osa_descr (s := { s with toks := s.toks + 1 }) KF.slot_mset X IA h2 (beq_iff_eq.mp h3) (beq_iff_eq.mp h4)
    (slot_set (s := { s with toks := s.toks + 1 }) (fr00 hM) (S.news ho (S.ne I.obj)) X IA (beq_iff_eq.mp h5) (of_decide_eq_true h6) (fun p hp => nomatch hp) (fun p hp => (mem_restNews.mp hp).2.2) rfl rfl fun h' F' N' => ?_))
  have e : sl.size = vs.length := by rw [← Array.length_toList]; exact rs.length
  have hr : VRos (putSlot vs i v) ((sl ++ Array.replicate (i + 1 - sl.size) none).setIfInBounds i (some y)).toList := by
    unfold putSlot
    simp only [Array.toList_setIfInBounds, Array.toList_append, Array.toList_replicate, e]
    exact (rs.pad _).set ry _
  obtain ⟨S', T'⟩ := S.turned hM hm I.obj F' N' (o' := .slots C dx (putSlot vs i v)) ⟨_, rfl, hr⟩
  exact c () () _ _ h' _ h trivial S' T'

/-! ## calls, at the code's own level -/
noncomputable def ACode (prog : Program) (w : World) (g : Heap) (A : Around) (L : Addr) (f : V) (pos : List V) (kw : List (Str × V)) (m : Loc) (σ : AH) (Φ : V → Loc → AH → Prop) : Prop :=
  ∀ (s : Shared) (R : Result → Shared → Prop) f' pos' kw', VR f f' → VRs pos pos' → KRs kw kw' → Sim g L m σ s.heap →
    (∀ v v' m' σ' h' tk, Φ v m' σ' → VR v v' → Sim g L m' σ' h' → Tr L σ σ' s.heap h' → R (.ok (.ret v')) { s with heap := h', toks := tk }) → codeAny (model prog w) A (.call f' ⟨pos', kw'⟩) R s

theorem call_of_code (G : Gd K g) {f : Addr} {oc : Value} {od : Option Addr} {fd : FuncData} {osl : Array (Option Value)} {pos : List V} {kw : List (Str × V)} {Φ : V → Loc → AH → Prop} (ho : K.lookup f = some ⟨oc, od, .func fd, osl⟩)
    (h : ACode prog w g A L (.ref f) pos kw m σ Φ) : ACall prog w g A L (.ref f) pos kw m σ Φ := fun f' pos' kw' r rs rk => by
  obtain rfl := r.r
  exact ⟨keeper_fn G ho, fun s Q E S c => wpAny_call (h s _ _ pos' kw' (.ref f) rs rk S fun v v' m' σ' h' tk p r S' T' => c _ _ _ _ h' tk p r S' T')⟩

theorem code_def (G : Gd K g) {f : Addr} {oc : Value} {od : Option Addr} {fd : FuncData} {osl : Array (Option Value)} {pos : List V} {kw : List (Str × V)} {binds : Loc} {Φ : V → Loc → AH → Prop}
    (hA : A.depth < recursionLimit) (ho : K.lookup f = some ⟨oc, od, .func fd, osl⟩) (hcd : codeIn K fd.code fd.qualname = true) (hbody : fd.body = .stmts (bodyOf fd)) (hb : ABind K fd pos kw binds)
    (hcell : (fd.scope.names.all fun x => !(x.2 == .cell)) = true) (hloc : (binds.all fun x => decide (fd.scope.names.lookup x.1 = some .local)) = true)
    (h : ∀ L', AXs prog w g (A.deeper (callEnv fd L' f)) (callEnv fd L' f) (bodyOf fd) binds.reverse σ (RetK m Φ))
    (hco : fd.scope.isCoroutine = false) (hgen : fd.scope.isGenerator = false) (hk : fd.scope.kind = .function) :
    ACode prog w g A L (.ref f) pos kw m σ Φ := by
  intro s R f' pos' kw' r rs rk S c
  obtain rfl := r.r
  have X : K.In s.heap := G.inK.keeps S.base
  obtain ⟨binds', hp, rb⟩ := hb pos' kw' rs rk
  have hB : BindsTo s fd ⟨pos', kw'⟩ binds' := fun M A' E' Q' hq Γ p _ => wp_of_peek X hq _ (hp _)
  refine codeAny_call_def hA (X _ _ ho) rfl (G.nolimit.keeps S.base) (codeRec_of X hcd) hbody hB (fun x hx e => by have := List.all_eq_true.mp hcell x hx; rw [e] at this; cases this) ?_ (fun h₁ hns hk₁ => ?_) hco hgen hk
  · intro x hx
    have : x.1 ∈ binds'.map (·.1) := List.mem_map_of_mem hx
    rw [rb.names] at this
    obtain ⟨y, hy, e⟩ := List.mem_map.mp this
    rw [← e]
    exact of_decide_eq_true (List.all_eq_true.mp hloc y hy)
  · have S₁ : Sim g (callEnv fd s.heap.objs.size f).locals binds.reverse σ h₁ := by
      refine ⟨fun b o e => hk₁ _ _ (S.base b o e), S.gfresh (Nat.le_refl _), S.fresh, S.off, ⟨_, hns, rb.reverse.lookup⟩, fun a o e => ?_⟩
      obtain ⟨ob, x, y⟩ := S.fit a o e
      exact ⟨ob, hk₁ _ _ x, y⟩
    refine h s.heap.objs.size { s with heap := h₁, toks := s.toks + binds'.length } _ _ S₁ fun fl fl' m' σ' h' tk p r S' T' => ?_
    obtain ⟨σ'', hsub, p⟩ := p
    obtain ⟨S'', T''⟩ := S.back hk₁ (fun a e => .inl e) (size_none _) S' T'
    refine c fl.val _ _ _ h' tk p ?_ (S''.forget hsub) (T''.forget hsub)
    cases r <;> first | exact .none | assumption

/-- a def with a *-parameter -/
theorem code_defV (G : Gd K g) {f : Addr} {oc : Value} {od : Option Addr} {fd : FuncData} {osl : Array (Option Value)} {pos extra : List V} {names : List Str} {nm : Str} {Φ : V → Loc → AH → Prop}
    (hA : A.depth < recursionLimit) (ho : K.lookup f = some ⟨oc, od, .func fd, osl⟩) (hcd : codeIn K fd.code fd.qualname = true) (hbody : fd.body = .stmts (bodyOf fd))
    (hb : ∀ pos' extra', VRs pos pos' → bindArgs fd ⟨pos' ++ extra', []⟩ = (newTuple extra' >>= fun t => pure (names.zip pos' ++ [(nm, t)])))
    (hz : extra.length ≤ 1000) (hcell : (fd.scope.names.all fun x => !(x.2 == .cell)) = true) (hloc : ((nm :: names).all fun x => decide (fd.scope.names.lookup x = some .local)) = true)
    (h : ∀ L' D, σ D = none → AXs prog w g (A.deeper (callEnv fd L' f)) (callEnv fd L' f) (bodyOf fd) (names.zip pos ++ [(nm, V.ref D)]).reverse (σ.set D (.tuple extra)) (RetK m Φ))
    (hco : fd.scope.isCoroutine = false) (hgen : fd.scope.isGenerator = false) (hk : fd.scope.kind = .function) :
    ACode prog w g A L (.ref f) (pos ++ extra) [] m σ Φ := by
  intro s R f' all' kw' r rs rk S c
  obtain rfl := r.r
  obtain rfl := rk.n
  obtain ⟨pos', extra', rfl, rp, re⟩ : ∃ pos' extra', all' = pos' ++ extra' ∧ VRs pos pos' ∧ VRs extra extra' := by
    clear hb h
    induction pos generalizing all' with
    | nil => exact ⟨[], all', rfl, .nil, rs⟩
    | cons v pos ih =>
      obtain ⟨x, xs, rfl, rx, rs⟩ := VRs.c rs
      obtain ⟨p', e', rfl, r1, r2⟩ := ih xs rs
      exact ⟨x :: p', e', rfl, .cons rx r1, r2⟩
  have X : K.In s.heap := G.inK.keeps S.base
  refine codeAny_call_function hA (X _ _ ho) rfl hco hgen hbody (codeRec_of X hcd) ?_
  rw [hb pos' extra' rp]
  refine wpAny_bind (wpAny_newTuple (wpAny_pure ?_) (by rw [re.length]; have := sizeLine_eq; omega))
  have S₀ := S.alloc (o := .tuple extra) (ob := { cls := .type "tuple", data := .seq extra'.toArray }) rfl ⟨_, _, rfl, re⟩
  have T₀ : Tr L σ (σ.set s.heap.objs.size (.tuple extra)) s.heap (s.heap.push { cls := .type "tuple", data := .seq extra'.toArray }) := Tr.alloc S
  have rb : KRs (names.zip pos ++ [(nm, V.ref s.heap.objs.size)]) (names.zip pos' ++ [(nm, Value.ref s.heap.objs.size)]) := by
    refine KRs.append ?_ (.cons (.ref _) .nil)
    clear hb h hloc rs
    induction rp generalizing names with
    | nil => rw [List.zip_nil_right, List.zip_nil_right]; exact .nil
    | cons hr _ ih =>
      cases names with
      | nil => exact .nil
      | cons n ns => exact .cons hr ih
  refine wpAny_newFunctionEnv (s := { s with heap := s.heap.push { cls := .type "tuple", data := .seq extra'.toArray } }) (fun x hx e => by have := List.all_eq_true.mp hcell x hx; rw [e] at this; cases this) ?_ (fun h₁ hns hsb => ⟨(G.nolimit.keeps S₀.base).fresh _ hsb, codeAny_func ?_⟩) hk
  · intro x hx
    have hm : x.1 ∈ nm :: names := by
      rcases List.mem_append.mp hx with hx | hx
      · exact List.mem_cons_of_mem _ (List.of_mem_zip hx).1
      · rw [List.mem_singleton.mp hx]; exact List.mem_cons_self ..
    exact of_decide_eq_true (List.all_eq_true.mp hloc _ hm)
  · dsimp only at hns hsb ⊢
    have hk₁ : ∀ b o, (s.heap.push { cls := .type "tuple", data := .seq extra'.toArray }).get? b = some o → h₁.get? b = some o := fun b o e => hsb.extBut b o (Nat.ne_of_lt (Heap.lt_size e)) (Heap.get?_push_of_some _ e)
    generalize hH : s.heap.push { cls := .type "tuple", data := .seq extra'.toArray } = H at S₀ T₀ hns hsb hk₁ ⊢
    have S₁ : Sim g (callEnv fd H.objs.size f).locals (names.zip pos ++ [(nm, V.ref s.heap.objs.size)]).reverse (σ.set s.heap.objs.size (.tuple extra)) h₁ := by
      refine ⟨fun b o e => hk₁ _ _ (S₀.base b o e), S₀.gfresh (Nat.le_refl _), S₀.fresh, S₀.off, ⟨_, hns, rb.reverse.lookup⟩, fun a o e => ?_⟩
      obtain ⟨ob, x, y⟩ := S₀.fit a o e
      exact ⟨ob, hk₁ _ _ x, y⟩
    refine h H.objs.size s.heap.objs.size S.fresh { s with heap := h₁, toks := s.toks + (names.zip pos' ++ [(nm, Value.ref s.heap.objs.size)]).length } _ _ S₁ fun fl fl' m' σ' h' tk p r S' T' => ?_
    obtain ⟨σ'', hsub, p⟩ := p
    obtain ⟨S'', T''⟩ := S₀.back hk₁ (fun a e => .inl e) (size_none _) S' T'
    refine c fl.val _ _ _ h' tk p ?_ (S''.forget hsub) ((T₀.trans T'').forget hsub)
    cases r <;> first | exact .none | assumption

/-! ## methods -/
noncomputable def methIn (K : Frag) (C f : Addr) (name : Str) : Bool := plainGet K C name && findIn K (.ref C) name == some (some (.ref f)) && isFn K (.ref f)
theorem callee_meth (G : Gd K g) {o : Expr} {name : Str} {x C dx : Addr} (f : Addr) {mm : Loc} {Φ : V → List V → Loc → AH → Prop} (I : InstD σ x C dx mm) (hn : mm.lookup name = none) (h : Φ (.ref f) [.ref x] m σ) (hc : methIn K C f name = true := by kernel_rfl!) :
    ACallee prog w g A env true o name (.ref x) m σ Φ := fun a r s Q E S c => by
  obtain rfl := r.r
  obtain ⟨es, n, IA, _, rs⟩ := I.at S
  obtain ⟨hc, h3⟩ := Bool.and_eq_true_iff.mp hc
  obtain ⟨h1, h2⟩ := Bool.and_eq_true_iff.mp hc
  obtain ⟨o', e1, e2⟩ := rs.get name
  rw [hn] at e2
  cases e2
  refine method_fn (G.inK.keeps S.base) IA (plainGet_of h1).1 (plainGet_of h1).2 (beq_iff_eq.mp h2) (beq_iff_eq.mp h3) ?_ (c (.ref f, [.ref x]) _ _ _ s.heap s.toks h ⟨.ref _, .cons (.ref _) .nil⟩ S (Tr.refl ..))
  show (lookIn name (dictOf es n)).map _ = _
  rw [lookIn_dict, e1]
  rfl

noncomputable def boundIn (K : Frag) (C f : Addr) (name : Str) : Bool := plainGet K C name && findIn K (.ref C) name == some (some (.ref f)) && isFn K (.ref f) && specialIn K (.ref f) "__get__" == some (some (.builtin "function.__get__")) && takesIn K (.ref f) == some false && isClsIn K C && !copiedNames.contains name
theorem callee_bound (G : Gd K g) {o : Expr} {name : Str} {x C dx : Addr} (f : Addr) {mm : Loc} {Φ : V → List V → Loc → AH → Prop} (I : InstD σ x C dx mm) (hn : mm.lookup name = none) (h : ∀ q, σ q = none → Φ (.ref q) [] m (σ.set q (.raw (methodObj (.ref f) (.ref x))))) (hc : boundIn K C f name = true := by kernel_rfl!) :
    ACallee prog w g A env false o name (.ref x) m σ Φ := fun a r s Q E S c => by
  obtain rfl := r.r
  obtain ⟨es, n, IA, _, rs⟩ := I.at S
  obtain ⟨hc, h7⟩ := Bool.and_eq_true_iff.mp hc
  obtain ⟨hc, h6⟩ := Bool.and_eq_true_iff.mp hc
  obtain ⟨hc, h5⟩ := Bool.and_eq_true_iff.mp hc
  obtain ⟨hc, h4⟩ := Bool.and_eq_true_iff.mp hc
  obtain ⟨hc, h3⟩ := Bool.and_eq_true_iff.mp hc
  obtain ⟨h1, h2⟩ := Bool.and_eq_true_iff.mp hc
  obtain ⟨o', e1, e2⟩ := rs.get name
  rw [hn] at e2
  cases e2
  have X := G.inK.keeps S.base
  have hf : findObj K C (some (dictOf es n)) name = some (.bind (.builtin "function.__get__") (.ref f)) := by
    obtain ⟨cd, hcd⟩ := Option.isSome_iff_exists.mp h6
    have own : W.ownOf cd (some (dictOf es n)) name = some none := by
      unfold W.ownOf
      split
      · show lookIn name (dictOf es n) = _
        rw [lookIn_dict, e1]
      · rfl
    have h7' : copiedNames.contains name = false := by simpa using h7
    unfold findObj
    rw [hcd, Option.bind_some, beq_iff_eq.mp h2, Option.bind_some]
    simp only [beq_iff_eq.mp h4, beq_iff_eq.mp h5, Option.bind_some, own, h7', Bool.false_and, Bool.false_eq_true, if_false]
  show wpAny _ _ (do pure (← getAttr (.ref x) name true, [])) _ E s
  refine wpAny_bind (get_bind X IA (plainGet_of h1).1 hf (plainGet_of h1).2 (wpAny_call (fn_get (s := { s with toks := s.toks + 1 }) X (beq_iff_eq.mp h3) (handed_on rfl (wpAny_pure ?_)))))
  exact c (.ref s.heap.objs.size, []) _ _ _ _ _ (h _ S.fresh) ⟨.ref _, .nil⟩ (S.alloc (o := .raw (methodObj (.ref f) (.ref x))) rfl rfl) (Tr.alloc S)

theorem call_bound (G : Gd K g) {q x f : Addr} {pos : List V} {kw : List (Str × V)} {Φ : V → Loc → AH → Prop} (hq : σ q = some (.raw (methodObj (.ref f) (.ref x)))) (hf : fnIn K f = true) (h : ACode prog w g A L (.ref f) (.ref x :: pos) kw m σ Φ) :
    ACall prog w g A L (.ref q) pos kw m σ Φ := fun f' pos' kw' r rs rk => by
  obtain rfl := r.r
  refine ⟨fun s Q E S c => ?_, fun s Q E S c => ?_⟩
  · obtain ⟨ob, ho, rfl⟩ := S.fit _ _ hq
    obtain ⟨k, _, lk⟩ := keeps_M (M := model prog w) hf s.heap ⟨ho, G.inK.keeps S.base⟩
    exact lk.here (c () _ _ _ s.heap s.toks ⟨rfl, rfl⟩ trivial S (Tr.refl ..))
  · obtain ⟨ob, ho, rfl⟩ := S.fit _ _ hq
    exact wpAny_call (method_call ho (h s _ _ _ kw' (.ref f) (.cons (.ref x) rs) rk S fun v v' m' σ' h' tk p r S' T' => c _ _ _ _ h' tk p r S' T'))

/-! ## making an object -/
theorem call_make (G : Gd K g) {C fI : Addr} {o₁ o₂ : Addr → O} {pos : List V} {Φ : V → Loc → AH → Prop} (hm : makesIn K C = true) (hk : keepIn K (.ref C) = true) (hi : findIn K (.ref C) "__init__" = some (some (.ref fI))) (hf : typeIn K (.ref fI) = some (.type "function"))
    (h₁ : ∀ dx, OR (o₁ dx) (instObj C dx)) (h₂ : ∀ dx, OR (o₂ dx) emptyDict)
    (h : ∀ A' x dx, (∀ k, AOk A (k + 1) → AOk A' k) → σ x = none → σ dx = none → x ≠ dx → ACode prog w g A' L (.ref fI) (.ref x :: pos) [] m ((σ.set dx (o₂ dx)).set x (o₁ dx)) fun v m' σ' => v = .none ∧ Φ (.ref x) m' σ') :
    ACall prog w g A L (.ref C) pos [] m σ Φ := fun f' pos' kw' r rs rk => by
  obtain rfl := r.r
  obtain rfl := rk.n
  refine ⟨fun s Q E S c => ?_, fun s Q E S c => ?_⟩
  · obtain ⟨k, _, lk⟩ := keeps_K (M := model prog w) hk s.heap (G.inK.keeps S.base)
    exact lk.here (c () _ _ _ s.heap s.toks ⟨rfl, rfl⟩ trivial S (Tr.refl ..))
  · have X := G.inK.keeps S.base
    obtain ⟨hh, gg, d, t, os⟩ := s
    have S₁ := S.alloc (o := o₂ hh.objs.size) (ob := emptyDict) rfl (h₂ _)
    have S₂ := S₁.alloc (o := o₁ hh.objs.size) (ob := instObj C hh.objs.size) rfl (h₁ _)
    have T₂ : Tr L σ ((σ.set hh.objs.size (o₂ hh.objs.size)).set (hh.push emptyDict).objs.size (o₁ hh.objs.size)) hh ((hh.push emptyDict).push (instObj C hh.objs.size)) := (Tr.alloc S).trans (Tr.alloc S₁)
    have hsz : (hh.push emptyDict).objs.size = hh.objs.size + 1 := Heap.size_push ..
    rw [hsz] at S₂ T₂
    have xN : σ (hh.objs.size + 1) = none := by
      cases q : σ (hh.objs.size + 1) with
      | none => rfl
      | some o => exact absurd (S.lt q) (Nat.not_lt.mpr (Nat.le_succ _))
    refine wpAny_call (make_core (makes_of X hm) (looks_findIn X hi) (fun self => bind_fn X self hf) (.inl rfl) ?_)
    refine h (A.under (.builtin "type.__call__" ⟨.ref C :: pos', []⟩)) (hh.objs.size + 1) hh.objs.size ?_ xN S.fresh (Nat.succ_ne_self _) ⟨(hh.push emptyDict).push (instObj C hh.objs.size), gg, d, t, os⟩ _ _ _ [] (.ref fI) (.cons (.ref _) rs) .nil S₂ fun v v' m' σ' h' tk p r S' T' => ?_
    · intro k hA
      refine ⟨hA.handled, ?_, ?_⟩
      · rw [depth_under_kw]; have := hA.depth; omega
      · have := hA.units
        rw [units_under_make]
        omega
    · obtain ⟨rfl, p⟩ := p
      obtain rfl := r.n
      exact ⟨rfl, c _ _ _ _ h' tk p (.ref _) S' (T₂.trans T')⟩
end
end Mine

namespace Mine
open PySem PySem.W PyProof.Rows

section
variable {prog : Program} {w : World} {K : Frag} {g : Heap} {A : Around} {env : Env} {L : Addr} {m : Loc} {σ : AH}

/-! ## *-arguments -/
theorem star_list {l : Addr} {xs : List V} {s : Shared} {E : Value → Shared → Prop} {Q : List Value → Shared → Prop} (S : Sim g L m σ s.heap) (hl : σ l = some (.list xs)) (hz : xs.length ≤ 1000)
    (h : ∀ vs h', VRs xs vs → (∀ b o, s.heap.get? b = some o → h'.get? b = some o) → Q vs { s with heap := h' }) : StarOf (model prog w) A E (.ref l) Q s := by
  obtain ⟨ob, ho, items, n, rfl, rx⟩ := S.fit _ _ hl
  have hT : s.TypeIs (.ref l) "list" := ⟨_, ho, rfl⟩
  unfold StarOf notIterableAtAll
  exact wpAny_bind (wpAny_specialOf hT PySem.F.slot_list_iter.lookup (wpAny_pure ⟨rfl, wpAny_collect_seq l (.inl rfl) ho rfl rfl (fun h' hk => h _ h' rx hk) (by rw [rx.len2]; have := sizeLine_eq; omega)⟩))

theorem Args_star {e e2 : Expr} {p : Pos} {Φ : List V → List (Str × V) → Loc → AH → Prop}
    (h : AE prog w g A env e m σ fun v m₁ σ₁ => AE prog w g A env e2 m₁ σ₁ fun u m₂ σ₂ => ∃ l xs, u = .ref l ∧ σ₂ l = some (.list xs) ∧ xs.length ≤ 1000 ∧ Φ (v :: xs) [] m₂ σ₂)
    (hs : starEach [e, .Starred e2 p] env = [(false, eval e env), (true, eval e2 env)] := by kernel_rfl!) : AEArgs prog w g A env [e, .Starred e2 p] [] m σ Φ := fun f' pos s Q E S c => by
  rw [hs]
  refine Calls.evalArgs_plain (Calls.spliced_cons (h s _ E S fun v a m₁ σ₁ h₁ tk p r S₁ T₁ => ?_))
  refine ks_spliced (p { s with heap := h₁, toks := tk } _ E S₁ fun u b m₂ σ₂ h₂ tk₂ p₂ r₂ S₂ T₂ => ?_)
  obtain ⟨l, xs, rfl, hl, hz, p₂⟩ := p₂
  obtain rfl := r₂.r
  refine star_list (s := { s with heap := h₂, toks := tk₂ }) S₂ hl hz fun vs h₃ rv hk => Calls.spliced_nil ?_
  rw [List.append_nil]
  exact c (v :: xs, []) ⟨a :: vs, []⟩ _ _ h₃ tk₂ p₂ ⟨.cons r rv, .nil⟩ (S₂.grow hk) (T₁.trans (T₂.trans (Tr.grow hk)))
theorem Args_lone {e2 : Expr} {p : Pos} {Φ : List V → List (Str × V) → Loc → AH → Prop}
    (h : AE prog w g A env e2 m σ fun u m₂ σ₂ => ∃ l xs, u = .ref l ∧ σ₂ l = some (.list xs) ∧ xs.length ≤ 1000 ∧ Φ xs [] m₂ σ₂)
    (hs : starEach [.Starred e2 p] env = [(true, eval e2 env)] := by kernel_rfl!) : AEArgs prog w g A env [.Starred e2 p] [] m σ Φ := fun f' pos s Q E S c => by
  rw [hs]
  refine ks_lone (h s _ E S fun u b m₂ σ₂ h₂ tk₂ p₂ r₂ S₂ T₂ => ?_)
  obtain ⟨l, xs, rfl, hl, hz, p₂⟩ := p₂
  obtain rfl := r₂.r
  refine star_list (s := { s with heap := h₂, toks := tk₂ }) S₂ hl hz fun vs h₃ rv hk => ?_
  exact c (xs, []) ⟨vs, []⟩ _ _ h₃ tk₂ p₂ ⟨rv, .nil⟩ (S₂.grow hk) (T₂.trans (Tr.grow hk))

/-! ## dicts with int keys -/
inductive KVR : List (Int × V) → List (Int × Value) → Prop where
  | nil : KVR [] []
  | cons {k v x m l} : VR v x → KVR m l → KVR ((k, v) :: m) ((k, x) :: l)
theorem KVR.keys {mm : List (Int × V)} {l : List (Int × Value)} (r : KVR mm l) : l.map (·.1) = mm.map (·.1) := by
  induction r with
  | nil => rfl
  | cons _ _ ih => simp [ih]
theorem KVR.length {mm : List (Int × V)} {l : List (Int × Value)} (r : KVR mm l) : l.length = mm.length := by
  induction r with
  | nil => rfl
  | cons _ _ ih => simp [ih]
theorem KVR.at {mm : List (Int × V)} {l : List (Int × Value)} (r : KVR mm l) (k : Int) : VRo (mm.lookup k) (valueAt l k) := by
  induction r with
  | nil => exact .none
  | @cons k' v x m l h _ ih =>
    unfold valueAt at ih ⊢
    by_cases e : k' = k
    · subst e
      rw [List.lookup_cons, beq_self_eq_true, List.find?_cons_of_pos (by simp)]
      exact .some h
    · rw [List.lookup_cons, beq_eq_false_iff_ne.mpr (fun z => e z.symm), List.find?_cons_of_neg (by simpa using e)]
      exact ih
noncomputable def putI (mm : List (Int × V)) (k : Int) (v : V) : List (Int × V) := if mm.any (fun kv => kv.1 = k) then mm.map (fun kv => if kv.1 = k then (kv.1, v) else kv) else mm ++ [(k, v)]
theorem KVR.put {mm : List (Int × V)} {l : List (Int × Value)} (r : KVR mm l) (k : Int) {v : V} {x : Value} (rv : VR v x) : KVR (putI mm k v) (stored l k x) := by
  have e1 : (mm.any fun kv => decide (kv.1 = k)) = (l.any fun kv => decide (kv.1 = k)) := by
    induction r with
    | nil => rfl
    | cons _ _ ih => rw [List.any_cons, List.any_cons, ih]
  unfold putI stored
  rw [e1]
  split
  · rename_i hh
    clear e1 hh
    induction r with
    | nil => exact .nil
    | @cons k' v' x' m l h _ ih =>
      simp only [List.map_cons]
      by_cases e : k' = k
      · rw [if_pos e, if_pos e]; exact .cons rv ih
      · rw [if_neg e, if_neg e]; exact .cons h ih
  · rename_i hh
    clear e1 hh
    induction r with
    | nil => exact .cons rv .nil
    | cons h _ ih => exact .cons h ih
noncomputable def outI (mm : List (Int × V)) (k : Int) : List (Int × V) := mm.filter fun kv => decide (kv.1 ≠ k)
theorem KVR.out {mm : List (Int × V)} {l : List (Int × Value)} (r : KVR mm l) (k : Int) : KVR (outI mm k) (without l k) := by
  unfold outI without
  induction r with
  | nil => exact .nil
  | @cons k' v' x' m l h _ ih =>
    by_cases e : k' = k
    · rw [List.filter_cons_of_neg (by simpa using e), List.filter_cons_of_neg (by simpa using e)]; exact ih
    · rw [List.filter_cons_of_pos (by simpa using e), List.filter_cons_of_pos (by simpa using e)]; exact .cons h ih

theorem IEs.pairs {mm : List (Int × V)} {es : List DictEntry} (r : IEs mm es) : ∃ kvs, KVR mm kvs ∧ Pairs (intKind prog w) es kvs ∧ ∀ e ∈ es, ∃ k, (intKind prog w).is k e.key = true ∧ e.hash = (intKind prog w).hash k := by
  induction r with
  | nil => exact ⟨[], .nil, .nil, by simp⟩
  | @cons k v x t m es h _ ih =>
    obtain ⟨kvs, r1, r2, r3⟩ := ih
    refine ⟨(k, x) :: kvs, .cons h r1, .cons (intKind_is prog w k t) rfl r2, fun e he => ?_⟩
    rcases List.mem_cons.mp he with rfl | he
    · exact ⟨k, intKind_is prog w k t, rfl⟩
    · exact r3 e he
theorem IEs.of {mm : List (Int × V)} {es : List DictEntry} {kvs : List (Int × Value)} (r : KVR mm kvs) (p : Pairs (intKind prog w) es kvs) (hk : ∀ e ∈ es, ∃ k, (intKind prog w).is k e.key = true ∧ e.hash = (intKind prog w).hash k) : IEs mm es := by
  induction r generalizing es with
  | nil => cases p; exact .nil
  | @cons k v x m l h _ ih =>
    cases p with
    | @cons e _ es _ h1 h2 p =>
      obtain ⟨hsh, key, val⟩ := e
      obtain ⟨t, rfl⟩ := Value.isInt_shape h1
      dsimp only at h2
      subst h2
      obtain ⟨k', e1, e2⟩ := hk _ (List.mem_cons_self ..)
      have e1 : Value.isInt k' (.int k t) = true := e1
      have ek : k = k' := by simpa [Value.isInt] using e1
      subst ek
      dsimp only at e2
      subst e2
      exact .cons h (ih p fun e he => hk e (List.mem_cons_of_mem _ he))

theorem Sim.idict {h : Heap} (S : Sim g L m σ h) {d : Addr} {mm : List (Int × V)} {ep : Nat} (e : σ d = some (.idict mm ep)) (prog : Program) (w : World) : ∃ kvs, KVR mm kvs ∧ h.DictAt (intKind prog w) d kvs ep := by
  obtain ⟨ob, ho, hx, es, hd, r, nd⟩ := S.fit _ _ e
  obtain ⟨kvs, r1, r2, r3⟩ := r.pairs (prog := prog) (w := w)
  exact ⟨kvs, r1, ob, es, ho, hx, hd, fun e he => r3 e (Array.mem_toList_iff.mpr he), r2, by rw [r1.keys]; exact nd⟩
theorem at_of {h : Heap} {d : Addr} {kvs : List (Int × Value)} {ep : Nat} {prog : Program} {w : World} (x : h.DictAt (intKind prog w) d kvs ep) : h.DictOf (intKind prog w) d kvs := let ⟨o, es, r1, r2, r3, r4⟩ := x; ⟨o, es, ep, r1, r2, r3, r4⟩
theorem idict_back {h : Heap} {d : Addr} {kvs : List (Int × Value)} {mm : List (Int × V)} (r : KVR mm kvs) (x : h.DictOf (intKind prog w) d kvs) : ∃ ob ep, h.get? d = some ob ∧ OR (.idict mm ep) ob := by
  obtain ⟨o, es, ep, r1, r2, r3, r4, r5, r6⟩ := x
  exact ⟨o, ep, r1, r2, es, r3, IEs.of r r5 (fun e he => r4 e (Array.mem_toList_iff.mp he)), by rw [← r.keys]; exact r6⟩

theorem E_Dict0 (G : Gd K g) {pos : Pos} {Φ : V → Loc → AH → Prop} (h : ∀ a, σ a = none → (a == sysModules) = false → Φ (.ref a) m (σ.set a (.idict [] 0))) : AE prog w g A env (.Dict [] [] pos) m σ Φ := fun s Q E S c => by
  refine wpAny_Dict_empty (c _ _ _ _ _ s.toks (h _ S.fresh ?_) (.ref _) (S.alloc (o := .idict [] 0) rfl ⟨⟨rfl, rfl, rfl⟩, _, rfl, .nil, by simp⟩) (Tr.alloc S))
  exact beq_eq_false_iff_ne.mpr (Nat.ne_of_gt (modules_low (G.nolimit.keeps S.base)))

theorem sub_idict {value slice : Expr} {d : Addr} {mm : List (Int × V)} {ep : Nat} {k : Int} {v : V} {Φ : V → Loc → AH → Prop} (hd : σ d = some (.idict mm ep)) (hv : mm.lookup k = some v) (h : Φ v m σ)
    (hs : ∀ a b, subscripted slice false a b = operate [a, b] (getItem a b) := by intro _ _; kernel_rfl!) : A2 prog w g A env (subscriptTail value slice) (.ref d) (.int k) m σ Φ := fun a b r r' s Q E S c => by
  obtain rfl := r.r
  obtain ⟨t, rfl⟩ := r'.i
  obtain ⟨kvs, rk, hD⟩ := S.idict hd prog w
  have ro := rk.at k
  rw [hv] at ro
  generalize hq : valueAt kvs k = q at ro
  cases ro with
  | some rx =>
    exact tail_any (at_of hD).typeIs slot_dict_getitem.lookup (wpAny_getItem_of (intKind_is prog w k t) (at_of hD).mapOf hq (c _ _ _ _ s.heap _ h rx S (Tr.refl ..))) (hs _ _)
theorem in_idict {d : Addr} {mm : List (Int × V)} {ep : Nat} {k : Int} {Φ : V → Loc → AH → Prop} (hds : (d == sysModules) = false) (hd : σ d = some (.idict mm ep)) (h : Φ (.bool (mm.lookup k).isSome) m σ) :
    A2 prog w g A env (compareOp .In) (.int k) (.ref d) m σ Φ := fun a b r r' s Q E S c => by
  obtain ⟨t, rfl⟩ := r.i
  obtain rfl := r'.r
  obtain ⟨kvs, rk, hD⟩ := S.idict hd prog w
  refine wpAny_in_of (intKind_is prog w k t) hds (at_of hD).mapOf (c _ _ _ _ s.heap _ h ?_ S (Tr.refl ..))
  have ro := rk.at k
  generalize valueAt kvs k = q at ro
  generalize mm.lookup k = q' at ro
  cases ro <;> exact .bool _
theorem callee_dict {o : Expr} {name : Str} {id : String} {d : Addr} {mm : List (Int × V)} {ep : Nat} {Φ : V → List V → Loc → AH → Prop} (hd : σ d = some (.idict mm ep)) (slot : Slot "dict" name id) (hty : typeOf (.builtin id) = pure (.type "method_descriptor"))
    (h : Φ (.blt id) [.ref d] m σ) : ACallee prog w g A env true o name (.ref d) m σ Φ := fun a r s Q E S c => by
  obtain rfl := r.r
  obtain ⟨kvs, rk, hD⟩ := S.idict hd prog w
  exact getMethod_builtin (at_of hD).typeIs F.plainAttrs_dict slot hty (at_of hD).mapOf.noDict (c (.blt id, [.ref d]) _ _ _ s.heap s.toks h ⟨.blt _, .cons (.ref _) .nil⟩ S (Tr.refl ..))
theorem call_dict_get {d : Addr} {mm : List (Int × V)} {ep : Nat} {k : Int} {Φ : V → Loc → AH → Prop} (hds : (d == sysModules) = false) (hd : σ d = some (.idict mm ep)) (h : Φ ((mm.lookup k).getD .none) m σ) :
    ACall prog w g A L (.blt "dict.get") [.ref d, .int k] [] m σ Φ := by
  intro f' pos' kw' r rs rk
  obtain rfl := r.f
  obtain rfl := rk.n
  obtain ⟨_, _, rfl, r1, rs⟩ := rs.c
  obtain ⟨_, _, rfl, r2, rs⟩ := rs.c
  obtain rfl := rs.n
  obtain rfl := r1.r
  obtain ⟨t, rfl⟩ := r2.i
  refine ⟨keeper_blt, fun s Q E S c => ?_⟩
  obtain ⟨kvs, rk, hD⟩ := S.idict hd prog w
  refine call_meetsIn F.slot_dict_get (at_of hD).typeIs F.entry_dict_get (F.args_dict_get_2 _ _) (meets_dict_get (intKind prog w) d (intKind_is prog w k t) hds) ⟨_, (at_of hD).mapOf, c _ _ _ _ s.heap _ h ?_ S (Tr.refl ..)⟩
  have ro := rk.at k
  generalize valueAt kvs k = q at ro
  generalize mm.lookup k = q' at ro
  cases ro with
  | none => exact .none
  | some r => exact r

/-- an item stored -/
theorem asg_sub {o i : Expr} {pos : Pos} {v : V} {Φ : Loc → AH → Prop} (h : AE prog w g A env o m σ fun ov m₁ σ₁ => AE prog w g A env i m₁ σ₁ fun iv m₂ σ₂ => ∃ d mm ep k, ov = .ref d ∧ iv = .int k ∧ σ₂ d = some (.idict mm ep) ∧ mm.length ≤ 1000 ∧ ∀ ep', Φ m₂ (σ₂.set d (.idict (putI mm k v) ep'))) :
    AAsg prog w g A env (.Subscript o i pos) v m σ Φ := fun a r s Q E S c => by
  rw [assign_Subscript]
  refine wpAny_bind (wpAny_holding (h s _ E S fun ov x m₁ σ₁ h₁ tk p rx S₁ T₁ => ?_))
  refine wpAny_bind (wpAny_holding (p { s with heap := h₁, toks := tk } _ E S₁ fun iv y m₂ σ₂ h₂ tk₂ p₂ ry S₂ T₂ => ?_))
  obtain ⟨d, mm, ep, k, rfl, rfl, hd, hz, p₂⟩ := p₂
  obtain rfl := rx.r
  obtain ⟨t, rfl⟩ := ry.i
  obtain ⟨kvs, rk, hD⟩ := S₂.idict hd prog w
  refine wpAny_bind (wpAny_standAt (wpAny_bind (wpAny_holding (wpAny_setItem_pairs (s := { s with heap := h₂, toks := tk₂ }) (intKind_is prog w k t) (at_of hD) (fun h₃ hD₃ hs₃ => wpAny_release ?_) (by rw [rk.length]; have := sizeLine_eq; omega)))))
  obtain ⟨ob, ep', ho, hr⟩ := idict_back (rk.put k r) hD₃
  exact c () () _ _ h₃ _ (p₂ ep') trivial (S₂.upd hd hs₃ ho hr) (T₁.trans (T₂.trans (Tr.upd hd hs₃)))

theorem X_Assign1 {target value : Expr} {pos : Pos} {Φ : F → Loc → AH → Prop} (h : AE prog w g A env value m σ fun v m₁ σ₁ => AAsg prog w g A env target v m₁ σ₁ fun m₂ σ₂ => Φ .next m₂ σ₂)
    (he : exec (.Assign [target] value pos) env = (do standAt pos; let v ← eval value env; assign target env v; pure .next)) : AX prog w g A env (.Assign [target] value pos) m σ Φ := fun s Q E S c => by
  rw [he]
  refine wpAny_bind (wpAny_standAt (wpAny_bind (h s _ E S fun v a m₁ σ₁ h₁ tk p r S₁ T₁ => wpAny_bind ?_)))
  exact p a r { s with heap := h₁, toks := tk } _ E S₁ fun _ _ m₂ σ₂ h₂ tk₂ p₂ _ S₂ T₂ => wpAny_pure (c _ _ _ _ h₂ tk₂ p₂ .next S₂ (T₁.trans T₂))
theorem X_AssignSub {o i value : Expr} {pos' pos : Pos} {Φ : F → Loc → AH → Prop} (h : AE prog w g A env value m σ fun v m₁ σ₁ => AAsg prog w g A env (.Subscript o i pos') v m₁ σ₁ fun m₂ σ₂ => Φ .next m₂ σ₂)
    (hs : swapsWith value (some (.Subscript o i pos')) pos.line env = pure false := by kernel_rfl!) : AX prog w g A env (.Assign [.Subscript o i pos'] value pos) m σ Φ := X_Assign1 h (exec_Assign_Subscript _ _ _ _ _ hs)
theorem X_Assign2 {t1 t2 value : Expr} {pos : Pos} {Φ : F → Loc → AH → Prop} (h : AE prog w g A env value m σ fun v m₁ σ₁ => AAsg prog w g A env t1 v m₁ σ₁ fun m₂ σ₂ => AAsg prog w g A env t2 v m₂ σ₂ fun m₃ σ₃ => Φ .next m₃ σ₃)
    (he : exec (.Assign [t1, t2] value pos) env = (do
      standAt pos
      let v ← eval value env
      holding [v] (assign t1 env v)
      assign t2 env v
      pure .next) := by kernel_rfl!) : AX prog w g A env (.Assign [t1, t2] value pos) m σ Φ := fun s Q E S c => by
  rw [he]
  refine wpAny_bind (wpAny_standAt (wpAny_bind (h s _ E S fun v a m₁ σ₁ h₁ tk p r S₁ T₁ => wpAny_bind (wpAny_holding ?_))))
  refine p a r { s with heap := h₁, toks := tk } _ E S₁ fun _ _ m₂ σ₂ h₂ tk₂ p₂ _ S₂ T₂ => wpAny_bind ?_
  exact p₂ a r { s with heap := h₂, toks := tk₂ } _ E S₂ fun _ _ m₃ σ₃ h₃ tk₃ p₃ _ S₃ T₃ => wpAny_pure (c _ _ _ _ h₃ tk₃ p₃ .next S₃ (T₁.trans (T₂.trans T₃)))
theorem E_Named {target value : Expr} {pos : Pos} {Φ : V → Loc → AH → Prop} (h : AE prog w g A env value m σ fun v m₁ σ₁ => AAsg prog w g A env target v m₁ σ₁ fun m₂ σ₂ => Φ v m₂ σ₂) : AE prog w g A env (.NamedExpr target value pos) m σ Φ := fun s Q E S c => by
  rw [arm_eval_NamedExpr]
  refine wpAny_bind (h s _ E S fun v a m₁ σ₁ h₁ tk p r S₁ T₁ => wpAny_bind (wpAny_holding ?_))
  exact p a r { s with heap := h₁, toks := tk } _ E S₁ fun _ _ m₂ σ₂ h₂ tk₂ p₂ _ S₂ T₂ => wpAny_pure (c _ _ _ _ h₂ tk₂ p₂ r S₂ (T₁.trans T₂))

/-! ## walks over a dict -/
theorem iter_dict (hA : A.handled = none) {d : Addr} {mm : List (Int × V)} {ep : Nat} (hds : (d == sysModules) = false) : AIter prog w g A (.ref d) (ivs (mm.map (·.1))) (fun σ => σ d = some (.idict mm ep)) := by
  intro L m σ a r hD s Q E S c
  obtain rfl := r.r
  obtain ⟨kvs, rk, hd⟩ := S.idict hD prog w
  have hne : d ≠ s.heap.objs.size := Nat.ne_of_lt (S.lt hD)
  refine wpAny_pyIter_dict hds hd ?_
  have hlen : (ivs (mm.map (·.1))).length = kvs.length := by rw [ivs_length, List.length_map, rk.length]
  refine c s.heap.objs.size _ s.toks (fun i h => h.IsKeyIter s.heap.objs.size d i kvs.length ep) ?_ ⟨_, Heap.get?_push_size _ rfl, rfl, rfl⟩ (size_none _) (fun b o e => Heap.get?_push_of_some _ e)
  generalize s.heap.objs.size = I at hne
  refine ⟨fun i h h' st k => let ⟨o, ho, r⟩ := st; ⟨o, k _ ho, r⟩, fun i h st => let ⟨o, ho, _⟩ := st; ⟨o, ho⟩, ?_, ?_, fun i s Q E st q => wpAny_pyIter_keyiter st q⟩
  · intro i x L m σ s Q E hx st S hD _ _ c
    obtain ⟨kvs', rk', hd'⟩ := S.idict hD prog w
    have hl' : kvs.length = kvs'.length := by rw [rk.length, rk'.length]
    rw [hl'] at st
    obtain ⟨k, hk, rfl⟩ := ivs_at hx
    have hki : (kvs'.map (·.1))[i]? = some k := by rw [rk'.keys]; exact hk
    rw [List.getElem?_map] at hki
    obtain ⟨⟨k', v'⟩, hkv, rfl⟩ := Option.map_eq_some_iff.mp hki
    refine wpAny_pyNext_dict_item st hd' hkv fun key h' hkey hit' hs' => ?_
    obtain ⟨t, rfl⟩ := Value.isInt_shape hkey
    exact c _ h' s.toks (.int ..) (by rw [hl']; exact hit') fun b o hb e => (hs'.2 b hb).trans e
  · intro L m σ s Q E st S hD _ _ c
    obtain ⟨kvs', rk', hd'⟩ := S.idict hD prog w
    have hl' : kvs.length = kvs'.length := by rw [rk.length, rk'.length]
    rw [hlen, hl'] at st
    exact wpAny_pyNext_dict_end hA st hd' (by simp) fun h' he' => c h' s.toks fun b o hb e => he' b o hb e

theorem call_dict_values {d : Addr} {mm : List (Int × V)} {ep : Nat} {Φ : V → Loc → AH → Prop} (hds : (d == sysModules) = false) (hd : σ d = some (.idict mm ep)) (h : ∀ a, σ a = none → Φ (.ref a) m (σ.set a (.raw { cls := .type "dict_values", data := .fields #[.ref d] }))) :
    ACall prog w g A L (.blt "dict.values") [.ref d] [] m σ Φ := by
  intro f' pos' kw' r rs rk
  obtain rfl := r.f
  obtain rfl := rk.n
  obtain ⟨_, _, rfl, r1, rs⟩ := rs.c
  obtain rfl := rs.n
  obtain rfl := r1.r
  refine ⟨keeper_blt, fun s Q E S c => ?_⟩
  obtain ⟨kvs, rk, hD⟩ := S.idict hd prog w
  exact call_meetsIn F.slot_dict_values (at_of hD).typeIs F.entry_dict_values (F.args_dict_values_1 _) (meets_dict_values (intKind prog w) d hds) ⟨⟨_, at_of hD⟩, c _ _ _ _ _ s.toks (h _ S.fresh) (.ref _) (S.alloc (o := .raw { cls := .type "dict_values", data := .fields #[.ref d] }) rfl rfl) (Tr.alloc S)⟩
theorem iter_values (hA : A.handled = none) {u d : Addr} {mm : List (Int × V)} {ep : Nat} : AIter prog w g A (.ref u) (mm.map (·.2)) (fun σ => σ u = some (.raw { cls := .type "dict_values", data := .fields #[.ref d] }) ∧ σ d = some (.idict mm ep)) := by
  intro L m σ a r hD s Q E S c
  obtain rfl := r.r
  obtain ⟨kvs, rk, hd⟩ := S.idict hD.2 prog w
  obtain ⟨ou, hou, rfl⟩ := S.fit _ _ hD.1
  refine wpAny_pyIter_values ⟨_, hou, rfl, rfl⟩ hd ?_
  have hlen : (mm.map (·.2)).length = kvs.length := by rw [List.length_map, rk.length]
  refine c s.heap.objs.size _ s.toks (fun i h => h.IsValIter s.heap.objs.size d i kvs.length ep) ?_ ⟨_, Heap.get?_push_size _ rfl, rfl, rfl⟩ (size_none _) (fun b o e => Heap.get?_push_of_some _ e)
  generalize s.heap.objs.size = I
  refine ⟨fun i h h' st k => let ⟨o, ho, r⟩ := st; ⟨o, k _ ho, r⟩, fun i h st => let ⟨o, ho, _⟩ := st; ⟨o, ho⟩, ?_, ?_, fun i s Q E st q => wpAny_pyIter_valiter st q⟩
  · intro i x L m σ s Q E hx st S hD _ _ c
    obtain ⟨kvs', rk', hd'⟩ := S.idict hD.2 prog w
    have hl' : kvs.length = kvs'.length := by rw [rk.length, rk'.length]
    rw [hl'] at st
    have key : ∀ {mm : List (Int × V)} {l : List (Int × Value)} (r : KVR mm l) {i : Nat} {x : V}, (mm.map (·.2))[i]? = some x → ∃ k y, l[i]? = some (k, y) ∧ VR x y := by
      intro mm l r
      induction r with
      | nil => intro i x e; simp at e
      | cons h _ ih =>
        intro i x e
        cases i with
        | zero => simp at e; subst e; exact ⟨_, _, rfl, h⟩
        | succ i => simp at e; simpa using ih (i := i) (x := x) (by simpa using e)
    obtain ⟨k, y, hy, ry⟩ := key rk' hx
    exact wpAny_pyNext_values_item st hd' hy fun h' hit' hs' => c y h' s.toks ry (by rw [hl']; exact hit') fun b o hb e => (hs'.2 b hb).trans e
  · intro L m σ s Q E st S hD _ _ c
    obtain ⟨kvs', rk', hd'⟩ := S.idict hD.2 prog w
    have hl' : kvs.length = kvs'.length := by rw [rk.length, rk'.length]
    rw [hlen, hl'] at st
    exact wpAny_pyNext_values_end hA st hd' (by simp) fun h' he' => c h' s.toks fun b o hb e => he' b o hb e
end
end Mine

namespace Mine
open PySem PySem.W PyProof.Rows

theorem slot_li_ga : Slot "list_iterator" "__getattribute__" "object.__getattribute__" :=
  .of (owner := "object") (n := "__getattribute__") (by rw [typeLookup_type, builtinLookup_eq_fast]; kernel_rfl) (by decide +kernel) (by decide +kernel) (by decide +kernel)
    (by first | exact .inl (by decide +kernel) | exact .inr (by decide +kernel)) (by rw [isSubtype_type]; kernel_rfl)
theorem entry_li_ga : entryFor table "object.__getattribute__" = some Builtin.«object.__getattribute__» := entryFor_of_tree (by kernel_rfl)
theorem args_li_ga (a b : Value) : argsOk "object.__getattribute__" ⟨[a, b], []⟩ := by unfold argsOk; kernel_rfl
theorem type_li_next : typeOf (.builtin "list_iterator.__next__") = pure (.type "wrapper_descriptor") := by show builtinType _ = _; rw [builtinType_eq_fast]; kernel_rfl
theorem slot_wd_get : Slot "wrapper_descriptor" "__get__" "wrapper_descriptor.__get__" :=
  .of (owner := "wrapper_descriptor") (n := "__get__") (by rw [typeLookup_type, builtinLookup_eq_fast]; kernel_rfl) (by decide +kernel) (by decide +kernel) (by decide +kernel)
    (by first | exact .inl (by decide +kernel) | exact .inr (by decide +kernel)) (by rw [isSubtype_type]; kernel_rfl)
theorem noset_wd : typeLookup (.type "wrapper_descriptor") "__set__" = pure none := by rw [typeLookup_type, builtinLookup_eq_fast]; kernel_rfl
theorem nodel_wd : typeLookup (.type "wrapper_descriptor") "__delete__" = pure none := by rw [typeLookup_type, builtinLookup_eq_fast]; kernel_rfl
theorem entry_wd_get : entryFor table "wrapper_descriptor.__get__" = some Builtin.«wrapper_descriptor.__get__» := entryFor_of_tree (by kernel_rfl)
theorem args_wd_get (a b c : Value) : argsOk "wrapper_descriptor.__get__" ⟨[a, b, c], []⟩ := by unfold argsOk; kernel_rfl
theorem owner_li : isSubtype (.type "list_iterator") (.type (".".intercalate ("list_iterator.__next__".cutAt '.').dropLast)) = pure true := by
  have : ".".intercalate ("list_iterator.__next__".cutAt '.').dropLast = "list_iterator" := by decide +kernel
  rw [this, isSubtype_type]; kernel_rfl
noncomputable abbrev wrapObj (it : Addr) : Obj := { cls := .type "method-wrapper", data := .fields #[.builtin "list_iterator.__next__", .ref it] }
section
variable {prog : Program} {w : World} {A : Around} {E : Value → Shared → Prop} {h : Heap} {g : Array GenState} {d : Drawn} {t : Nat} {os : OsState} {a : Addr} {o : Obj}
theorem wrap_get {R : Result → Shared → Prop} {tp : Value} (htp : (tp == Value.none) = false) (hx : h.get? a = some o) (hc : o.cls = .type "list_iterator") (hq : R (.ok (.ret (.ref h.objs.size))) ⟨h.push (wrapObj a), g, d, t, os⟩) :
    codeAny (model prog w) A (.call (.builtin "wrapper_descriptor.__get__") ⟨[.builtin "list_iterator.__next__", .ref a, tp], []⟩) R ⟨h, g, d, t, os⟩ := by
  have hT : (⟨h, g, d, t, os⟩ : Shared).TypeIs (.ref a) "list_iterator" := ⟨_, hx, hc⟩
  have hT5 : (⟨h, g, d, t, os⟩ : Shared).TypeIs (.builtin "list_iterator.__next__") "wrapper_descriptor" := type_li_next
  have f8 := owner_li
  refine codeAny_call_builtin slot_wd_get.plain entry_wd_get (slot_wd_get.check _ _ _ _ _ _ _ _ hT5 (args_wd_get _ _ _) ?_)
  repeat (any_goals (first | assumption | wp_step))

theorem wrap_entry {tk : Tok} {Q : Fin → Shared → Prop} (hx : h.get? a = some o) (hc : o.cls = .type "list_iterator") (hd : o.dict = none) (hnc : ∃ vs, o.data = .fields vs) (hq : Q (.done (.ret (.ref h.objs.size))) ⟨h.push (wrapObj a), g, d, t, os⟩) :
    wpAny (model prog w) A (Builtin.«object.__getattribute__» ⟨[.ref a, .str "__next__" tk], []⟩) Q E ⟨h, g, d, t, os⟩ := by
  have hT : (⟨h, g, d, t, os⟩ : Shared).TypeIs (.ref a) "list_iterator" := ⟨_, hx, hc⟩
  have hT5 : (⟨h, g, d, t, os⟩ : Shared).TypeIs (.builtin "list_iterator.__next__") "wrapper_descriptor" := type_li_next
  have f4 := slot_listiter_next.lookup
  have f5 := type_li_next
  have f6 := slot_wd_get.lookup
  have f7 := noset_wd
  have f8 := nodel_wd
  obtain ⟨vs, hnc⟩ := hnc
  obtain ⟨oc, odd, oda, osl⟩ := o
  dsimp only at hc hd hnc
  subst hc hd hnc
  repeat (any_goals (first | assumption | wp_step))
  refine wrap_get rfl hx rfl ?_
  repeat (any_goals (first | assumption | wp_step))

theorem wrap_by {tk : Tok} {Q : Value → Shared → Prop} {b1 b2 : Bool} (hx : h.get? a = some o) (hc : o.cls = .type "list_iterator") (hd : o.dict = none) (hnc : ∃ vs, o.data = .fields vs) (hq : Q (.ref h.objs.size) ⟨h.push (wrapObj a), g, d, t, os⟩) :
    wpAny (model prog w) A (getAttrBy (.ref a) (.str "__next__" tk) b1 b2) Q E ⟨h, g, d, t, os⟩ := by
  have hT : (⟨h, g, d, t, os⟩ : Shared).TypeIs (.ref a) "list_iterator" := ⟨_, hx, hc⟩
  have f2 := slot_li_ga.lookup
  have f3 := slot_li_ga.bind (.ref a)
  repeat (any_goals (first | assumption | wp_step))
  rw [if_neg (by cases b2 <;> decide)]
  repeat (any_goals (first | assumption | wp_step))
  refine codeAny_call_builtin slot_li_ga.plain entry_li_ga (slot_li_ga.check _ _ _ _ _ _ _ _ hT (args_li_ga _ _) (wrap_entry hx hc hd hnc ?_))
  repeat (any_goals (first | assumption | wp_step))

theorem wrap_attr {s : Shared} {Q : Value → Shared → Prop} {b2 : Bool} (hx : s.heap.get? a = some o) (hc : o.cls = .type "list_iterator") (hd : o.dict = none) (hnc : ∃ vs, o.data = .fields vs) (hq : Q (.ref s.heap.objs.size) { s with heap := s.heap.push (wrapObj a), toks := s.toks + 1 }) :
    wpAny (model prog w) A (getAttr (.ref a) "__next__" b2) Q E s := by
  obtain ⟨h, g, d, t, os⟩ := s
  unfold getAttr
  exact wpAny_bind (wpAny_mkText (wrap_by hx hc hd hnc hq))

theorem next_bound {R : Result → Shared → Prop} {s : Shared} {q it : Addr} (hq : s.heap.get? q = some (wrapObj it))
    (h : wpAny (model prog w) A.in1 (Builtin.«list_iterator.__next__» ⟨[.ref it], []⟩) (fun fin s' => match fin with | .done f => R (.ok f) s' | .again c' => c'.quiet = true ∧ codeAny (model prog w) A c' R s') (fun e s' => R (.error e) s') s) :
    codeAny (model prog w) A (.call (.ref q) ⟨[], []⟩) R s := by
  obtain ⟨hh, g, d, t, os⟩ := s
  refine codeAny_of_tree ?_
  show wpAny _ _ (callAny (.ref q) _) _ _ _
  refine nd_load hq ?_
  repeat (any_goals (first | assumption | wp_step))
  refine ⟨Code.quiet_builtin _ (by decide +kernel), codeAny_builtin entry_listiter_next ?_⟩
  rw [Around.under_plainId slot_listiter_next.plain _]
  exact h

theorem next_item {s : Shared} {it l : Addr} {i : Nat} {items : Array Value} {x : Value} {Q : Fin → Shared → Prop} (hit : s.heap.IsListIter it l i) (hl : s.heap.IsList l items) (hx : items[i]? = some x)
    (hQ : ∀ h', h'.IsListIter it l (i + 1) → Heap.SameBut it s.heap h' → Q (.done (.ret x)) { s with heap := h' }) : wpAny (model prog w) A (Builtin.«list_iterator.__next__» ⟨[.ref it], []⟩) Q E s := by
  obtain ⟨o, ho, hc, hd⟩ := id hit
  obtain ⟨ol, hol, _, nl, hdl⟩ := hl
  show wpAny _ _ (field (.ref it) 0 >>= _) _ _ s
  refine wpAny_bind (wpAny_field ho hd (x := .ref l) rfl ?_)
  show wpAny _ _ (if (Value.ref l == Value.none) = true then _ else _) _ _ s
  rw [if_neg (show ¬ ((Value.ref l == Value.none) = true) from Bool.false_ne_true)]
  show wpAny _ _ (field (.ref it) 1 >>= _) _ _ s
  refine wpAny_bind (wpAny_field ho hd (x := .int i 0) rfl ?_)
  show wpAny _ _ (seqItems? (.ref l) >>= _) _ _ s
  refine wpAny_bind (wpAny_seqItems hol hdl ?_)
  simp only [Int.toNat_natCast, hx]
  refine wpAny_bind (wpAny_setField ho hd (by simp) (wpAny_pure (hQ _ ?_ (Heap.SameBut.update ..))))
  exact ⟨_, Heap.get?_update_self _ ho (Obj.isFreed_of_fields (Obj.data_mapFields hd _)), (Obj.cls_mapFields ..).trans hc, by
    rw [Obj.data_mapFields hd]; simp [rawInt]⟩

/-- at its end the iterator lets its list go, and raises -/
theorem next_end {s : Shared} {it l : Addr} {i : Nat} {items : Array Value} {Q : Fin → Shared → Prop} (hh : A.handled = none) (hit : s.heap.IsListIter it l i) (hl : s.heap.IsList l items) (hx : items[i]? = none)
    (hE : ∀ h' e oe vs, Heap.ExtBut it s.heap h' → s.heap.get? e = none → h'.get? e = some oe → oe.cls = .type "StopIteration" → oe.data = .fields vs → vs[1]? = some .none → E (.ref e) { s with heap := h' }) :
    wpAny (model prog w) A (Builtin.«list_iterator.__next__» ⟨[.ref it], []⟩) Q E s := by
  obtain ⟨o, ho, hc, hd⟩ := id hit
  obtain ⟨ol, hol, _, nl, hdl⟩ := hl
  show wpAny _ _ (field (.ref it) 0 >>= _) _ _ s
  refine wpAny_bind (wpAny_field ho hd (x := .ref l) rfl ?_)
  show wpAny _ _ (if (Value.ref l == Value.none) = true then _ else _) _ _ s
  rw [if_neg (show ¬ ((Value.ref l == Value.none) = true) from Bool.false_ne_true)]
  show wpAny _ _ (field (.ref it) 1 >>= _) _ _ s
  refine wpAny_bind (wpAny_field ho hd (x := .int i 0) rfl ?_)
  show wpAny _ _ (seqItems? (.ref l) >>= _) _ _ s
  refine wpAny_bind (wpAny_seqItems hol hdl ?_)
  simp only [Int.toNat_natCast, hx]
  refine wpAny_bind (wpAny_rule (wpAny_bind (wpAny_setField ho hd (by simp) ?_)))
  show wpAny _ _ (newExc (.type "StopIteration") [] >>= _) _ _ _
  refine wpAny_bind ?_
  simp only [newExc, newTuple]
  refine wpAny_bind (wpAny_newObj_type ?_ (by size_fits))
  refine wpAny_bind (m := firstArgMember _ _) (wpAny_of_eq (a := Value.none) (by first | rfl | (simp only [firstArgMember]; rfl)) ?_)
  refine wpAny_newObj_type ?_ (by size_fits)
  simp only [raiseNew]
  refine wpAny_bind (wpAny_handled ?_)
  rw [hh]
  refine wpAny_bind (wpAny_pure (wpAny_throw ?_))
  refine hE _ _ _ _ (((Heap.SameBut.update ..).extBut.push _).push _) ?_ (Heap.get?_push_size _ rfl) rfl rfl rfl
  cases q : s.heap.get? _ with
  | none => rfl
  | some o' => exact absurd (Heap.lt_size q) (by rw [Heap.size_push, Heap.size_update]; exact Nat.not_lt.mpr (Nat.le_succ _))
end
end Mine

namespace Mine
open PySem PySem.W PyProof.Rows

noncomputable def AH.del (σ : AH) (a : Addr) : AH := fun b => if b = a then none else σ b
theorem AH.del_sub (σ : AH) (a : Addr) : Sub (σ.del a) σ := fun b o e => by unfold AH.del at e; split at e; cases e; exact e
theorem AH.del_ne {σ : AH} {a b : Addr} (h : b ≠ a) : σ.del a b = σ b := if_neg h

noncomputable abbrev iterObj (l : Addr) (i : Nat) : Obj := { cls := .type "list_iterator", data := .fields #[.ref l, .int i 0] }

section
variable {prog : Program} {w : World} {K : Frag} {g : Heap} {A : Around} {env : Env} {L : Addr} {m : Loc} {σ : AH}

theorem call_iter {l : Addr} {xs : List V} {Φ : V → Loc → AH → Prop} (hl : σ l = some (.list xs)) (h : ∀ it, σ it = none → Φ (.ref it) m (σ.set it (.raw (iterObj l 0)))) : ACall prog w g A L (.blt "iter") [.ref l] [] m σ Φ := by
  intro f' pos' kw' r rs rk
  obtain rfl := r.f
  obtain rfl := rk.n
  obtain ⟨_, _, rfl, r1, rs⟩ := rs.c
  obtain rfl := rs.n
  obtain rfl := r1.r
  refine ⟨keeper_blt, fun s Q E S c => ?_⟩
  obtain ⟨items, hi, _⟩ := S.list hl
  refine Calls.call_function_entry (by decide +kernel) (by decide +kernel) kdk_entry_iter (kdk_args_iter _) ?_
  unfold Builtin.«iter»
  refine wpAny_bind (m := someArgs "iter" 1 2 _) (wpAny_of_eq (a := [Value.ref l]) (by first | rfl | kernel_rfl!) ?_)
  show wpAny _ _ (pyIter (.ref l) >>= _) _ _ _
  refine wpAny_bind (wpAny_pyIter_list hi ?_)
  exact wpAny_pure ⟨_, rfl, c _ _ _ _ _ s.toks (h _ S.fresh) (.ref _) (S.alloc (o := .raw (iterObj l 0)) rfl rfl) (Tr.alloc S)⟩

theorem get_next {it l : Addr} {Φ : V → Loc → AH → Prop} (hi : σ it = some (.raw (iterObj l 0))) (h : ∀ q, σ q = none → Φ (.ref q) m ((σ.set it (.iter l 0)).set q (.raw (wrapObj it)))) : AGet prog w g A L (.ref it) "__next__" m σ Φ := fun a r s Q E S c => by
  obtain rfl := r.r
  obtain ⟨ob, ho, rfl⟩ := S.fit _ _ hi
  have hg := S.off it (by rw [hi]; simp)
  have S₁ : Sim g L m (σ.set it (.iter l 0)) s.heap := S.know ho ⟨rfl, rfl⟩ hg (S.ne hi)
  have T₁ : Tr L σ (σ.set it (.iter l 0)) s.heap s.heap := ⟨fun _ _ e _ _ => e, fun a e => by
    by_cases q : a = it
    · subst q; exact .inl (by rw [hi]; simp)
    · rw [AH.set_ne _ _ q] at e; exact .inl e⟩
  refine wrap_attr ho rfl rfl ⟨_, rfl⟩ (c _ _ _ _ _ _ (h s.heap.objs.size S.fresh) (.ref _) (S₁.alloc (o := .raw (wrapObj it)) rfl rfl) (T₁.trans (Tr.alloc S₁)))

theorem sub_last {value slice : Expr} {l : Addr} {xs : List V} {v : V} {Φ : V → Loc → AH → Prop} (hl : σ l = some (.list (xs ++ [v]))) (hz : xs.length ≤ 1000) (h : Φ v m σ)
    (hs : ∀ a b, subscripted slice false a b = operate [a, b] (getItem a b) := by intro _ _; kernel_rfl!) : A2 prog w g A env (subscriptTail value slice) (.ref l) (.int (-1)) m σ Φ := fun a b r r' s Q E S c => by
  obtain rfl := r.r
  obtain ⟨t, rfl⟩ := r'.i
  obtain ⟨items, hi, rs⟩ := S.list hl
  have hsz : items.size = xs.length + 1 := by rw [rs.len2]; simp
  obtain ⟨x, hx', rx⟩ := rs.get (i := xs.length) (v := v) (by simp)
  refine tail_any hi.typeIs slot_list_getitem.lookup (wpAny_getItem_list_neg hi (by decide) (by omega) (by decide) ?_ (c _ _ _ _ s.heap s.toks h rx S (Tr.refl ..))) (hs _ _)
  have : ((-1 : Int) + items.size).toNat = xs.length := by omega
  rw [this]
  simpa using hx'

theorem call_list_pop {l : Addr} {xs : List V} {v : V} {Φ : V → Loc → AH → Prop} (hl : σ l = some (.list (xs ++ [v]))) (hz : xs.length ≤ 1000) (h : Φ v m (σ.set l (.list xs))) : ACall prog w g A L (.blt "list.pop") [.ref l] [] m σ Φ := by
  intro f' pos' kw' r rs rk
  obtain rfl := r.f
  obtain rfl := rk.n
  obtain ⟨_, _, rfl, r1, rs⟩ := rs.c
  obtain rfl := rs.n
  obtain rfl := r1.r
  refine ⟨keeper_blt, fun s Q E S c => ?_⟩
  obtain ⟨items, ⟨n, hp⟩, rx⟩ := S.plist hl
  have hsz : items.size = xs.length + 1 := by rw [rx.len2]; simp
  obtain ⟨x, hx', rv⟩ := rx.get (i := xs.length) (v := v) (by simp)
  have hlast : items[items.size - 1]? = some x := by rw [hsz]; simpa using hx'
  have hs : Heap.SameBut l s.heap (s.heap.update l (Obj.mapSeq fun xs => xs.eraseIdxIfInBounds (items.size - 1))) := Heap.SameBut.update ..
  refine call_meets F.slot_list_pop ⟨_, hp, rfl⟩ F.entry_list_pop (F.args_list_pop_1 _) (MeetsSeq.list_pop_last l items n x hlast (by rw [hsz]; have := sizeLine_eq; omega)) ⟨hp, ?_⟩
  refine c _ _ _ _ _ s.toks h rv (S.upd hl hs (PySem.IsL.update hp _) ⟨_, _, rfl, ?_⟩) (Tr.upd hl hs)
  have e : (items.eraseIdxIfInBounds (items.size - 1)).toList = items.toList.take xs.length := by
    rw [hsz]
    obtain ⟨l'⟩ := items
    simp at hsz ⊢
    rw [List.eraseIdx_eq_take_drop_succ, List.drop_of_length_le (by omega), List.append_nil]
  rw [e]
  have := rx.take xs.length
  rwa [List.take_left] at this
theorem call_list_clear {l : Addr} {xs : List V} {Φ : V → Loc → AH → Prop} (hl : σ l = some (.list xs)) (hz : xs.length ≤ 1000) (h : Φ .none m (σ.set l (.list []))) : ACall prog w g A L (.blt "list.clear") [.ref l] [] m σ Φ := by
  intro f' pos' kw' r rs rk
  obtain rfl := r.f
  obtain rfl := rk.n
  obtain ⟨_, _, rfl, r1, rs⟩ := rs.c
  obtain rfl := rs.n
  obtain rfl := r1.r
  refine ⟨keeper_blt, fun s Q E S c => ?_⟩
  obtain ⟨items, ⟨n, hp⟩, rx⟩ := S.plist hl
  have hs : Heap.SameBut l s.heap (s.heap.update l (Obj.mapSeq fun _ => #[])) := Heap.SameBut.update ..
  refine call_meets F.slot_list_clear ⟨_, hp, rfl⟩ F.entry_list_clear (F.args_list_clear_1 _) (AutoSeq1.list_clear_list_0 l items n (by rw [rx.len2]; have := sizeLine_eq; omega)) ⟨hp, ?_⟩
  exact c _ _ _ _ _ s.toks h .none (S.upd hl hs (PySem.IsL.update hp _) ⟨_, _, rfl, .nil⟩) (Tr.upd hl hs)

/-! ## sets of ints -/
theorem call_set {Φ : V → Loc → AH → Prop} (h : ∀ a, σ a = none → Φ (.ref a) m (σ.set a (.iset []))) : ACall prog w g A L (.typ "set") [] [] m σ Φ := by
  intro f' pos' kw' r rs rk
  obtain rfl := r.t
  obtain rfl := rk.n
  obtain rfl := rs.n
  refine ⟨keeper_typ, fun s Q E S c => call_set_0 fun led => ?_⟩
  refine c _ _ _ _ _ s.toks (h _ S.fresh) (.ref _) (S.alloc (o := .iset []) rfl ⟨⟨rfl, rfl, rfl⟩, _, _, _, rfl, by simp, by simp, by decide +kernel, ?_, by simp⟩) (Tr.alloc S)
  cases led <;> rfl
theorem Sim.iset {h : Heap} (S : Sim g L m σ h) {a : Addr} {xs : List Int} (e : σ a = some (.iset xs)) (prog : Program) (w : World) : ∃ n, n ≤ xs.length ∧ h.SetOf (intKind prog w) a (fun k => decide (k ∈ xs)) n := by
  obtain ⟨ob, ho, hx, es, ep, t, hd, h1, h2, h3, h4, h5⟩ := S.fit _ _ e
  refine ⟨es.size, h5, ob, es, ep, t, ho, hx, hd, fun e he => ?_, fun k => ?_, h3, h4, rfl⟩
  · obtain ⟨k, u, rfl⟩ := h1 e he
    exact ⟨⟨k, intKind_is prog w k u, rfl⟩, rfl⟩
  · rw [decide_eq_true_iff]; exact h2 k
theorem in_iset {a : Addr} {xs : List Int} {k : Int} {Φ : V → Loc → AH → Prop} (ha : σ a = some (.iset xs)) (h : Φ (.bool (decide (k ∈ xs))) m σ) : A2 prog w g A env (compareOp .In) (.int k) (.ref a) m σ Φ := fun x y r r' s Q E S c => by
  obtain ⟨t, rfl⟩ := r.i
  obtain rfl := r'.r
  obtain ⟨n, _, hS⟩ := S.iset ha prog w
  exact wpAny_inSet_of (intKind_is prog w k t) rfl hS (c _ _ _ _ s.heap _ h (.bool _) S (Tr.refl ..))
theorem callee_add {o : Expr} {a : Addr} {xs : List Int} {Φ : V → List V → Loc → AH → Prop} (ha : σ a = some (.iset xs)) (h : Φ (.blt "set.add") [.ref a] m σ) : ACallee prog w g A env true o "add" (.ref a) m σ Φ := fun x r s Q E S c => by
  obtain rfl := r.r
  obtain ⟨n, _, hS⟩ := S.iset ha prog w
  exact getMethod_set_add hS (c (.blt "set.add", [.ref a]) _ _ _ s.heap s.toks h ⟨.blt _, .cons (.ref _) .nil⟩ S (Tr.refl ..))
theorem call_add {a : Addr} {xs : List Int} {k : Int} {Φ : V → Loc → AH → Prop} (ha : σ a = some (.iset xs)) (hz : xs.length + 1 < scanBound) (h : Φ .none m (σ.set a (.iset (xs ++ [k])))) : ACall prog w g A L (.blt "set.add") [.ref a, .int k] [] m σ Φ := by
  intro f' pos' kw' r rs rk
  obtain rfl := r.f
  obtain rfl := rk.n
  obtain ⟨_, _, rfl, r1, rs⟩ := rs.c
  obtain ⟨_, _, rfl, r2, rs⟩ := rs.c
  obtain rfl := rs.n
  obtain rfl := r1.r
  obtain ⟨t, rfl⟩ := r2.i
  refine ⟨keeper_blt, fun s Q E S c => ?_⟩
  obtain ⟨n, hn, hS⟩ := S.iset ha prog w
  refine PySem.call_set_add (intKind_is prog w k t) rfl hS (by omega) fun h' hs hS' => ?_
  obtain ⟨ob, es, ep, tt, ho, hx, hd, h1, h2, h3, h4, h5⟩ := hS'
  refine c _ _ _ _ h' _ h .none (S.upd ha hs ho ⟨hx, es, ep, tt, hd, fun e he => ?_, fun k' => ?_, h3, h4, ?_⟩) (Tr.upd ha hs)
  · obtain ⟨⟨k', e1, e2⟩, _⟩ := h1 e he
    obtain ⟨u, e1⟩ := Value.isInt_shape e1
    obtain ⟨e', v'⟩ := e
    dsimp only at e1 e2
    subst e1 e2
    exact ⟨k', u, rfl⟩
  · refine Iff.trans ?_ (h2 k')
    simp
  · rw [h5]
    simp
    split <;> omega

/-! ## del -/
theorem X_DelSub {o i : Expr} {pos' pos : Pos} {Φ : F → Loc → AH → Prop}
    (h : AE prog w g A env o m σ fun ov m₁ σ₁ => AE prog w g A env i m₁ σ₁ fun iv m₂ σ₂ => ∃ d mm ep k, ov = .ref d ∧ iv = .int k ∧ σ₂ d = some (.idict mm ep) ∧ mm.length ≤ 1000 ∧ (mm.lookup k).isSome = true ∧ ∀ ep', Φ .next m₂ (σ₂.set d (.idict (outI mm k) ep'))) :
    AX prog w g A env (.Delete [.Subscript o i pos'] pos) m σ Φ := fun s Q E S c => by
  rw [arm_exec_Delete]
  refine wpAny_bind (wpAny_standAt (wpAny_bind ?_))
  show wpAny _ _ (do delete (.Subscript o i pos') env; deleteEach [] env) _ E s
  refine wpAny_bind (PyProof.Rows.delete_Subscript (h s _ E S fun ov x m₁ σ₁ h₁ tk p rx S₁ T₁ => ?_))
  refine p { s with heap := h₁, toks := tk } _ E S₁ fun iv y m₂ σ₂ h₂ tk₂ p₂ ry S₂ T₂ => ?_
  obtain ⟨d, mm, ep, k, rfl, rfl, hd, hz, hin, p₂⟩ := p₂
  obtain rfl := rx.r
  obtain ⟨t, rfl⟩ := ry.i
  obtain ⟨kvs, rk, hD⟩ := S₂.idict hd prog w
  have hD' := at_of hD
  have hin' : (valueAt kvs k).isSome = true := by
    have ro := rk.at k
    revert ro hin
    generalize mm.lookup k = q1
    generalize valueAt kvs k = q2
    intro hin ro
    cases ro with
    | none => cases hin
    | some _ => rfl
  unfold delItem
  try with_reducible refine wpAny_holding ?_
  refine wpAny_bind (wpAny_sequenceKey (s := { s with heap := h₂, toks := tk₂ }) hD'.typeIs (by decide) ?_)
  refine wpAny_bind (wpAny_callSpecial?_slot (name := Str.ofString "__delitem__") hD'.typeIs PySem.F.slot_dict_delitem
    (call_meetsIn PySem.F.slot_dict_delitem hD'.typeIs PySem.F.entry_dict_delitem (PySem.F.args_dict_delitem_2 _ _) (meets_dict_delitem_pairs (intKind prog w) d (intKind_is prog w k t)) ⟨kvs, hD', (by rw [rk.length]; have := sizeLine_eq; omega), hin', fun h₃ hD₃ hs₃ => ?_⟩))
  obtain ⟨ob, ep', ho, hr⟩ := idict_back (rk.out k) hD₃
  exact wpAny_pure (wpAny_pure (wpAny_pure (c _ _ _ _ h₃ _ (p₂ ep') .next (S₂.upd hd hs₃ ho hr) (T₁.trans (T₂.trans (Tr.upd hd hs₃))))))

/-! ## bool(list), is, len of a tuple -/
theorem is_Bool {b b' : Bool} {Φ : V → Loc → AH → Prop} (h : Φ (.bool (b == b')) m σ) : A2 prog w g A env (compareOp .Is) (.bool b) (.bool b') m σ Φ := fun x y r r' s Q E S c => by
  obtain rfl := r.b
  obtain rfl := r'.b
  exact wpAny_is_plain (by cases b' <;> rfl) (c _ _ _ _ s.heap s.toks h (by cases b <;> cases b' <;> exact .bool _) S (Tr.refl ..))
theorem isNot_Bool {b b' : Bool} {Φ : V → Loc → AH → Prop} (h : Φ (.bool (!(b == b'))) m σ) : A2 prog w g A env (compareOp .IsNot) (.bool b) (.bool b') m σ Φ := fun x y r r' s Q E S c => by
  obtain rfl := r.b
  obtain rfl := r'.b
  exact wpAny_isNot_plain (by cases b' <;> rfl) (c _ _ _ _ s.heap s.toks h (by cases b <;> cases b' <;> exact .bool _) S (Tr.refl ..))
theorem call_len_tuple {l : Addr} {xs : List V} {Φ : V → Loc → AH → Prop} (hl : σ l = some (.tuple xs)) (h : Φ (.int xs.length) m σ) (hz : xs.length < 2 ^ 63) : ACall prog w g A L (.blt "len") [.ref l] [] m σ Φ := by
  intro f' pos' kw' r rs rk
  obtain rfl := r.f
  obtain rfl := rk.n
  obtain ⟨_, _, rfl, r1, rs⟩ := rs.c
  obtain rfl := rs.n
  obtain rfl := r1.r
  refine ⟨keeper_blt, fun s Q E S c => ?_⟩
  obtain ⟨items, hi, rx⟩ := S.tuple hl
  exact len_tuple hi (by rw [rx.len2]; omega) (c _ _ _ _ s.heap _ h (by rw [rx.len2]; exact .int ..) S (Tr.refl ..))
end
end Mine

namespace Mine
open PySem PySem.W PyProof.Rows

/-- a frame that lies below: its slots may turn -/
noncomputable def frmP (c : Value) (d : Option Addr) (dt : Data) (ob : Obj) : Prop := ob.cls = c ∧ ob.dict = d ∧ ob.data = dt
noncomputable def FrOk (σ : AH) (outer : List Env) : Prop := ∀ e ∈ outer, e.scope.kind ≠ .module ∧ ∃ Lf c d es n, e.frame = some Lf ∧ σ Lf = some (.sat (frmP c d (.dict es n)))
theorem FrOk.mono {σ σ' : AH} {outer : List Env} (h : FrOk σ outer) (k : ∀ e ∈ outer, ∀ Lf c d es n, e.frame = some Lf → σ Lf = some (.sat (frmP c d (.dict es n))) → σ' Lf = some (.sat (frmP c d (.dict es n)))) : FrOk σ' outer := fun e he => by
  obtain ⟨h1, Lf, c, d, es, n, h2, h3⟩ := h e he
  exact ⟨h1, Lf, c, d, es, n, h2, k e he _ _ _ _ _ h2 h3⟩
theorem FrOk.sub {σ σ' : AH} {outer : List Env} (h : FrOk σ outer) (k : Sub σ σ') : FrOk σ' outer := h.mono fun _ _ _ _ _ _ _ _ e => k _ _ e

theorem excStop : isSubtype (.type "StopIteration") (.type "BaseException") = pure true := by rw [isSubtype_type]; kernel_rfl
theorem tupStop : isSubtype (.type ((Manifest.find? "StopIteration").elim "type" fun x => x.metatype)) (.type "tuple") = pure false := by
  have : ((Manifest.find? "StopIteration").elim "type" fun x => x.metatype) = "type" := by decide +kernel
  rw [this, isSubtype_type]; kernel_rfl
theorem boot_stop : bootBuiltins "StopIteration" = some (.type "StopIteration") := by decide +kernel

section
variable {prog : Program} {w : World} {K : Frag} {g : Heap} {A : Around} {env : Env} {m : Loc} {σ : AH}

theorem X_TryNext (G : Gd K g) {x : Str} {px cpos apos bpos p hpos pos : Pos} {fexpr : Expr} {b₀ : Stmt} {suite : List Stmt} {outer : List Env} {Φ : F → Loc → AH → Prop}
    (hA : A.handled = none) (hfr : A.frames = some (env :: outer)) (hfe : env.frame = some env.locals)
    (h : AE prog w g A env fexpr m σ fun f m₁ σ₁ => ∃ q it l i xs, f = .ref q ∧ σ₁ q = some (.raw (wrapObj it)) ∧ σ₁ it = some (.iter l i) ∧ σ₁ l = some (.list xs) ∧ FrOk σ₁ outer ∧
      (∀ v, xs[i]? = some v → Φ .brk (m₁.set x v) (σ₁.set it (.iter l (i + 1)))) ∧ (xs[i]? = none → ∀ e, AXs prog w g (A.mark (some (.ref e))) env (b₀ :: suite) m₁ (σ₁.del it) Φ))
    (he : eval (.Call fexpr [] [] cpos) env = (do callWith cpos (← eval fexpr env) [] (backTo cpos (starEach [] env)) (backToKw cpos (keywordEach [] env))) := by kernel_rfl!)
    (hn : nsIn K mainGlobals (Str.ofString "StopIteration") = some none := by kernel_rfl!)
    (hk : env.scope.kind = .function := by kernel_rfl!) (hx : env.kindOf x = some .local := by kernel_rfl!) (hs : swapsWith (.Call fexpr [] [] cpos) (some (.Name x px)) apos.line env = pure false := by kernel_rfl!)
    (hg : env.globals = mainGlobals := by kernel_rfl!) (hb : env.builtins = builtinsNs := by kernel_rfl!) (hst : env.kindOf (Str.ofString "StopIteration") = some .globalImplicit := by kernel_rfl!) :
    AX prog w g A env (.Try [.Assign [.Name x px] (.Call fexpr [] [] cpos) apos, .Break bpos] [.ExceptHandler (some (.Name (Str.ofString "StopIteration") p)) none (b₀ :: suite) hpos] [] [] pos) m σ Φ := fun s Q E S c => by
  refine wpAny_Try_except (wpAny_execs_cons (wpAny_Assign_Name ?_ hs))
  rw [he]
  refine wpAny_bind (h s _ _ S fun f f' m₁ σ₁ h₁ tk p r S₁ T₁ => callWith_wp ?_)
  obtain ⟨q, it, l, i, xs, rfl, hq, hit, hl, hout, kitem, kend⟩ := p
  obtain rfl := r.r
  refine (Args_nil (prog := prog) (w := w) (g := g) (A := A) (env := env) (m := m₁) (σ := σ₁) (kws := []) (Φ := fun vs ks m' σ' => vs = [] ∧ ks = [] ∧ m' = m₁ ∧ σ' = σ₁) (Kws_nil ⟨rfl, rfl, rfl, rfl⟩)) _ cpos { s with heap := h₁, toks := tk } _ _ S₁ fun pk a m₂ σ₂ h₂ tk₂ p₂ r₂ S₂ T₂ => ?_
  obtain ⟨e1, e2, rfl, rfl⟩ := p₂
  obtain ⟨pv, pks⟩ := pk
  obtain ⟨apos', akw⟩ := a
  dsimp only at e1 e2
  subst e1 e2
  obtain rfl := r₂.1.n
  obtain rfl := r₂.2.n
  have T₂' := T₁.trans T₂
  clear T₁ T₂ S₁
  obtain ⟨oq, hoq, rfl⟩ := S₂.fit _ _ hq
  obtain ⟨oi, hoi, hci, hdi⟩ := S₂.fit _ _ hit
  obtain ⟨items, hil, rx⟩ := S₂.list hl
  refine wpAny_bind (wpAny_load hoq (wpAny_pure ?_))
  refine wpAny_call (next_bound hoq ?_)
  have itL : it ≠ env.locals := S₂.ne hit
  have gi := S₂.off it (by rw [hit]; simp)
  cases hxi : xs[i]? with
  | some v =>
    obtain ⟨x', hx', rv⟩ := rx.get hxi
    refine next_item ⟨oi, hoi, hci, hdi⟩ hil (by simpa using hx') fun h₃ hi₃ hs₃ => ?_
    obtain ⟨oi', hoi', hci', hdi'⟩ := hi₃
    have S₃ := S₂.upd hit hs₃ hoi' (o' := .iter l (i + 1)) ⟨hci', hdi'⟩
    have T₃ : Tr env.locals σ₂ (σ₂.set it (.iter l (i + 1))) h₂ h₃ := Tr.upd hit hs₃
    refine A_storeLocal (Φ := fun _ m₄ σ₄ => Φ .brk m₄ σ₄) rv (kitem v hxi) hk hx { s with heap := h₃, toks := tk₂ } _ _ S₃ fun _ _ m₄ σ₄ h₄ tk₄ p₄ _ S₄ T₄ => ?_
    exact wpAny_execs_cons (wpAny_Break (c _ _ _ _ h₄ tk₄ p₄ .brk S₄ (T₂'.trans (T₃.trans T₄))))
  | none =>
    refine next_end (A := A.in1) hA ⟨oi, hoi, hci, hdi⟩ hil ?_ fun h₃ e oe vs hext hen hoe hce hde h1 => ?_
    · have := rx.len2
      rw [Array.getElem?_eq_none_iff, this]
      exact List.getElem?_eq_none_iff.mp hxi
    have k₃ : ∀ b o, b ≠ it → h₂.get? b = some o → h₃.get? b = some o := fun b o hb e => hext b o hb e
    have S₃ : Sim g env.locals m₂ (σ₂.del it) h₃ := (S₂.forget (AH.del_sub σ₂ it)).but (if_pos rfl) itL gi k₃
    -- the frames
    have hL₃ := S₃.liveL
    have funF : ∀ (bs : List Addr) (l : List Env), (∀ en ∈ l, en = env ∨ en ∈ outer) → (∀ en ∈ l, ∀ a, en.frame = some a → a ∈ bs) → h₃.FunFrames (hideAll h₃ bs) l := by
      intro bs l
      induction l with
      | nil => intro _ _; trivial
      | cons en l ih =>
        intro h1 h2
        refine ⟨?_, ?_, ih (fun en he => h1 en (List.mem_cons_of_mem _ he)) (fun en he => h2 en (List.mem_cons_of_mem _ he))⟩
        · rcases h1 en (List.mem_cons_self ..) with rfl | ho
          · rw [hk]; decide
          · exact (hout en ho).1
        · rcases h1 en (List.mem_cons_self ..) with rfl | ho
          · obtain ⟨M, ⟨oL, es, ep, hoL, hdL, _⟩, _⟩ := S₃.ns
            exact ⟨_, oL, hfe, hideAll_none _ (h2 en (List.mem_cons_self ..) _ hfe), hoL, fun vs => by rw [hdL]; intro z; cases z⟩
          · obtain ⟨_, Lf, c', d', es, n, hf, hσ⟩ := hout en ho
            have hne : Lf ≠ it := fun z => by rw [z, hit] at hσ; cases hσ
            obtain ⟨ob, hob, _, _, hdt⟩ := S₃.fit Lf _ ((AH.del_ne hne).trans hσ)
            exact ⟨Lf, ob, hf, hideAll_none _ (h2 en (List.mem_cons_self ..) _ hf), hob, fun vs => by rw [hdt]; intro z; cases z⟩
    obtain ⟨bs, hbs⟩ : ∃ bs, bs = e :: (env :: outer).filterMap (·.frame) := ⟨_, rfl⟩
    have hmem : ∀ en ∈ env :: outer, ∀ a, en.frame = some a → a ∈ bs := fun en he a hf => by
      rw [hbs]; exact List.mem_cons_of_mem _ (List.mem_filterMap.mpr ⟨en, he, hf⟩)
    have FF := funF bs (env :: outer) (fun en he => List.mem_cons.mp he) hmem
    have frames : ∀ b, b ∈ bs → b = e ∨ b = env.locals ∨ ∃ c' d' es n, σ₂ b = some (.sat (frmP c' d' (.dict es n))) := fun b hb => by
      rw [hbs] at hb
      rcases List.mem_cons.mp hb with hb | hb
      · exact .inl hb
      · obtain ⟨en, he', hf⟩ := List.mem_filterMap.mp hb
        rcases List.mem_cons.mp he' with rfl | ho
        · rw [hfe] at hf; cases hf; exact .inr (.inl rfl)
        · obtain ⟨_, Lf, c', d', es, n, hf', hσ⟩ := hout en ho
          rw [hf'] at hf; cases hf
          exact .inr (.inr ⟨c', d', es, n, hσ⟩)
    show wpAny _ _ (noteFrame (.ref e) env) _ _ _
    unfold noteFrame
    simp only [hfe]
    refine wpAny_bind (wpAny_field hoe hde h1 ?_)
    rw [if_neg (by decide)]
    refine wpAny_newEntry (base := hideAll h₃ bs) (s := { s with heap := h₃, toks := tk₂ }) hfr FF hfe hoe (fun b o e => of_hideAll _ e) (hideAll_none _ (by rw [hbs]; exact List.mem_cons_self ..)) hde (Array.getElem?_eq_some_iff.mp h1).1 fun h₄ left => ?_
    obtain ⟨stay, ff₄, traced, weak⟩ := left
    have σe : σ₂ e = none := S₂.σN hen
    have keep₄ : ∀ b o, b ∉ bs → h₃.get? b = some o → h₄.get? b = some o := fun b o hb e => stay b o (hideAll_get _ e hb)
    have notF : ∀ b, σ₂ b = none → b ≠ env.locals → b ≠ e → b ∉ bs := fun b h1 h2 h3 hb => by
      rcases frames b hb with z | z | ⟨_, _, _, _, z⟩
      · exact h3 z
      · exact h2 z
      · rw [h1] at z; cases z
    have S₄ : Sim g env.locals m₂ (σ₂.del it) h₄ := by
      refine ⟨fun b o eb => keep₄ b o (fun hb => ?_) (S₃.base b o eb), S₃.gL, S₃.offL, S₃.off, ?_, fun a o ea => ?_⟩
      · rcases frames b hb with z | z | ⟨_, _, _, _, z⟩
        · rw [z] at eb; rw [S₂.gN hen] at eb; cases eb
        · rw [z, S₃.gL] at eb; cases eb
        · rw [S₂.off b (by rw [z]; simp)] at eb; cases eb
      · obtain ⟨M, ⟨oL, es, ep, hoL, hdL, r1, r2⟩, hm⟩ := S₃.ns
        obtain ⟨sl, hsl⟩ := weak _ _ hoL (fun vs => by rw [hdL]; intro z; cases z)
        exact ⟨M, ⟨_, es, ep, hsl, hdL, r1, r2⟩, hm⟩
      · obtain ⟨ob, hob, hr⟩ := S₃.fit a o ea
        by_cases hb : a ∈ bs
        · rcases frames a hb with z | z | ⟨c', d', es, n, z⟩
          · rw [z] at ea
            have := AH.del_sub σ₂ it _ _ ea
            rw [σe] at this; cases this
          · rw [z, S₃.offL] at ea; cases ea
          · have := AH.del_sub σ₂ it _ _ ea
            rw [z] at this; cases this
            obtain ⟨hr1, hr2, hr3⟩ := hr
            obtain ⟨sl, hsl⟩ := weak _ _ hob (fun vs => by rw [hr3]; intro z; cases z)
            exact ⟨_, hsl, hr1, hr2, hr3⟩
        · exact ⟨ob, keep₄ _ _ hb hob, hr⟩
    have T₄ : Tr env.locals σ₂ (σ₂.del it) h₂ h₄ := by
      refine ⟨fun b o eb hσ hL => keep₄ b o (notF b hσ hL fun z => by rw [z, hen] at eb; cases eb) (k₃ b o (fun z => by rw [z, hit] at hσ; cases hσ) eb), fun a ea => .inl fun z => ea ?_⟩
      unfold AH.del; split
      · rfl
      · exact z
    obtain ⟨oe', vs', T, oT, ts, he', hce', hde', h1', hbT, hTe, hT, hdT, h3'⟩ := traced
    have hTbs : T ∉ bs := fun hb => by
      rcases frames T hb with z | z | ⟨_, _, _, _, z⟩
      · exact hTe z
      · obtain ⟨M, ⟨oL, es, ep, hoL, hdL, _⟩, _⟩ := S₄.ns
        rw [z, hoL] at hT; cases hT; rw [hdL] at hdT; cases hdT
      · have hne : T ≠ it := fun z' => by rw [z', hit] at z; cases z
        obtain ⟨ob, hob, _, _, hdt⟩ := S₄.fit T _ ((AH.del_ne hne).trans z)
        rw [hob] at hT; cases hT; rw [hdt] at hdT; cases hdT
    have hT₃ : h₃.get? T = none := by
      cases z : h₃.get? T with
      | none => rfl
      | some o => rw [hideAll_get _ z hTbs] at hbT; cases hbT
    have σT : (σ₂.del it) T = none := S₃.σN hT₃
    have TL : T ≠ env.locals := S₃.neL hT₃
    have gT := S₃.gN hT₃
    have eL : e ≠ env.locals := S₂.neL hen
    have σe' : (σ₂.del it) e = none := by
      cases z : (σ₂.del it) e with
      | none => rfl
      | some o => rw [AH.del_sub σ₂ it _ _ z] at σe; cases σe
    refine wpAny_handleBy_builtin (X := "StopIteration") (b := true) excStop tupStop isSubtype_stop ?_
    refine E_Builtin (prog := prog) (w := w) (A := A.mark (some (.ref e))) G hn boot_stop (.typ _) (m := m₂) (σ := σ₂.del it) (Φ := fun v m' σ' => v = .typ "StopIteration" ∧ m' = m₂ ∧ σ' = σ₂.del it) ⟨rfl, rfl, rfl⟩ (by decide) hg hb hk hst (by decide) { s with heap := h₄, toks := tk₂ } _ _ S₄ fun v a m₅ σ₅ h₅ tk₅ p₅ r₅ S₅ T₅ => ?_
    obtain ⟨rfl, rfl, rfl⟩ := p₅
    have he₅ := T₅.keep e _ he' σe' eL
    have hT₅ := T₅.keep T _ hT σT TL
    refine ⟨r₅.t, ⟨oe', he₅, hce'.trans hce⟩, ?_⟩
    rw [if_pos rfl]
    refine wpAny_setFlight_none he₅ hde' h1' hT₅ hdT (Array.getElem?_eq_some_iff.mp h3').1 ?_
    have k₆ : ∀ b o, b ≠ T → h₅.get? b = some o → (h₅.update T (Obj.mapFields (·.setIfInBounds 3 .none))).get? b = some o := fun b o hb e => by rw [Heap.get?_update_other _ _ (Ne.symm hb)]; exact e
    have S₆ := S₅.but σT TL gT k₆
    have T₆ : Tr env.locals σ₂ (σ₂.del it) h₂ (h₅.update T (Obj.mapFields (·.setIfInBounds 3 .none))) := by
      refine ⟨fun b o eb hσ hL => ?_, T₄.fresh⟩
      have hbi : b ≠ it := fun z => by rw [z, hit] at hσ; cases hσ
      have hσ' : (σ₂.del it) b = none := (AH.del_ne hbi).trans hσ
      refine k₆ b o (fun z => ?_) (T₅.keep b o (T₄.keep b o eb hσ hL) hσ' hL)
      rw [z] at eb hbi
      rw [k₃ T o hbi eb] at hT₃; cases hT₃
    exact kend hxi e { s with heap := h₅.update T (Obj.mapFields (·.setIfInBounds 3 .none)), toks := tk₅ } _ _ S₆ fun f fl m₇ σ₇ h₇ tk₇ p₇ r₇ S₇ T₇ => c _ _ _ _ h₇ tk₇ p₇ r₇ S₇ (T₂'.trans (T₆.trans T₇))
end
end Mine

namespace Mine
open PySem PySem.W PyProof.Rows

/-- behind a call that was shown the caller's frame -/
theorem Sim.backF {g : Heap} {L L' : Addr} {m m' : Loc} {σ₀ σ σ' σ'' : AH} {h h₁ h' : Heap} {c : Value} {d : Option Addr} {es : Array DictEntry} {n : Nat} {oL : Obj} {M : Str → Option Value} (S : Sim g L m σ₀ h) (hoL : h.get? L = some oL) (hcL : oL.data = .dict es n)
    (hM : StrKeys es ∧ ∀ x, nsFind es x = M x) (hm : ∀ x v, m.lookup x = some v → ∃ v', M x = some v' ∧ VR v v')
    (hk : ∀ b o, h.get? b = some o → h₁.get? b = some o) (hsub : ∀ a, σ a ≠ none → σ₀ a ≠ none ∨ h.get? a = none ∨ a = L) (hL' : h.get? L' = none) (S' : Sim g L' m' σ' h') (T' : Tr L' σ σ' h₁ h')
    (hfr : σ' L = some (.sat (frmP c d (.dict es n)))) (hs : Sub σ'' σ') (hn : σ'' L = none) : Sim g L m σ'' h' ∧ Tr L σ₀ σ'' h h' := by
  have none_of : ∀ b o, h.get? b = some o → σ₀ b = none → b ≠ L → σ b = none := fun b o e q hb => by
    cases z : σ b with
    | none => rfl
    | some x =>
      rcases hsub b (by rw [z]; simp) with y | y | y
      · exact absurd q y
      · rw [y] at e; cases e
      · exact absurd y hb
  have keep : ∀ b o, h.get? b = some o → σ₀ b = none → b ≠ L → h'.get? b = some o := fun b o e q hb =>
    T'.keep b o (hk b o e) (none_of b o e q hb) (fun z => by rw [z, hL'] at e; cases e)
  have fr : ∀ a, σ'' a ≠ none → σ₀ a ≠ none ∨ (h.get? a = none ∧ a ≠ L) := fun a e => by
    have haL : a ≠ L := fun z => by rw [z] at e; exact e hn
    have e' : σ' a ≠ none := fun z => by
      cases y : σ'' a with
      | none => exact e y
      | some o => rw [hs _ _ y] at z; cases z
    rcases T'.fresh a e' with z | z
    · rcases hsub a z with y | y | y
      · exact .inl y
      · exact .inr ⟨y, haL⟩
      · exact absurd y haL
    · refine .inr ⟨?_, haL⟩
      cases q : h.get? a with
      | none => rfl
      | some o => rw [hk a o q] at z; cases z.1
  obtain ⟨ob, hob, _, _, hdt⟩ := S'.fit _ _ hfr
  have S'' := S'.forget hs
  exact ⟨⟨S'.base, S.gL, hn, S''.off, ⟨M, ⟨ob, es, n, hob, hdt, hM.1, hM.2⟩, hm⟩, S''.fit⟩, ⟨fun b o e q hb => keep b o e q hb, fr⟩⟩

section
variable {prog : Program} {w : World} {K : Frag} {g : Heap} {A : Around} {env : Env} {L : Addr} {m : Loc} {σ : AH}

theorem code_defF (G : Gd K g) {f : Addr} {oc : Value} {od : Option Addr} {fd : FuncData} {osl : Array (Option Value)} {pos : List V} {kw : List (Str × V)} {binds : Loc} {Φ : V → Loc → AH → Prop}
    (hA : A.depth < recursionLimit) (ho : K.lookup f = some ⟨oc, od, .func fd, osl⟩) (hcd : codeIn K fd.code fd.qualname = true) (hbody : fd.body = .stmts (bodyOf fd)) (hb : ABind K fd pos kw binds)
    (hcell : (fd.scope.names.all fun x => !(x.2 == .cell)) = true) (hloc : (binds.all fun x => decide (fd.scope.names.lookup x.1 = some .local)) = true)
    (h : ∀ L' o, σ L = none → (∃ c d es n, o = .sat (frmP c d (.dict es n))) → AXs prog w g (A.deeper (callEnv fd L' f)) (callEnv fd L' f) (bodyOf fd) binds.reverse (σ.set L o) fun fl _ σ' => σ' L = some o ∧ ∃ σ'', Sub σ'' σ' ∧ σ'' L = none ∧ Φ fl.val m σ'')
    (hco : fd.scope.isCoroutine = false) (hgen : fd.scope.isGenerator = false) (hk : fd.scope.kind = .function) :
    ACode prog w g A L (.ref f) pos kw m σ Φ := by
  intro s R f' pos' kw' r rs rk S c
  obtain rfl := r.r
  have X : K.In s.heap := G.inK.keeps S.base
  obtain ⟨binds', hp, rb⟩ := hb pos' kw' rs rk
  have hB : BindsTo s fd ⟨pos', kw'⟩ binds' := fun M A' E' Q' hq Γ p _ => wp_of_peek X hq _ (hp _)
  refine codeAny_call_def hA (X _ _ ho) rfl (G.nolimit.keeps S.base) (codeRec_of X hcd) hbody hB (fun x hx e => by have := List.all_eq_true.mp hcell x hx; rw [e] at this; cases this) ?_ (fun h₁ hns hk₁ => ?_) hco hgen hk
  · intro x hx
    have : x.1 ∈ binds'.map (·.1) := List.mem_map_of_mem hx
    rw [rb.names] at this
    obtain ⟨y, hy, e⟩ := List.mem_map.mp this
    rw [← e]
    exact of_decide_eq_true (List.all_eq_true.mp hloc y hy)
  · have S₁ : Sim g (callEnv fd s.heap.objs.size f).locals binds.reverse σ h₁ := by
      refine ⟨fun b o e => hk₁ _ _ (S.base b o e), S.gfresh (Nat.le_refl _), S.fresh, S.off, ⟨_, hns, rb.reverse.lookup⟩, fun a o e => ?_⟩
      obtain ⟨ob, x, y⟩ := S.fit a o e
      exact ⟨ob, hk₁ _ _ x, y⟩
    obtain ⟨M, ⟨oL, es, n, hoL, hdL, hM⟩, hm⟩ := S.ns
    have LL : L ≠ (callEnv fd s.heap.objs.size f).locals := Nat.ne_of_lt S.ltL
    have S₁' := S₁.know (o := .sat (frmP oL.cls oL.dict (.dict es n))) (hk₁ _ _ hoL) ⟨rfl, rfl, hdL⟩ S.gL LL
    refine h s.heap.objs.size _ S.offL ⟨_, _, _, _, rfl⟩ { s with heap := h₁, toks := s.toks + binds'.length } _ _ S₁' fun fl fl' m' σ' h' tk p r S' T' => ?_
    obtain ⟨hfr, σ'', hsub, hn, p⟩ := p
    obtain ⟨S'', T''⟩ := S.backF hoL hdL hM hm hk₁ (fun a e => by
      by_cases q : a = L
      · exact .inr (.inr q)
      · rw [AH.set_ne _ _ q] at e; exact .inl e) (size_none _) S' T' hfr hsub hn
    refine c fl.val _ _ _ h' tk p ?_ S'' T''
    cases r <;> first | exact .none | assumption
end
end Mine

namespace Mine
open PySem PySem.W PyProof.Rows

structure Nd where
  key : Int
  a : Addr
  da : Addr
  ls : Addr
  np : Int
  succ : List Int
structure SD where
  x : Addr
  dx : Addr
  d : Addr
  ready : Option (Addr × List Int)
  po : Int
  fi : Int
  nodes : List Nd
  ep : Nat
noncomputable def SD.rv (D : SD) : V := match D.ready with
  | none => .none
  | some p => .ref p.1
noncomputable def SD.own (D : SD) : Loc := [(Str.ofString "_node2info", .ref D.d), (Str.ofString "_ready_nodes", D.rv), (Str.ofString "_npassedout", .int D.po), (Str.ofString "_nfinished", .int D.fi)]
noncomputable def Nd.ob (n : Nd) : O := .slots 76 n.da [some (.int n.key), some (.int n.np), some (.ref n.ls)]

structure SOk (σ₀ σ : AH) (D : SD) : Prop where
  inst : InstD σ D.x 173 D.dx D.own
  dict : σ D.d = some (.idict (D.nodes.map fun n => (n.key, V.ref n.a)) D.ep)
  sys : (D.d == sysModules) = false
  node : ∀ n ∈ D.nodes, σ n.a = some n.ob ∧ σ n.da = some (.raw emptyDict) ∧ σ n.ls = some (.list (ivs n.succ))
  keys : (D.nodes.map (·.key)).Nodup
  lss : (D.nodes.map (·.ls)).Nodup
  rdy : ∀ p, D.ready = some p → σ p.1 = some (.list (ivs p.2)) ∧ ∀ n ∈ D.nodes, n.ls ≠ p.1
  sub : Sub σ₀ σ
  off0 : σ₀ D.x = none ∧ σ₀ D.dx = none ∧ σ₀ D.d = none
  offn : ∀ n ∈ D.nodes, σ₀ n.a = none ∧ σ₀ n.da = none ∧ σ₀ n.ls = none
  offr : ∀ p, D.ready = some p → σ₀ p.1 = none

theorem AH.ne_ob {σ : AH} {a b : Addr} {o p : O} (ha : σ a = some o) (hb : σ b = some p) (h : o ≠ p) : a ≠ b := fun z => by
  rw [z, hb] at ha; injection ha with ha; exact h ha.symm

theorem nodup_inj {α β : Type} {f : α → β} {l : List α} (h : (l.map f).Nodup) {x y : α} (hx : x ∈ l) (hy : y ∈ l) (e : f x = f y) : x = y := by
  induction l with
  | nil => cases hx
  | cons z l ih =>
    rw [List.map_cons, List.nodup_cons] at h
    rcases List.mem_cons.mp hx with hx1 | hx1
    · rcases List.mem_cons.mp hy with hy1 | hy1
      · rw [hx1, hy1]
      · exact absurd (by rw [← hx1, e]; exact List.mem_map_of_mem hy1) h.1
    · rcases List.mem_cons.mp hy with hy1 | hy1
      · exact absurd (by rw [← hy1, ← e]; exact List.mem_map_of_mem hx1) h.1
      · exact ih h.2 hx1 hy1

noncomputable def atNode (k : Int) (f : Nd → Nd) (ns : List Nd) : List Nd := ns.map fun n => if n.key = k then f n else n
theorem mem_atNode {k : Int} {f : Nd → Nd} {ns : List Nd} {n : Nd} (h : n ∈ atNode k f ns) : ∃ n₀ ∈ ns, n = if n₀.key = k then f n₀ else n₀ := by
  obtain ⟨n₀, h1, rfl⟩ := List.mem_map.mp h
  exact ⟨n₀, h1, rfl⟩
theorem atNode_map {β : Type} {k : Int} {f : Nd → Nd} {ns : List Nd} (p : Nd → β) (h : ∀ n ∈ ns, p (f n) = p n) : (atNode k f ns).map p = ns.map p := by
  unfold atNode
  rw [List.map_map]
  refine List.map_congr_left fun n hn => ?_
  show p (if n.key = k then f n else n) = p n
  split
  · exact h n hn
  · rfl

namespace SOk
variable {σ₀ σ : AH} {D : SD}

theorem xdx (h : SOk σ₀ σ D) : D.x ≠ D.dx := AH.ne_ob h.inst.obj h.inst.dict (by intro z; cases z)
/-- the own dict turns -/
theorem setOwn (h : SOk σ₀ σ D) (r : Option (Addr × List Int)) (po fi : Int)
    (hr : ∀ p, r = some p → σ p.1 = some (.list (ivs p.2)) ∧ (∀ n ∈ D.nodes, n.ls ≠ p.1) ∧ σ₀ p.1 = none) : SOk σ₀ (σ.set D.dx (.sdict { D with ready := r, po := po, fi := fi }.own)) { D with ready := r, po := po, fi := fi } := by
  refine ⟨⟨?_, AH.set_self ..⟩, ?_, h.sys, fun n hn => ?_, h.keys, h.lss, fun p hp => ⟨?_, (hr p hp).2.1⟩, fun a o e => ?_, h.off0, h.offn, fun p hp => (hr p hp).2.2⟩
  · exact (AH.set_ne _ _ h.xdx).trans h.inst.obj
  · exact (AH.set_ne _ _ (AH.ne_ob h.dict h.inst.dict (by intro z; cases z))).trans h.dict
  · obtain ⟨h1, h2, h3⟩ := h.node n hn
    exact ⟨(AH.set_ne _ _ (AH.ne_ob h1 h.inst.dict (by intro z; cases z))).trans h1, (AH.set_ne _ _ (AH.ne_ob h2 h.inst.dict (by intro z; cases z))).trans h2, (AH.set_ne _ _ (AH.ne_ob h3 h.inst.dict (by intro z; cases z))).trans h3⟩
  · have := (hr p hp).1
    exact (AH.set_ne _ _ (AH.ne_ob this h.inst.dict (by intro z; cases z))).trans this
  · exact (AH.set_ne _ _ (fun z => by rw [z, h.off0.2.1] at e; cases e)).trans (h.sub _ _ e)

/-- one node's count turns -/
theorem setNp (h : SOk σ₀ σ D) {n : Nd} (hn : n ∈ D.nodes) (v : Int) : SOk σ₀ (σ.set n.a ({ n with np := v } : Nd).ob) { D with nodes := atNode n.key (fun n => { n with np := v }) D.nodes } := by
  obtain ⟨hna, hnd, hnl⟩ := h.node n hn
  have ne : ∀ a o, σ a = some o → (∀ n' ∈ D.nodes, a = n'.a → n'.key ≠ n.key) → a ≠ n.a := fun a o e q z => q n hn z rfl
  refine ⟨⟨?_, ?_⟩, ?_, h.sys, fun n' hn' => ?_, ?_, ?_, fun p hp => ⟨?_, fun n' hn' => ?_⟩, fun a o e => ?_, h.off0, fun n' hn' => ?_, h.offr⟩
  · exact (AH.set_ne _ _ (AH.ne_ob h.inst.obj hna (by intro z; cases z))).trans h.inst.obj
  · exact (AH.set_ne _ _ (AH.ne_ob h.inst.dict hna (by intro z; cases z))).trans h.inst.dict
  · have e : (atNode n.key (fun n => { n with np := v }) D.nodes).map (fun n => (n.key, V.ref n.a)) = D.nodes.map fun n => (n.key, V.ref n.a) := atNode_map _ fun _ _ => rfl
    show _ = some (O.idict ((atNode n.key (fun n => { n with np := v }) D.nodes).map (fun n => (n.key, V.ref n.a))) D.ep)
    rw [e]
    exact (AH.set_ne _ _ (AH.ne_ob h.dict hna (by intro z; cases z))).trans h.dict
  · obtain ⟨n₀, h0, rfl⟩ := mem_atNode hn'
    obtain ⟨h1, h2, h3⟩ := h.node n₀ h0
    by_cases q : n₀.key = n.key
    · have : n₀ = n := nodup_inj h.keys h0 hn q
      subst this
      rw [if_pos rfl]
      exact ⟨AH.set_self .., (AH.set_ne _ _ (AH.ne_ob h2 hna (by intro z; cases z))).trans h2, (AH.set_ne _ _ (AH.ne_ob h3 hna (by intro z; cases z))).trans h3⟩
    · rw [if_neg q]
      refine ⟨(AH.set_ne _ _ (AH.ne_ob h1 hna ?_)).trans h1, (AH.set_ne _ _ (AH.ne_ob h2 hna (by intro z; cases z))).trans h2, (AH.set_ne _ _ (AH.ne_ob h3 hna (by intro z; cases z))).trans h3⟩
      intro z
      unfold Nd.ob at z
      injection z with _ _ z
      injection z with z _
      injection z with z
      injection z with z
      exact q z
  · exact (atNode_map (k := n.key) (f := fun n => { n with np := v }) (ns := D.nodes) (fun x => x.key) (fun _ _ => rfl)) ▸ h.keys
  · exact (atNode_map (k := n.key) (f := fun n => { n with np := v }) (ns := D.nodes) (fun x => x.ls) (fun _ _ => rfl)) ▸ h.lss
  · have := (h.rdy p hp).1
    exact (AH.set_ne _ _ (AH.ne_ob this hna (by intro z; cases z))).trans this
  · obtain ⟨n₀, h0, rfl⟩ := mem_atNode hn'
    have := (h.rdy p hp).2 n₀ h0
    split <;> exact this
  · exact (AH.set_ne _ _ (fun z => by rw [z, (h.offn n hn).1] at e; cases e)).trans (h.sub _ _ e)
  · obtain ⟨n₀, h0, rfl⟩ := mem_atNode hn'
    have := h.offn n₀ h0
    split <;> exact this

/-- one node's successors turn -/
theorem setSucc (h : SOk σ₀ σ D) {n : Nd} (hn : n ∈ D.nodes) (v : List Int) : SOk σ₀ (σ.set n.ls (.list (ivs v))) { D with nodes := atNode n.key (fun n => { n with succ := v }) D.nodes } := by
  obtain ⟨hna, hnd, hnl⟩ := h.node n hn
  refine ⟨⟨?_, ?_⟩, ?_, h.sys, fun n' hn' => ?_, ?_, ?_, fun p hp => ⟨?_, fun n' hn' => ?_⟩, fun a o e => ?_, h.off0, fun n' hn' => ?_, h.offr⟩
  · exact (AH.set_ne _ _ (AH.ne_ob h.inst.obj hnl (by intro z; cases z))).trans h.inst.obj
  · exact (AH.set_ne _ _ (AH.ne_ob h.inst.dict hnl (by intro z; cases z))).trans h.inst.dict
  · have e : (atNode n.key (fun n => { n with succ := v }) D.nodes).map (fun n => (n.key, V.ref n.a)) = D.nodes.map fun n => (n.key, V.ref n.a) := atNode_map _ fun _ _ => rfl
    show _ = some (O.idict ((atNode n.key (fun n => { n with succ := v }) D.nodes).map (fun n => (n.key, V.ref n.a))) D.ep)
    rw [e]
    exact (AH.set_ne _ _ (AH.ne_ob h.dict hnl (by intro z; cases z))).trans h.dict
  · obtain ⟨n₀, h0, rfl⟩ := mem_atNode hn'
    obtain ⟨h1, h2, h3⟩ := h.node n₀ h0
    by_cases q : n₀.key = n.key
    · have : n₀ = n := nodup_inj h.keys h0 hn q
      subst this
      rw [if_pos rfl]
      exact ⟨(AH.set_ne _ _ (AH.ne_ob h1 hnl (by intro z; cases z))).trans h1, (AH.set_ne _ _ (AH.ne_ob h2 hnl (by intro z; cases z))).trans h2, AH.set_self ..⟩
    · rw [if_neg q]
      exact ⟨(AH.set_ne _ _ (AH.ne_ob h1 hnl (by intro z; cases z))).trans h1, (AH.set_ne _ _ (AH.ne_ob h2 hnl (by intro z; cases z))).trans h2, (AH.set_ne _ _ (fun z => q (by rw [nodup_inj h.lss h0 hn z]))).trans h3⟩
  · exact (atNode_map (k := n.key) (f := fun n => { n with succ := v }) (ns := D.nodes) (fun x => x.key) (fun _ _ => rfl)) ▸ h.keys
  · exact (atNode_map (k := n.key) (f := fun n => { n with succ := v }) (ns := D.nodes) (fun x => x.ls) (fun _ _ => rfl)) ▸ h.lss
  · have := h.rdy p hp
    exact (AH.set_ne _ _ (Ne.symm (this.2 n hn))).trans this.1
  · obtain ⟨n₀, h0, rfl⟩ := mem_atNode hn'
    have := (h.rdy p hp).2 n₀ h0
    split <;> exact this
  · exact (AH.set_ne _ _ (fun z => by rw [z, (h.offn n hn).2.2] at e; cases e)).trans (h.sub _ _ e)
  · obtain ⟨n₀, h0, rfl⟩ := mem_atNode hn'
    have := h.offn n₀ h0
    split <;> exact this

/-- the ready list turns -/
theorem setReady (h : SOk σ₀ σ D) {lr : Addr} {rs : List Int} (hr : D.ready = some (lr, rs)) (rs' : List Int) : SOk σ₀ (σ.set lr (.list (ivs rs'))) { D with ready := some (lr, rs') } := by
  obtain ⟨h1, h2⟩ := h.rdy _ hr
  have ho := h.offr _ hr
  have own : ({ D with ready := some (lr, rs') } : SD).own = D.own := by unfold SD.own SD.rv; rw [hr]
  refine ⟨⟨?_, ?_⟩, ?_, h.sys, fun n hn => ?_, h.keys, h.lss, fun p hp => ?_, fun a o e => ?_, h.off0, h.offn, fun p hp => ?_⟩
  · exact (AH.set_ne _ _ (AH.ne_ob h.inst.obj h1 (by intro z; cases z))).trans h.inst.obj
  · rw [own]; exact (AH.set_ne _ _ (AH.ne_ob h.inst.dict h1 (by intro z; cases z))).trans h.inst.dict
  · exact (AH.set_ne _ _ (AH.ne_ob h.dict h1 (by intro z; cases z))).trans h.dict
  · obtain ⟨g1, g2, g3⟩ := h.node n hn
    exact ⟨(AH.set_ne _ _ (AH.ne_ob g1 h1 (by intro z; cases z))).trans g1, (AH.set_ne _ _ (AH.ne_ob g2 h1 (by intro z; cases z))).trans g2, (AH.set_ne _ _ (h2 n hn)).trans g3⟩
  · cases hp; exact ⟨AH.set_self .., h2⟩
  · exact (AH.set_ne _ _ (fun z => by rw [z, ho] at e; cases e)).trans (h.sub _ _ e)
  · cases hp; exact ho

/-- something is made beside the sorter -/
theorem fresh (h : SOk σ₀ σ D) {a : Addr} {o : O} (ha : σ a = none) : SOk (σ₀.set a o) (σ.set a o) D := by
  have ne : ∀ b p, σ b = some p → b ≠ a := fun b p e => AH.ne_of e ha
  have s : Sub σ (σ.set a o) := Sub.set ha
  have off : ∀ b p, σ b = some p → σ₀ b = none → (σ₀.set a o) b = none := fun b p e z => (AH.set_ne _ _ (ne b p e)).trans z
  refine ⟨⟨s _ _ h.inst.obj, s _ _ h.inst.dict⟩, s _ _ h.dict, h.sys, fun n hn => ⟨s _ _ (h.node n hn).1, s _ _ (h.node n hn).2.1, s _ _ (h.node n hn).2.2⟩, h.keys, h.lss, fun p hp => ⟨s _ _ (h.rdy p hp).1, (h.rdy p hp).2⟩, fun b p e => ?_, ⟨off _ _ h.inst.obj h.off0.1, off _ _ h.inst.dict h.off0.2.1, off _ _ h.dict h.off0.2.2⟩, fun n hn => ⟨off _ _ (h.node n hn).1 (h.offn n hn).1, off _ _ (h.node n hn).2.1 (h.offn n hn).2.1, off _ _ (h.node n hn).2.2 (h.offn n hn).2.2⟩, fun p hp => off _ _ (h.rdy p hp).1 (h.offr p hp)⟩
  by_cases q : b = a
  · rw [q] at e ⊢; rw [AH.set_self] at e ⊢; exact e
  · rw [AH.set_ne _ _ q] at e ⊢; exact h.sub _ _ e
/-- something beside the sorter turns -/
theorem turn (h : SOk σ₀ σ D) {a : Addr} {o o' : O} (ha : σ₀ a = some o) : SOk (σ₀.set a o') (σ.set a o') D := by
  have ne : ∀ b, σ₀ b = none → b ≠ a := fun b e z => by rw [z, ha] at e; cases e
  have s : ∀ b p, σ₀ b = none → σ b = some p → (σ.set a o') b = some p := fun b p e z => (AH.set_ne _ _ (ne b e)).trans z
  have off : ∀ b, σ₀ b = none → (σ₀.set a o') b = none := fun b e => (AH.set_ne _ _ (ne b e)).trans e
  refine ⟨⟨s _ _ h.off0.1 h.inst.obj, s _ _ h.off0.2.1 h.inst.dict⟩, s _ _ h.off0.2.2 h.dict, h.sys, fun n hn => ⟨s _ _ (h.offn n hn).1 (h.node n hn).1, s _ _ (h.offn n hn).2.1 (h.node n hn).2.1, s _ _ (h.offn n hn).2.2 (h.node n hn).2.2⟩, h.keys, h.lss, fun p hp => ⟨s _ _ (h.offr p hp) (h.rdy p hp).1, (h.rdy p hp).2⟩, fun b p e => ?_, ⟨off _ h.off0.1, off _ h.off0.2.1, off _ h.off0.2.2⟩, fun n hn => ⟨off _ (h.offn n hn).1, off _ (h.offn n hn).2.1, off _ (h.offn n hn).2.2⟩, fun p hp => off _ (h.offr p hp)⟩
  by_cases q : b = a
  · rw [q] at e ⊢; rw [AH.set_self] at e ⊢; exact e
  · rw [AH.set_ne _ _ q] at e ⊢; exact h.sub _ _ e
/-- less is known beside -/
theorem less {σ₁ : AH} (h : SOk σ₀ σ D) (k : Sub σ₁ σ₀) : SOk σ₁ σ D := by
  have off : ∀ b, σ₀ b = none → σ₁ b = none := fun b e => by
    cases z : σ₁ b with
    | none => rfl
    | some o => rw [k _ _ z] at e; cases e
  exact ⟨h.inst, h.dict, h.sys, h.node, h.keys, h.lss, h.rdy, fun b p e => h.sub _ _ (k _ _ e), ⟨off _ h.off0.1, off _ h.off0.2.1, off _ h.off0.2.2⟩, fun n hn => ⟨off _ (h.offn n hn).1, off _ (h.offn n hn).2.1, off _ (h.offn n hn).2.2⟩, fun p hp => off _ (h.offr p hp)⟩
theorem lookup (h : SOk σ₀ σ D) {n : Nd} (hn : n ∈ D.nodes) : (D.nodes.map fun n => (n.key, V.ref n.a)).lookup n.key = some (.ref n.a) := by
  have hk := h.keys
  generalize D.nodes = ns at hn hk
  induction ns with
  | nil => cases hn
  | cons z l ih =>
    rw [List.map_cons, List.nodup_cons] at hk
    rw [List.map_cons, List.lookup_cons]
    rcases List.mem_cons.mp hn with rfl | hn
    · rw [beq_self_eq_true]
    · have : (n.key == z.key) = false := beq_eq_false_iff_ne.mpr fun e => hk.1 (e ▸ List.mem_map_of_mem hn)
      rw [this]
      exact ih hn hk.2
theorem lookup_none (h : SOk σ₀ σ D) {k : Int} (hk : k ∉ D.nodes.map (·.key)) : (D.nodes.map fun n => (n.key, V.ref n.a)).lookup k = none := by
  generalize D.nodes = ns at hk
  induction ns with
  | nil => rfl
  | cons z l ih =>
    rw [List.map_cons, List.mem_cons, not_or] at hk
    rw [List.map_cons, List.lookup_cons, beq_eq_false_iff_ne.mpr hk.1]
    exact ih hk.2
end SOk
end Mine

namespace Mine
open PySem PySem.W PyProof.Rows

section
variable {w : World} {g : Heap} {A : Around} {L : Addr} {m : Loc} {σ : AH}

noncomputable abbrev fNI (w : World) : FuncData := fnAt (KK w) 72
noncomputable abbrev fSI (w : World) : FuncData := fnAt (KK w) 109
noncomputable abbrev fGN (w : World) : FuncData := fnAt (KK w) 116

theorem nodeInit_code (G : Gd (KK w) g) (hA : AOk A 2) {x dx : Addr} {k : Int} {Φ : V → Loc → AH → Prop} (I : InstS σ x 76 dx [])
    (h : ∀ ls σ', σ ls = none → σ' ls = some (.list []) → σ' x = some (.slots 76 dx [some (.int k), some (.int 0), some (.ref ls)]) → (∀ a o, a ≠ x → σ a = some o → σ' a = some o) → Φ .none m σ') :
    ACode PP w g A L (.ref 72) [.ref x, .int k] [] m σ Φ := by
  refine code_def (fd := fNI w) (oc := .type "function") (od := none) (osl := #[]) (binds := [(Str.ofString "self", .ref x), (Str.ofString "node", .int k)]) G hA.room (by kernel_rfl!) (by kernel_rfl!) (by kernel_rfl!) ?_ (by kernel_rfl!) (by kernel_rfl!) (fun L' => ?_) (by kernel_rfl!) (by kernel_rfl!) (by kernel_rfl!)
  · intro pos' kw' rs rk
    obtain ⟨_, _, rfl, r0, rs⟩ := rs.c
    obtain ⟨_, _, rfl, r1, rs⟩ := rs.c
    obtain rfl := rs.n
    obtain rfl := rk.n
    exact ⟨[(Str.ofString "self", _), (Str.ofString "node", _)], fun S => by kernel_rfl!, .cons r0 (.cons r1 .nil)⟩
  have xdx : dx ≠ x := AH.ne_ob I.dict I.obj (by intro z; cases z)
  refine AXs_cons <| X_AssignAttr <| E_Local rfl <| E_Local rfl <| set_slotA G 77 0 I ?_
  have I2 : InstS (σ.set x (.slots 76 dx (putSlot [] 0 (.int k)))) x 76 dx [some (.int k)] := ⟨AH.set_self .., (AH.set_ne _ _ xdx).trans I.dict⟩
  refine AXs_cons <| X_AssignAttr <| E_Int <| E_Local rfl <| set_slotA G 78 1 I2 ?_
  rw [AH.set_set]
  have I3 : InstS (σ.set x (.slots 76 dx (putSlot [some (.int k)] 1 (.int 0)))) x 76 dx [some (.int k), some (.int 0)] := ⟨AH.set_self .., (AH.set_ne _ _ xdx).trans I.dict⟩
  refine AXs_cons <| X_AssignAttr <| E_List <| Args_nil' ⟨by decide, fun ls hls => E_Local rfl <| set_slotA G 79 2 ⟨AH.set_get I3.obj hls, AH.set_get I3.dict hls⟩ <| AXs_nil ⟨_, Sub.refl _, ?_⟩⟩
  have lx : ls ≠ x := fun z => by rw [z, AH.set_self] at hls; cases hls
  refine h ls _ ((AH.set_ne _ _ lx).symm.trans hls) ?_ (AH.set_self ..) (fun a o ha e => ?_)
  · rw [AH.set_ne _ _ lx, AH.set_self]
  · have e' : (σ.set x (.slots 76 dx (putSlot [some (.int k)] 1 (.int 0)))) a = some o := (AH.set_ne _ _ ha).trans e
    rw [AH.set_ne _ _ ha]
    exact AH.set_get e' hls

theorem node_make (G : Gd (KK w) g) (hA : AOk A 4) {k : Int} {Φ : V → Loc → AH → Prop}
    (h : ∀ (n : Nd) σ', n.key = k → n.np = 0 → n.succ = [] → σ n.a = none → σ n.da = none → σ n.ls = none → σ' n.a = some n.ob → σ' n.da = some (.raw emptyDict) → σ' n.ls = some (.list (ivs [])) → Sub σ σ' → Φ (.ref n.a) m σ') :
    ACall PP w g A L (.ref 76) [.int k] [] m σ Φ := by
  refine call_make (o₁ := fun dx => .slots 76 dx []) (o₂ := fun _ => .raw emptyDict) (fI := 72) G (by kernel_rfl!) (by kernel_rfl!) (by kernel_rfl!) (by kernel_rfl!) (fun dx => ⟨#[], rfl, .nil⟩) (fun dx => rfl) fun A' x dx hA' hx hdx hne => ?_
  have hxs : (σ.set dx (.raw emptyDict)) x = none := (AH.set_ne _ _ hne).trans hx
  refine nodeInit_code G (hA' 2 (hA.le (by decide))) ⟨AH.set_self .., AH.set_get (AH.set_self ..) hxs⟩ fun ls σ' hls h1 h2 h3 => ⟨rfl, ?_⟩
  have lx : ls ≠ x := fun z => by rw [z, AH.set_self] at hls; cases hls
  have hd0 : ((σ.set dx (.raw emptyDict)).set x (.slots 76 dx [])) dx = some (.raw emptyDict) := AH.set_get (AH.set_self ..) hxs
  have ld : ls ≠ dx := fun z => by rw [z, hd0] at hls; cases hls
  rw [AH.set_ne _ _ lx, AH.set_ne _ _ ld] at hls
  refine h ⟨k, x, dx, ls, 0, []⟩ σ' rfl rfl rfl hx hdx hls h2 (h3 dx _ (Ne.symm hne) hd0) h1 fun a o e => h3 a o (AH.ne_of e hx) ?_
  exact AH.set_get (AH.set_get e hdx) hxs

theorem sorterInit_code (G : Gd (KK w) g) (hA : AOk A 2) {x dx : Addr} {Φ : V → Loc → AH → Prop} (I : InstD σ x 173 dx [])
    (h : ∀ d σ', σ d = none → (d == sysModules) = false → σ' d = some (.idict [] 0) → σ' dx = some (.sdict [(Str.ofString "_node2info", .ref d), (Str.ofString "_ready_nodes", .none), (Str.ofString "_npassedout", .int 0), (Str.ofString "_nfinished", .int 0)]) → (∀ a o, a ≠ dx → σ a = some o → σ' a = some o) → Φ .none m σ') :
    ACode PP w g A L (.ref 109) [.ref x] [] m σ Φ := by
  refine code_def (fd := fSI w) (oc := .type "function") (od := none) (osl := #[]) (binds := [(Str.ofString "self", .ref x), (Str.ofString "graph", .none)]) G hA.room (by kernel_rfl!) (by kernel_rfl!) (by kernel_rfl!) ?_ (by kernel_rfl!) (by kernel_rfl!) (fun L' => ?_) (by kernel_rfl!) (by kernel_rfl!) (by kernel_rfl!)
  · intro pos' kw' rs rk
    obtain ⟨_, _, rfl, r0, rs⟩ := rs.c
    obtain rfl := rs.n
    obtain rfl := rk.n
    exact ⟨[(Str.ofString "self", _), (Str.ofString "graph", .none)], fun S => by kernel_rfl!, .cons r0 (.cons .none .nil)⟩
  have xdx : x ≠ dx := AH.ne_ob I.obj I.dict (by intro z; cases z)
  refine AXs_cons <| X_AssignAttr <| E_Dict0 G fun d hd hds => E_Local rfl <| set_ownA G ⟨AH.set_get I.obj hd, AH.set_get I.dict hd⟩ (by decide) ?_
  have ddx : d ≠ dx := fun z => by rw [z, I.dict] at hd; cases hd
  have dx0 : d ≠ x := fun z => by rw [z, I.obj] at hd; cases hd
  have I2 : InstD ((σ.set d (.idict [] 0)).set dx (.sdict (Loc.set [] (Str.ofString "_node2info") (.ref d)))) x 173 dx [(Str.ofString "_node2info", .ref d)] := ⟨(AH.set_ne _ _ xdx).trans (AH.set_get I.obj hd), AH.set_self ..⟩
  refine AXs_cons <| X_AssignAttr <| E_None <| E_Local rfl <| set_ownA G I2 (by simp) ?_
  rw [AH.set_set]
  have I3 : InstD ((σ.set d (.idict [] 0)).set dx (.sdict (Loc.set [(Str.ofString "_node2info", .ref d)] (Str.ofString "_ready_nodes") .none))) x 173 dx [(Str.ofString "_node2info", .ref d), (Str.ofString "_ready_nodes", .none)] := ⟨(AH.set_ne _ _ xdx).trans (AH.set_get I.obj hd), (AH.set_self ..).trans (by kernel_rfl!)⟩
  refine AXs_cons <| X_AssignAttr <| E_Int <| E_Local rfl <| set_ownA G I3 (by simp) ?_
  rw [AH.set_set]
  have I4 : InstD ((σ.set d (.idict [] 0)).set dx (.sdict (Loc.set [(Str.ofString "_node2info", .ref d), (Str.ofString "_ready_nodes", .none)] (Str.ofString "_npassedout") (.int 0)))) x 173 dx [(Str.ofString "_node2info", .ref d), (Str.ofString "_ready_nodes", .none), (Str.ofString "_npassedout", .int 0)] := ⟨(AH.set_ne _ _ xdx).trans (AH.set_get I.obj hd), (AH.set_self ..).trans (by kernel_rfl!)⟩
  refine AXs_cons <| X_AssignAttr <| E_Int <| E_Local rfl <| set_ownA G I4 (by simp) ?_
  rw [AH.set_set]
  refine AXs_cons <| X_If <| T_Compare1 <| E_Local rfl <| E_None <| isNot_None rfl <| tr_B ⟨fun hb => absurd hb (by decide), fun _ => AXs_nil <| AXs_nil ⟨_, Sub.refl _, ?_⟩⟩
  refine h d _ hd hds ?_ ((AH.set_self ..).trans (by kernel_rfl!)) fun a o ha e => (AH.set_ne _ _ ha).trans (AH.set_get e hd)
  rw [AH.set_ne _ _ ddx, AH.set_self]

theorem sorter_make (G : Gd (KK w) g) (hA : AOk A 4) {Φ : V → Loc → AH → Prop} (h : ∀ (D : SD) σ', D.ready = none → D.po = 0 → D.fi = 0 → D.nodes = [] → SOk σ σ' D → Φ (.ref D.x) m σ') :
    ACall PP w g A L (.ref 173) [] [] m σ Φ := by
  refine call_make (o₁ := fun dx => .raw (instObj 173 dx)) (o₂ := fun _ => .sdict []) (fI := 109) G (by kernel_rfl!) (by kernel_rfl!) (by kernel_rfl!) (by kernel_rfl!) (fun dx => rfl) (fun dx => ⟨[], 0, rfl, .nil⟩) fun A' x dx hA' hx hdx hne => ?_
  have hxs : (σ.set dx (.sdict [])) x = none := (AH.set_ne _ _ hne).trans hx
  have hd0 : ((σ.set dx (.sdict [])).set x (.raw (instObj 173 dx))) dx = some (.sdict []) := AH.set_get (AH.set_self ..) hxs
  refine sorterInit_code G (hA' 2 (hA.le (by decide))) ⟨AH.set_self .., hd0⟩ fun d σ' hd hds h1 h2 h3 => ⟨rfl, ?_⟩
  have dx1 : d ≠ x := fun z => by rw [z, AH.set_self] at hd; cases hd
  have dx2 : d ≠ dx := fun z => by rw [z, hd0] at hd; cases hd
  rw [AH.set_ne _ _ dx1, AH.set_ne _ _ dx2] at hd
  refine h ⟨x, dx, d, none, 0, 0, [], 0⟩ σ' rfl rfl rfl rfl ⟨⟨h3 x _ hne (AH.set_self ..), h2⟩, h1, hds, (fun n hn => nomatch hn), List.nodup_nil, List.nodup_nil, (fun p hp => nomatch hp), fun a o e => h3 a o (AH.ne_of e hdx) (AH.set_get (AH.set_get e hdx) hxs), ⟨hx, hdx, hd⟩, (fun n hn => nomatch hn), (fun p hp => nomatch hp)⟩
end
end Mine

namespace Mine
open PySem PySem.W PyProof.Rows

noncomputable def Nd.p (n : Nd) : Int × Int × List Int := (n.key, n.np, n.succ)
noncomputable def SD.p (D : SD) : List (Int × Int × List Int) := D.nodes.map Nd.p
structure SD.Same (D D' : SD) : Prop where
  x : D'.x = D.x
  ready : D'.ready = D.ready
  po : D'.po = D.po
  fi : D'.fi = D.fi
theorem SD.Same.refl (D : SD) : D.Same D := ⟨rfl, rfl, rfl, rfl⟩
theorem SD.Same.trans {D D' D'' : SD} (a : D.Same D') (b : D'.Same D'') : D.Same D'' := ⟨b.x.trans a.x, b.ready.trans a.ready, b.po.trans a.po, b.fi.trans a.fi⟩
theorem keys_p (D : SD) : D.p.map (·.1) = D.nodes.map (·.key) := by unfold SD.p; rw [List.map_map]; rfl

/-- k told to the node p as one that comes behind -/
noncomputable def pApp (k : Int) (ns : List (Int × Int × List Int)) (p : Int) : List (Int × Int × List Int) := ns.map fun t => if t.1 = p then (t.1, t.2.1, t.2.2 ++ [k]) else t
noncomputable def pAdd (ns : List (Int × Int × List Int)) (k : Int) (preds : List Int) : List (Int × Int × List Int) := preds.foldl (pApp k) (ns ++ [(k, (preds.length : Int), [])])
theorem pApp_keys (k : Int) (ns : List (Int × Int × List Int)) (p : Int) : (pApp k ns p).map (·.1) = ns.map (·.1) := by
  unfold pApp; rw [List.map_map]
  refine List.map_congr_left fun t _ => ?_
  show (if t.1 = p then (t.1, t.2.1, t.2.2 ++ [k]) else t).1 = t.1
  split <;> rfl
theorem foldl_pApp_keys (k : Int) (ps : List Int) (ns : List (Int × Int × List Int)) : (ps.foldl (pApp k) ns).map (·.1) = ns.map (·.1) := by
  induction ps generalizing ns with
  | nil => rfl
  | cons p ps ih => rw [List.foldl_cons, ih, pApp_keys]

theorem SOk.addNode {σ₀ σ σ' : AH} {D : SD} (h : SOk σ₀ σ D) {n : Nd} (hk : n.key ∉ D.nodes.map (·.key)) (f1 : σ n.a = none) (f2 : σ n.da = none) (f3 : σ n.ls = none) (h1 : σ' n.a = some n.ob) (h2 : σ' n.da = some (.raw emptyDict)) (h3 : σ' n.ls = some (.list (ivs n.succ))) (hs : Sub σ σ') (ep' : Nat) :
    SOk σ₀ (σ'.set D.d (.idict ((D.nodes ++ [n]).map fun n => (n.key, V.ref n.a)) ep')) { D with nodes := D.nodes ++ [n], ep := ep' } := by
  have hd := hs _ _ h.dict
  have off : ∀ a, σ a = none → σ₀ a = none := fun a e => by
    cases z : σ₀ a with
    | none => rfl
    | some o => rw [h.sub _ _ z] at e; cases e
  have key : ∀ n' ∈ D.nodes ++ [n], n' ∈ D.nodes ∨ n' = n := fun n' hn' => by
    rcases List.mem_append.mp hn' with q | q
    · exact .inl q
    · exact .inr (List.mem_singleton.mp q)
  refine ⟨⟨?_, ?_⟩, AH.set_self .., h.sys, fun n' hn' => ?_, ?_, ?_, fun p hp => ⟨?_, fun n' hn' => ?_⟩, fun a o e => ?_, h.off0, fun n' hn' => ?_, h.offr⟩
  · have := hs _ _ h.inst.obj; exact (AH.set_ne _ _ (AH.ne_ob this hd (by intro z; cases z))).trans this
  · have := hs _ _ h.inst.dict; exact (AH.set_ne _ _ (AH.ne_ob this hd (by intro z; cases z))).trans this
  · rcases key n' hn' with q | rfl
    · obtain ⟨g1, g2, g3⟩ := h.node n' q
      exact ⟨(AH.set_ne _ _ (AH.ne_ob (hs _ _ g1) hd (by intro z; cases z))).trans (hs _ _ g1), (AH.set_ne _ _ (AH.ne_ob (hs _ _ g2) hd (by intro z; cases z))).trans (hs _ _ g2), (AH.set_ne _ _ (AH.ne_ob (hs _ _ g3) hd (by intro z; cases z))).trans (hs _ _ g3)⟩
    · exact ⟨(AH.set_ne _ _ (AH.ne_ob h1 hd (by intro z; cases z))).trans h1, (AH.set_ne _ _ (AH.ne_ob h2 hd (by intro z; cases z))).trans h2, (AH.set_ne _ _ (AH.ne_ob h3 hd (by intro z; cases z))).trans h3⟩
  · show ((D.nodes ++ [n]).map (·.key)).Nodup
    rw [List.map_append, List.nodup_append]
    refine ⟨h.keys, by simp, fun a ha b hb => ?_⟩
    simp at hb
    rw [hb]; exact fun z => hk (z ▸ ha)
  · show ((D.nodes ++ [n]).map (·.ls)).Nodup
    rw [List.map_append, List.nodup_append]
    refine ⟨h.lss, by simp, fun a ha b hb => ?_⟩
    simp at hb
    rw [hb]
    rintro rfl
    obtain ⟨n', hn', e⟩ := List.mem_map.mp ha
    have := (h.node n' hn').2.2
    rw [e, f3] at this; cases this
  · have := hs _ _ (h.rdy p hp).1
    exact (AH.set_ne _ _ (AH.ne_ob this hd (by intro z; cases z))).trans this
  · rcases key n' hn' with q | rfl
    · exact (h.rdy p hp).2 n' q
    · intro z
      have := (h.rdy p hp).1
      rw [← z, f3] at this; cases this
  · exact (AH.set_ne _ _ (fun z => by rw [z, h.off0.2.2] at e; cases e)).trans (hs _ _ (h.sub _ _ e))
  · rcases key n' hn' with q | rfl
    · exact h.offn n' q
    · exact ⟨off _ f1, off _ f2, off _ f3⟩

section
variable {w : World} {g : Heap} {A : Around} {L : Addr} {m : Loc} {σ σ₀ : AH} {D : SD}

theorem X_Two {prog : Program} {env : Env} {t1 t2 value : Expr} {pos : Pos} {Φ : F → Loc → AH → Prop} (h : AE prog w g A env value m σ fun v m₁ σ₁ => AAsg prog w g A env t1 v m₁ σ₁ fun m₂ σ₂ => AAsg prog w g A env t2 v m₂ σ₂ fun m₃ σ₃ => Φ .next m₃ σ₃)
    (he : exec (.Assign [t1, t2] value pos) env = (do
      standAt pos
      let v ← eval value env
      let _ ← (do holding [v] (assign t1 env v); assign t2 env v)
      pure .next) := by kernel_rfl!) : AX prog w g A env (.Assign [t1, t2] value pos) m σ Φ := fun s Q E S c => by
  rw [he]
  refine wpAny_bind (wpAny_standAt (wpAny_bind (h s _ E S fun v a m₁ σ₁ h₁ tk p r S₁ T₁ => wpAny_bind (wpAny_bind (wpAny_holding ?_)))))
  refine p a r { s with heap := h₁, toks := tk } _ E S₁ fun _ _ m₂ σ₂ h₂ tk₂ p₂ _ S₂ T₂ => ?_
  exact p₂ a r { s with heap := h₂, toks := tk₂ } _ E S₂ fun _ _ m₃ σ₃ h₃ tk₃ p₃ _ S₃ T₃ => wpAny_pure (c _ _ _ _ h₃ tk₃ p₃ .next S₃ (T₁.trans (T₂.trans T₃)))

theorem gn_binds (w : World) (x : Addr) (k : Int) : ABind (KK w) (fGN w) [.ref x, .int k] [] [(Str.ofString "self", .ref x), (Str.ofString "node", .int k)] := by
  intro pos' kw' rs rk
  obtain ⟨_, _, rfl, r0, rs⟩ := rs.c
  obtain ⟨_, _, rfl, r1, rs⟩ := rs.c
  obtain rfl := rs.n
  obtain rfl := rk.n
  exact ⟨[(Str.ofString "self", _), (Str.ofString "node", _)], fun S => by kernel_rfl!, .cons r0 (.cons r1 .nil)⟩

theorem info_old (G : Gd (KK w) g) (hA : AOk A 6) (h : SOk σ₀ σ D) {n : Nd} (hn : n ∈ D.nodes) {Φ : V → Loc → AH → Prop} (hΦ : Φ (.ref n.a) m σ) : ACode PP w g A L (.ref 116) [.ref D.x, .int n.key] [] m σ Φ := by
  refine code_def (fd := fGN w) (oc := .type "function") (od := none) (osl := #[]) G hA.room (by kernel_rfl!) (by kernel_rfl!) (by kernel_rfl!) (gn_binds w D.x n.key) (by kernel_rfl!) (by kernel_rfl!) (fun L' => ?_) (by kernel_rfl!) (by kernel_rfl!) (by kernel_rfl!)
  refine AXs_cons <| X_If <| T_Compare1 <| E_Named <| E_CallAttr (few := true) (by kernel_rfl!) <| E_Attr <| E_Local rfl <| get_ownA G h.inst rfl rfl <| callee_dict h.dict F.slot_dict_get F.type_dict_get <| Args_cons <| E_Local rfl <| Args_nil' <| Kws_nil <| call_dict_get h.sys h.dict ?_
  rw [h.lookup hn]
  refine asg_local <| E_None <| is_None rfl <| tr_B ⟨fun hb => absurd hb Bool.false_ne_true, fun _ => AXs_nil <| AXs_cons <| X_Return <| E_Local rfl ⟨_, Sub.refl _, hΦ⟩⟩

theorem info_new (G : Gd (KK w) g) (hA : AOk A 6) (h : SOk σ₀ σ D) {k : Int} (hk : k ∉ D.nodes.map (·.key)) (hz : D.nodes.length ≤ 900) {Φ : V → Loc → AH → Prop}
    (hΦ : ∀ (n : Nd) σ' D', n.key = k → n.np = 0 → n.succ = [] → SOk σ₀ σ' D' → D'.nodes = D.nodes ++ [n] → D.Same D' → Φ (.ref n.a) m σ') : ACode PP w g A L (.ref 116) [.ref D.x, .int k] [] m σ Φ := by
  refine code_def (fd := fGN w) (oc := .type "function") (od := none) (osl := #[]) G hA.room (by kernel_rfl!) (by kernel_rfl!) (by kernel_rfl!) (gn_binds w D.x k) (by kernel_rfl!) (by kernel_rfl!) (fun L' => ?_) (by kernel_rfl!) (by kernel_rfl!) (by kernel_rfl!)
  have hA' := hA.deeper (callEnv (fGN w) L' 116)
  refine AXs_cons <| X_If <| T_Compare1 <| E_Named <| E_CallAttr (few := true) (by kernel_rfl!) <| E_Attr <| E_Local rfl <| get_ownA G h.inst rfl rfl <| callee_dict h.dict F.slot_dict_get F.type_dict_get <| Args_cons <| E_Local rfl <| Args_nil' <| Kws_nil <| call_dict_get h.sys h.dict ?_
  rw [h.lookup_none hk]
  refine asg_local <| E_None <| is_None rfl <| tr_B ⟨fun _ => ?_, fun hb => absurd hb (by decide)⟩
  refine AXs_cons <| X_Two <| E_Call <| E_Global G (by kernel_rfl!) (.ref 76) <| Args_cons <| E_Local rfl <| Args_nil' <| Kws_nil <| node_make G (hA'.le (by decide)) fun n σ' e1 e2 e3 f1 f2 f3 h1 h2 h3 hs => ?_
  refine asg_sub <| E_Attr <| E_Local rfl <| get_ownA G ⟨hs _ _ h.inst.obj, hs _ _ h.inst.dict⟩ rfl rfl <| E_Local rfl ⟨D.d, _, D.ep, k, rfl, rfl, hs _ _ h.dict, by rw [List.length_map]; omega, fun ep' => ?_⟩
  refine asg_local <| AXs_nil <| AXs_cons <| X_Return <| E_Local rfl ⟨_, Sub.refl _, ?_⟩
  subst e1
  have e : putI (D.nodes.map fun n => (n.key, V.ref n.a)) n.key (.ref n.a) = (D.nodes ++ [n]).map fun n => (n.key, V.ref n.a) := by
    unfold putI
    rw [if_neg, List.map_append]
    · rfl
    · rw [List.any_eq_true]
      rintro ⟨kv, hkv, hq⟩
      obtain ⟨n', hn', rfl⟩ := List.mem_map.mp hkv
      exact hk (List.mem_map.mpr ⟨n', hn', of_decide_eq_true hq⟩)
  rw [e]
  exact hΦ n _ _ rfl e2 e3 (h.addNode hk f1 f2 f3 h1 h2 (by rw [e3]; exact h3) hs ep') rfl ⟨rfl, rfl, rfl, rfl⟩
end
end Mine

namespace Mine
open PySem PySem.W PyProof.Rows

theorem SD.rv_small (D : SD) : D.rv.small = true := by unfold SD.rv; split <;> rfl
theorem SD.rv_none {D : SD} (h : D.ready = none) : D.rv = .none := by unfold SD.rv; rw [h]
theorem SD.rv_some {D : SD} {p : Addr × List Int} (h : D.ready = some p) : D.rv = .ref p.1 := by unfold SD.rv; rw [h]
theorem SOk.instS {σ₀ σ : AH} {D : SD} (h : SOk σ₀ σ D) {n : Nd} (hn : n ∈ D.nodes) : InstS σ n.a 76 n.da [some (.int n.key), some (.int n.np), some (.ref n.ls)] := ⟨(h.node n hn).1, (h.node n hn).2.1⟩
theorem mem_key {D : SD} {k : Int} (h : k ∈ D.p.map (·.1)) : ∃ n ∈ D.nodes, n.key = k := by
  rw [keys_p] at h
  obtain ⟨n, hn, e⟩ := List.mem_map.mp h
  exact ⟨n, hn, e⟩
theorem atNode_p_app {ns : List Nd} (hk : (ns.map (·.key)).Nodup) {n : Nd} (hn : n ∈ ns) (k : Int) : (atNode n.key (fun q => { q with succ := n.succ ++ [k] }) ns).map Nd.p = pApp k (ns.map Nd.p) n.key := by
  unfold atNode pApp
  rw [List.map_map, List.map_map]
  refine List.map_congr_left fun q hq => ?_
  show Nd.p (if q.key = n.key then { q with succ := n.succ ++ [k] } else q) = if q.key = n.key then (q.key, q.np, q.succ ++ [k]) else Nd.p q
  by_cases e : q.key = n.key
  · rw [if_pos e, if_pos e, nodup_inj hk hq hn e]; rfl
  · rw [if_neg e, if_neg e]
/-- the node k's count turns -/
noncomputable def pSet (k : Int) (v : Int) (ns : List (Int × Int × List Int)) : List (Int × Int × List Int) := ns.map fun t => if t.1 = k then (t.1, v, t.2.2) else t
theorem atNode_p_np (ns : List Nd) (k v : Int) : (atNode k (fun q => { q with np := v }) ns).map Nd.p = pSet k v (ns.map Nd.p) := by
  unfold atNode pSet
  rw [List.map_map, List.map_map]
  refine List.map_congr_left fun q hq => ?_
  show Nd.p (if q.key = k then { q with np := v } else q) = if q.key = k then (q.key, v, q.succ) else Nd.p q
  by_cases e : q.key = k
  · rw [if_pos e, if_pos e]; rfl
  · rw [if_neg e, if_neg e]
theorem pSet_keys (k v : Int) (ns : List (Int × Int × List Int)) : (pSet k v ns).map (·.1) = ns.map (·.1) := by
  unfold pSet; rw [List.map_map]
  refine List.map_congr_left fun t _ => ?_
  show (if t.1 = k then (t.1, v, t.2.2) else t).1 = t.1
  split <;> rfl
theorem p_length (D : SD) : D.p.length = D.nodes.length := by unfold SD.p; simp

section
variable {w : World} {g : Heap} {A : Around} {L : Addr} {m : Loc} {σ σ₀ : AH} {D : SD}

noncomputable abbrev fAdd (w : World) : FuncData := fnAt (KK w) 123

theorem add_code (G : Gd (KK w) g) (hA : AOk A 8) (h : SOk σ₀ σ D) (hr : D.ready = none) {k : Int} {preds : List Int} (hk : k ∉ D.p.map (·.1)) (hp : ∀ p ∈ preds, p ∈ D.p.map (·.1)) (hz : D.nodes.length ≤ 800) (hzp : preds.length ≤ 400)
    (hsl : ∀ t ∈ D.p, t.2.2.length ≤ 400) {Φ : V → Loc → AH → Prop} (hΦ : ∀ σ' D', SOk σ₀ σ' D' → D.Same D' → D'.p = pAdd D.p k preds → Φ .none m σ') :
    ACode PP w g A L (.ref 123) (.ref D.x :: .int k :: ivs preds) [] m σ Φ := by
  refine code_defV (pos := [.ref D.x, .int k]) (extra := ivs preds) (names := [Str.ofString "self", Str.ofString "node"]) (nm := Str.ofString "predecessors") (fd := fAdd w) (oc := .type "function") (od := none) (osl := #[]) G hA.room (by kernel_rfl!) (by kernel_rfl!) (by kernel_rfl!) ?_ (by rw [ivs_length]; omega) (by kernel_rfl!) (by kernel_rfl!) (fun L' T hT => ?_) (by kernel_rfl!) (by kernel_rfl!) (by kernel_rfl!)
  · intro pos' extra' rs
    obtain ⟨_, _, rfl, r0, rs⟩ := rs.c
    obtain ⟨_, _, rfl, r1, rs⟩ := rs.c
    obtain rfl := rs.n
    cases extra' <;> kernel_rfl!
  have hA' := hA.deeper (callEnv (fAdd w) L' 123)
  have h1 := h.fresh (o := .tuple (ivs preds)) hT
  have hT0 : (σ₀.set T (.tuple (ivs preds))) T = some (.tuple (ivs preds)) := AH.set_self ..
  have hless : Sub σ₀ (σ₀.set T (.tuple (ivs preds))) := Sub.set (by
    cases z : σ₀ T with
    | none => rfl
    | some o => rw [h.sub _ _ z] at hT; cases hT)
  generalize (σ₀.set T (.tuple (ivs preds))) = τ₀ at h1 hT0 hless
  generalize (σ.set T (.tuple (ivs preds))) = τ at h1 ⊢
  show AXs PP w g _ _ _ [(Str.ofString "predecessors", .ref T), (Str.ofString "node", .int k), (Str.ofString "self", .ref D.x)] τ _
  refine AXs_cons <| X_If <| T_Compare1 <| E_Attr <| E_Local rfl <| get_ownA G h1.inst (v := D.rv) rfl D.rv_small <| E_None <| isNot_None D.rv_small <| tr_B ⟨fun hb => absurd hb (by rw [SD.rv_none hr]; decide), fun _ => AXs_nil ?_⟩
  refine AXs_cons <| X_AssignLocal <| E_CallAttr (few := true) (by kernel_rfl!) <| E_Local rfl <| callee_meth G 116 h1.inst rfl <| Args_cons <| E_Local rfl <| Args_nil' <| Kws_nil <| call_of_code (oc := .type "function") (od := none) (fd := fGN w) (osl := #[]) G (by kernel_rfl!) <| info_new G (hA'.le (by decide)) h1 (by rw [← keys_p]; exact hk) (by omega) fun n σ₁ D₁ e1 e2 e3 h2 hn1 s1 => ?_
  have hn : n ∈ D₁.nodes := by rw [hn1]; exact List.mem_append_right _ (List.mem_singleton.mpr rfl)
  refine AXs_cons <| X_AugAttr <| E_Local rfl <| get_slotA G 78 1 (h2.instS hn) rfl rfl <| E_Call <| E_Builtin G (by kernel_rfl!) boot_len (.blt _) <| Args_cons <| E_Local rfl <| Args_nil' <| Kws_nil <| call_len_tuple (h2.sub _ _ hT0) (iadd_I <| set_slotA G 78 1 (h2.instS hn) ?_) (by rw [ivs_length]; omega)
  rw [ivs_length, e2, Int.zero_add]
  have h3 : SOk τ₀ (σ₁.set n.a (.slots 76 n.da (putSlot [some (.int n.key), some (.int 0), some (.ref n.ls)] 1 (.int (preds.length : Int))))) _ := h2.setNp hn (preds.length : Int)
  have p3 : ({ D₁ with nodes := atNode n.key (fun q => { q with np := (preds.length : Int) }) D₁.nodes } : SD).p = D.p ++ [(k, (preds.length : Int), [])] := by
    show (atNode n.key (fun q => { q with np := (preds.length : Int) }) D₁.nodes).map Nd.p = _
    rw [atNode_p_np, hn1, List.map_append]
    unfold pSet
    rw [List.map_append]
    congr 1
    · refine (List.map_congr_left fun t ht => ?_).trans (List.map_id _)
      have : t.1 ≠ n.key := fun z => hk (by rw [← e1, ← z]; exact List.mem_map_of_mem ht)
      rw [if_neg this]; rfl
    · show [if n.key = n.key then (n.key, _, n.succ) else Nd.p n] = _
      rw [if_pos rfl, e1, e3]
  have s3 : D.Same { D₁ with nodes := atNode n.key (fun q => { q with np := (preds.length : Int) }) D₁.nodes } := ⟨s1.x, s1.ready, s1.po, s1.fi⟩
  generalize (σ₁.set n.a (.slots 76 n.da (putSlot [some (.int n.key), some (.int 0), some (.ref n.ls)] 1 (.int (preds.length : Int))))) = σ₂ at h3 ⊢
  generalize ({ D₁ with nodes := atNode n.key (fun q => { q with np := (preds.length : Int) }) D₁.nodes } : SD) = D₂ at h3 p3 s3
  refine AXs_cons <| X_For <| E_Local rfl ⟨ivs preds, _, fun i m' σ' => m' = [(Str.ofString "predecessors", .ref T), (Str.ofString "node", .int k), (Str.ofString "self", .ref D.x), (Str.ofString "nodeinfo", .ref n.a)] ∧ ∃ D', SOk τ₀ σ' D' ∧ D.Same D' ∧ D'.p = (preds.take i).foldl (pApp k) (D.p ++ [(k, (preds.length : Int), [])]) ∧ ∀ t ∈ D'.p, t.2.2.length ≤ 400 + i, iter_tuple hA'.handled, ?_, ?_, ?_, ?_⟩
  · refine ⟨rfl, D₂, h3, s3, p3, fun t ht => ?_⟩
    rw [p3] at ht
    rcases List.mem_append.mp ht with ht | ht
    · have := hsl t ht; omega
    · rw [List.mem_singleton.mp ht]; exact Nat.zero_le _
  · rintro i m' σ' ⟨_, D', h', _⟩; exact h'.sub _ _ hT0
  · rintro i v m' σ' hv ⟨rfl, D', h', s', p', hlen⟩
    have hi : i < preds.length := by have := (List.getElem?_eq_some_iff.mp hv).1; rwa [ivs_length] at this
    obtain ⟨p, hpi, rfl⟩ := ivs_at hv
    have hmem : p ∈ D'.p.map (·.1) := by
      rw [p', foldl_pApp_keys, List.map_append]
      exact List.mem_append_left _ (hp p (List.mem_of_getElem? hpi))
    obtain ⟨q, hq, rfl⟩ := mem_key hmem
    refine asg_local ?_
    rw [← s'.x]
    refine AXs_cons <| X_AssignLocal <| E_CallAttr (few := true) (by kernel_rfl!) <| E_Local rfl <| callee_meth G 116 h'.inst rfl <| Args_cons <| E_Local rfl <| Args_nil' <| Kws_nil <| call_of_code (oc := .type "function") (od := none) (fd := fGN w) (osl := #[]) G (by kernel_rfl!) <| info_old G (hA'.le (by decide)) h' hq ?_
    have hls := (h'.node q hq).2.2
    refine AXs_cons <| X_Expr <| E_CallAttr (few := true) (by kernel_rfl!) <| E_Attr <| E_Local rfl <| get_slotA G 79 2 (h'.instS hq) rfl rfl <| callee_list hls F.slot_list_append F.type_list_append <| Args_cons <| E_Local rfl <| Args_nil' <| Kws_nil <| call_list_append hls ?_ <| AXs_nil ?_
    · rw [ivs_length]
      have : q.succ.length ≤ 400 + i := hlen (Nd.p q) (List.mem_map_of_mem hq)
      omega
    · have e : ivs q.succ ++ [V.int k] = ivs (q.succ ++ [k]) := by unfold ivs; rw [List.map_append]; rfl
      rw [e]
      refine Fgt.now' (m' := [(Str.ofString "predecessors", .ref T), (Str.ofString "node", .int k), (Str.ofString "self", .ref D'.x), (Str.ofString "nodeinfo", .ref n.a)]) (LSub.pre [(_, _), (_, _), (_, _), (_, _)] [(_, _), (_, _)]) ⟨by rw [s'.x], _, h'.setSucc hq (q.succ ++ [k]), ⟨s'.x, s'.ready, s'.po, s'.fi⟩, ?_, fun t ht => ?_⟩
      · show (atNode q.key (fun r => { r with succ := q.succ ++ [k] }) D'.nodes).map Nd.p = _
        rw [atNode_p_app h'.keys hq k]
        show pApp k D'.p q.key = _
        rw [p', foldl_take_succ _ _ _ _ _ hpi]
      · have ht : t ∈ (atNode q.key (fun r => { r with succ := q.succ ++ [k] }) D'.nodes).map Nd.p := ht
        rw [atNode_p_app h'.keys hq k] at ht
        obtain ⟨t', ht', rfl⟩ := List.mem_map.mp ht
        have := hlen t' ht'
        split
        · simp; omega
        · omega
  · rintro m' σ' ⟨rfl, D', h', s', p', _⟩
    rw [ivs_length, List.take_length] at p'
    exact AXs_nil <| AXs_nil ⟨_, Sub.refl _, hΦ σ' D' (h'.less hless) s' p'⟩
end
end Mine

namespace Mine
open PySem PySem.W PyProof.Rows

theorem meets_bool_list (l : Addr) (items : Array Value) (hfit : (items.size : Int) < 2 ^ 63) :
    Meets (Builtin.«bool.__new__» ⟨[.type "bool", .ref l], []⟩) (fun _ R s => s.heap.IsList l items ∧ ∀ tk, R (.ok (.ret (.bool (!items.isEmpty)))) { s with toks := tk }) :=
  Meets.of_wp fun prog w A R s hs => by
    obtain ⟨hl, hs⟩ := hs
    obtain ⟨hp, g, d, tk, os⟩ := s
    have f1 := F.conv_sub_bool
    repeat (any_goals (first | assumption | (with_reducible refine wpAny_truthy_list hl hfit ?_) | wp_step))
    all_goals first | exact ⟨_, rfl, hs _⟩ | exact hs _ | skip

section
variable {w : World} {g : Heap} {A : Around} {L : Addr} {m : Loc} {σ σ₀ : AH} {D : SD}

theorem call_bool_list {prog : Program} {l : Addr} {xs : List V} {Φ : V → Loc → AH → Prop} (hl : σ l = some (.list xs)) (hz : xs.length ≤ 1000) (h : Φ (.bool (!xs.isEmpty)) m σ) : ACall prog w g A L (.typ "bool") [.ref l] [] m σ Φ := by
  intro f' pos' kw' r rs rk
  obtain rfl := r.t
  obtain rfl := rk.n
  obtain ⟨_, _, rfl, r1, rs⟩ := rs.c
  obtain rfl := rs.n
  obtain rfl := r1.r
  refine ⟨keeper_typ, fun s Q E S c => ?_⟩
  obtain ⟨items, hi, rx⟩ := S.list hl
  refine call_bool_1 (meets_bool_list l items (by rw [rx.len2]; omega)) ⟨hi, fun tk => ⟨rfl, c _ _ _ _ s.heap tk h ?_ S (Tr.refl ..)⟩⟩
  have e : items.isEmpty = xs.isEmpty := by
    unfold Array.isEmpty
    rw [rx.len2]
    cases xs <;> rfl
  rw [e]
  exact .bool _

noncomputable abbrev fAct (w : World) : FuncData := fnAt (KK w) 142
noncomputable abbrev fGet (w : World) : FuncData := fnAt (KK w) 135

theorem self_binds (w : World) (f : Addr) (x : Addr) (hb : ∀ v S, peek (KK w) S (bindArgs (fnAt (KK w) f) ⟨[v], []⟩) = some [(Str.ofString "self", v)]) : ABind (KK w) (fnAt (KK w) f) [.ref x] [] [(Str.ofString "self", .ref x)] := by
  intro pos' kw' rs rk
  obtain ⟨_, _, rfl, r0, rs⟩ := rs.c
  obtain rfl := rs.n
  obtain rfl := rk.n
  exact ⟨[(Str.ofString "self", _)], fun S => hb _ S, .cons r0 .nil⟩

theorem active_code (G : Gd (KK w) g) (hA : AOk A 4) (h : SOk σ₀ σ D) {lr : Addr} {rs : List Int} (hr : D.ready = some (lr, rs)) (hz : rs.length ≤ 900) {Φ : V → Loc → AH → Prop} (hΦ : Φ (.bool (decide (D.fi < D.po) || !rs.isEmpty)) m σ) :
    ACode PP w g A L (.ref 142) [.ref D.x] [] m σ Φ := by
  refine code_def (fd := fAct w) (oc := .type "function") (od := none) (osl := #[]) G hA.room (by kernel_rfl!) (by kernel_rfl!) (by kernel_rfl!) (self_binds w 142 D.x fun v S => by kernel_rfl!) (by kernel_rfl!) (by kernel_rfl!) (fun L' => ?_) (by kernel_rfl!) (by kernel_rfl!) (by kernel_rfl!)
  have hrv := SD.rv_some hr
  refine AXs_cons <| X_If <| T_Compare1 <| E_Attr <| E_Local rfl <| get_ownA G h.inst (v := D.rv) rfl D.rv_small <| E_None <| is_None D.rv_small <| tr_B ⟨fun hb => absurd hb (by rw [hrv]; exact Bool.false_ne_true), fun _ => AXs_nil ?_⟩
  refine AXs_cons <| X_Return <| E_Or2 <| E_Compare1 <| E_Attr <| E_Local rfl <| get_ownA G h.inst (v := .int D.fi) rfl rfl <| E_Attr <| E_Local rfl <| get_ownA G h.inst (v := .int D.po) rfl rfl <| lt_I <| tr_B ⟨fun hb => ⟨_, Sub.refl _, ?_⟩, fun hb => ?_⟩
  · rw [hb, Bool.true_or] at hΦ
    rw [hb]; exact hΦ
  · rw [hb, Bool.false_or] at hΦ
    refine E_Call <| E_Builtin G (by kernel_rfl!) boot_bool (.typ _) <| Args_cons <| E_Attr <| E_Local rfl <| get_ownA G h.inst (v := D.rv) rfl D.rv_small ?_
    rw [hrv]
    refine Args_nil' <| Kws_nil <| call_bool_list (h.rdy _ hr).1 (by rw [ivs_length]; exact Nat.le_trans hz (by decide)) ⟨_, Sub.refl _, ?_⟩
    have e : (ivs rs).isEmpty = rs.isEmpty := by cases rs <;> rfl
    rw [e]; exact hΦ

theorem get_code (G : Gd (KK w) g) (hA : AOk A 4) (h : SOk σ₀ σ D) {lr : Addr} {rs : List Int} (hr : D.ready = some (lr, rs)) (hz : rs.length ≤ 900) (hk : ∀ k ∈ rs, k ∈ D.p.map (·.1)) {Φ : V → Loc → AH → Prop}
    (hΦ : ∀ t σ' D', σ₀ t = none → SOk (σ₀.set t (.tuple (ivs rs))) σ' D' → D'.x = D.x → D'.ready = some (lr, []) → D'.po = D.po + rs.length → D'.fi = D.fi → D'.p = rs.foldl (fun ns k => pSet k (-1) ns) D.p → Φ (.ref t) m σ') :
    ACode PP w g A L (.ref 135) [.ref D.x] [] m σ Φ := by
  refine code_def (fd := fGet w) (oc := .type "function") (od := none) (osl := #[]) G hA.room (by kernel_rfl!) (by kernel_rfl!) (by kernel_rfl!) (self_binds w 135 D.x fun v S => by kernel_rfl!) (by kernel_rfl!) (by kernel_rfl!) (fun L' => ?_) (by kernel_rfl!) (by kernel_rfl!) (by kernel_rfl!)
  have hA' := hA.deeper (callEnv (fGet w) L' 135)
  have hrv := SD.rv_some hr
  refine AXs_cons <| X_If <| T_Compare1 <| E_Attr <| E_Local rfl <| get_ownA G h.inst (v := D.rv) rfl D.rv_small <| E_None <| is_None D.rv_small <| tr_B ⟨fun hb => absurd hb (by rw [hrv]; exact Bool.false_ne_true), fun _ => AXs_nil ?_⟩
  refine AXs_cons <| X_AssignLocal <| E_Call <| E_Builtin G (by kernel_rfl!) boot_tuple (.typ _) <| Args_cons <| E_Attr <| E_Local rfl <| get_ownA G h.inst (v := D.rv) rfl D.rv_small ?_
  rw [hrv]
  refine Args_nil' <| Kws_nil <| call_tuple_of (h.rdy _ hr).1 (by rw [ivs_length]; exact Nat.le_trans hz (by decide)) fun t ht => ?_
  have ht0 : σ₀ t = none := by
    cases z : σ₀ t with
    | none => rfl
    | some o => rw [h.sub _ _ z] at ht; cases ht
  have h1 := h.fresh (o := .tuple (ivs rs)) ht
  have hT0 : (σ₀.set t (.tuple (ivs rs))) t = some (.tuple (ivs rs)) := AH.set_self ..
  replace hΦ := fun σ' D' => hΦ t σ' D' ht0
  generalize (σ₀.set t (.tuple (ivs rs))) = τ₀ at h1 hT0 hΦ
  generalize (σ.set t (.tuple (ivs rs))) = τ at h1 ⊢
  refine AXs_cons <| X_AssignLocal <| E_Attr <| E_Local rfl <| get_ownA G h1.inst (v := .ref D.d) rfl rfl ?_
  refine AXs_cons <| X_For <| E_Local rfl ⟨ivs rs, _, fun i m' σ' => m' = [(Str.ofString "self", .ref D.x), (Str.ofString "result", .ref t), (Str.ofString "n2i", .ref D.d)] ∧ ∃ D', SOk τ₀ σ' D' ∧ D.Same D' ∧ D'.d = D.d ∧ D'.p = (rs.take i).foldl (fun ns k => pSet k (-1) ns) D.p, iter_tuple hA'.handled, ⟨rfl, D, h1, .refl D, rfl, rfl⟩, ?_, ?_, ?_⟩
  · rintro i m' σ' ⟨_, D', h', _⟩; exact h'.sub _ _ hT0
  · rintro i v m' σ' hv ⟨rfl, D', h', s', d', p'⟩
    obtain ⟨k, hki, rfl⟩ := ivs_at hv
    have keys : ∀ (l : List Int) (ns : List (Int × Int × List Int)), (l.foldl (fun ns k => pSet k (-1) ns) ns).map (·.1) = ns.map (·.1) := by
      intro l
      induction l with
      | nil => intro ns; rfl
      | cons a l ih => intro ns; rw [List.foldl_cons, ih, pSet_keys]
    have hmem : k ∈ D'.p.map (·.1) := by rw [p', keys]; exact hk k (List.mem_of_getElem? hki)
    obtain ⟨q, hq, rfl⟩ := mem_key hmem
    refine asg_local ?_
    rw [← d']
    refine AXs_cons <| X_AssignAttr <| E_Global G (by kernel_rfl!) (.int (-1) 253) <| E_Sub <| E_Local rfl <| E_Local rfl <| sub_idict h'.dict (h'.lookup hq) <| set_slotA G 78 1 (h'.instS hq) <| AXs_nil ?_
    have h2 : SOk τ₀ (σ'.set q.a (.slots 76 q.da (putSlot [some (.int q.key), some (.int q.np), some (.ref q.ls)] 1 (.int (-1))))) _ := h'.setNp hq (-1)
    refine Fgt.now' (m' := [(Str.ofString "self", .ref D.x), (Str.ofString "result", .ref t), (Str.ofString "n2i", .ref D'.d)]) (LSub.pre [(_, _), (_, _), (_, _)] [(_, _)]) ⟨by rw [d'], _, h2, ⟨s'.x, s'.ready, s'.po, s'.fi⟩, rfl, ?_⟩
    show (atNode q.key (fun r => { r with np := -1 }) D'.nodes).map Nd.p = _
    rw [atNode_p_np, foldl_take_succ _ _ _ _ _ hki, ← p']
    rfl
  · rintro m' σ' ⟨rfl, D', h', s', d', p'⟩
    rw [ivs_length, List.take_length] at p'
    have hr' : D'.ready = some (lr, rs) := s'.ready.trans hr
    have hrv' := SD.rv_some hr'
    rw [← s'.x]
    refine AXs_nil <| AXs_cons <| X_Expr <| E_CallAttr (few := true) (by kernel_rfl!) <| E_Attr <| E_Local rfl <| get_ownA G h'.inst (v := D'.rv) rfl D'.rv_small ?_
    rw [hrv']
    refine callee_list (h'.rdy _ hr').1 F.slot_list_clear F.type_list_clear <| Args_nil <| Kws_nil <| call_list_clear (h'.rdy _ hr').1 (by rw [ivs_length]; exact Nat.le_trans hz (by decide)) ?_
    have h2 : SOk τ₀ (σ'.set lr (.list [])) { D' with ready := some (lr, []) } := h'.setReady hr' []
    refine AXs_cons <| X_AugAttr <| E_Local rfl <| get_ownA G h2.inst (v := .int D'.po) rfl rfl <| E_Call <| E_Builtin G (by kernel_rfl!) boot_len (.blt _) <| Args_cons <| E_Local rfl <| Args_nil' <| Kws_nil <| call_len_tuple (h2.sub _ _ hT0) (iadd_I <| set_ownA G h2.inst (show (4 : Nat) ≤ 900 by decide) ?_) (by rw [ivs_length]; omega)
    rw [ivs_length]
    have h3 := h2.setOwn (some (lr, [])) (D'.po + rs.length) D'.fi (fun p hp => by cases hp; exact ⟨(h2.rdy _ rfl).1, (h2.rdy _ rfl).2, h2.offr _ rfl⟩)
    refine AXs_cons <| X_Return <| E_Local rfl ⟨_, Sub.refl _, hΦ _ { D' with ready := some (lr, []), po := D'.po + rs.length, fi := D'.fi } ?_ s'.x rfl ?_ s'.fi p'⟩
    · exact h3
    · show D'.po + (rs.length : Int) = _
      rw [s'.po]
end
end Mine

namespace Mine
open PySem PySem.W PyProof.Rows

noncomputable abbrev PN := List (Int × Int × List Int)
noncomputable def npOf (ns : PN) (k : Int) : Int := ((ns.find? fun t => decide (t.1 = k)).map (·.2.1)).getD 0
noncomputable def succOf (ns : PN) (k : Int) : List Int := ((ns.find? fun t => decide (t.1 = k)).map (·.2.2)).getD []
theorem find_p {ns : List Nd} (hk : (ns.map (·.key)).Nodup) {n : Nd} (hn : n ∈ ns) : (ns.map Nd.p).find? (fun t => decide (t.1 = n.key)) = some (Nd.p n) := by
  induction ns with
  | nil => cases hn
  | cons z l ih =>
    rw [List.map_cons, List.nodup_cons] at hk
    rw [List.map_cons]
    rcases List.mem_cons.mp hn with rfl | hn
    · rw [List.find?_cons_of_pos (by simp [Nd.p])]
    · rw [List.find?_cons_of_neg (fun hh => hk.1 (by rw [show z.key = n.key from of_decide_eq_true hh]; exact List.mem_map_of_mem hn))]
      exact ih hk.2 hn
theorem SOk.npOf {σ₀ σ : AH} {D : SD} (h : SOk σ₀ σ D) {n : Nd} (hn : n ∈ D.nodes) : npOf D.p n.key = n.np := by unfold Mine.npOf SD.p; rw [find_p h.keys hn]; rfl
theorem SOk.succOf {σ₀ σ : AH} {D : SD} (h : SOk σ₀ σ D) {n : Nd} (hn : n ∈ D.nodes) : succOf D.p n.key = n.succ := by unfold Mine.succOf SD.p; rw [find_p h.keys hn]; rfl

/-- one that comes behind is told -/
noncomputable def pDec (st : PN × List Int) (s : Int) : PN × List Int := (pSet s (npOf st.1 s - 1) st.1, if npOf st.1 s - 1 = 0 then st.2 ++ [s] else st.2)
noncomputable def pDone (st : PN × List Int) (k : Int) : PN × List Int := (succOf st.1 k).foldl pDec (pSet k (-2) st.1, st.2)
theorem pDec_keys (st : PN × List Int) (s : Int) : (pDec st s).1.map (·.1) = st.1.map (·.1) := pSet_keys ..
theorem foldl_pDec_keys (l : List Int) (st : PN × List Int) : (l.foldl pDec st).1.map (·.1) = st.1.map (·.1) := by
  induction l generalizing st with
  | nil => rfl
  | cons a l ih => rw [List.foldl_cons, ih, pDec_keys]
theorem pDone_keys (st : PN × List Int) (k : Int) : (pDone st k).1.map (·.1) = st.1.map (·.1) := by unfold pDone; rw [foldl_pDec_keys, pSet_keys]
theorem foldl_pDone_keys (l : List Int) (st : PN × List Int) : (l.foldl pDone st).1.map (·.1) = st.1.map (·.1) := by
  induction l generalizing st with
  | nil => rfl
  | cons a l ih => rw [List.foldl_cons, ih, pDone_keys]
theorem pDec_len (st : PN × List Int) (s : Int) : (pDec st s).2.length ≤ st.2.length + 1 := by unfold pDec; dsimp only; split <;> simp
theorem foldl_pDec_len (l : List Int) (st : PN × List Int) : (l.foldl pDec st).2.length ≤ st.2.length + l.length := by
  induction l generalizing st with
  | nil => simp
  | cons a l ih => rw [List.foldl_cons]; have := ih (pDec st a); have := pDec_len st a; simp; omega

section
variable {w : World} {g : Heap} {A : Around} {L : Addr} {m : Loc} {σ σ₀ : AH} {D : SD}

noncomputable abbrev fDone (w : World) : FuncData := fnAt (KK w) 156

structure DoneAt (D D' : SD) (lr : Addr) (fi : Int) (st : PN × List Int) : Prop where
  x : D'.x = D.x
  d : D'.d = D.d
  po : D'.po = D.po
  fi : D'.fi = fi
  ready : D'.ready = some (lr, st.2)
  p : D'.p = st.1

theorem done_code (G : Gd (KK w) g) (hA : AOk A 4) (h : SOk σ₀ σ D) {lr : Addr} {rs : List Int} (hr : D.ready = some (lr, rs)) {ns : List Int} (hzn : ns.length ≤ 400) (hzr : ∀ i, ((ns.take i).foldl pDone (D.p, rs)).2.length ≤ 400) (hzs : ∀ i k, ns[i]? = some k → (succOf ((ns.take i).foldl pDone (D.p, rs)).1 k).length ≤ 400)
    (hk : ∀ k ∈ ns, k ∈ D.p.map (·.1)) (hnp : ∀ i k, ns[i]? = some k → npOf ((ns.take i).foldl pDone (D.p, rs)).1 k = -1) (hsk : ∀ i k, ns[i]? = some k → ∀ s ∈ succOf ((ns.take i).foldl pDone (D.p, rs)).1 k, s ∈ D.p.map (·.1)) {Φ : V → Loc → AH → Prop}
    (hΦ : ∀ σ' D', SOk σ₀ σ' D' → DoneAt D D' lr (D.fi + ns.length) (ns.foldl pDone (D.p, rs)) → Φ .none m σ') :
    ACode PP w g A L (.ref 156) (.ref D.x :: ivs ns) [] m σ Φ := by
  refine code_defV (pos := [.ref D.x]) (extra := ivs ns) (names := [Str.ofString "self"]) (nm := Str.ofString "nodes") (fd := fDone w) (oc := .type "function") (od := none) (osl := #[]) G hA.room (by kernel_rfl!) (by kernel_rfl!) (by kernel_rfl!) ?_ (by rw [ivs_length]; omega) (by kernel_rfl!) (by kernel_rfl!) (fun L' T hT => ?_) (by kernel_rfl!) (by kernel_rfl!) (by kernel_rfl!)
  · intro pos' extra' rs
    obtain ⟨_, _, rfl, r0, rs⟩ := rs.c
    obtain rfl := rs.n
    cases extra' <;> kernel_rfl!
  have hA' := hA.deeper (callEnv (fDone w) L' 156)
  have h1 := h.fresh (o := .tuple (ivs ns)) hT
  have hT0 : (σ₀.set T (.tuple (ivs ns))) T = some (.tuple (ivs ns)) := AH.set_self ..
  have hless : Sub σ₀ (σ₀.set T (.tuple (ivs ns))) := Sub.set (by
    cases z : σ₀ T with
    | none => rfl
    | some o => rw [h.sub _ _ z] at hT; cases hT)
  generalize (σ₀.set T (.tuple (ivs ns))) = τ₀ at h1 hT0 hless
  generalize (σ.set T (.tuple (ivs ns))) = τ at h1 ⊢
  have hrv := SD.rv_some hr
  show AXs PP w g _ _ _ [(Str.ofString "nodes", .ref T), (Str.ofString "self", .ref D.x)] τ _
  refine AXs_cons <| X_If <| T_Compare1 <| E_Attr <| E_Local rfl <| get_ownA G h1.inst (v := D.rv) rfl D.rv_small <| E_None <| is_None D.rv_small <| tr_B ⟨fun hb => absurd hb (by rw [hrv]; exact Bool.false_ne_true), fun _ => AXs_nil ?_⟩
  refine AXs_cons <| X_AssignLocal <| E_Attr <| E_Local rfl <| get_ownA G h1.inst (v := .ref D.d) rfl rfl ?_
  refine AXs_cons <| X_For <| E_Local rfl ⟨ivs ns, _, fun i m' σ' => m' = [(Str.ofString "nodes", .ref T), (Str.ofString "self", .ref D.x), (Str.ofString "n2i", .ref D.d)] ∧ ∃ D', SOk τ₀ σ' D' ∧ DoneAt D D' lr (D.fi + i) ((ns.take i).foldl pDone (D.p, rs)), iter_tuple hA'.handled, ⟨rfl, D, h1, ⟨rfl, rfl, rfl, by simp, hr, rfl⟩⟩, ?_, ?_, ?_⟩
  · rintro i m' σ' ⟨_, D', h', _⟩; exact h'.sub _ _ hT0
  · rintro i v m' σ' hv ⟨rfl, D', h', a'⟩
    obtain ⟨k, hki, rfl⟩ := ivs_at hv
    have hmem : k ∈ D'.p.map (·.1) := by rw [a'.p, foldl_pDone_keys]; exact hk k (List.mem_of_getElem? hki)
    have hnpk := hnp i k hki
    have hskk := hsk i k hki
    have hzsk := hzs i k hki
    have hzri := hzr i
    have hst := foldl_take_succ pDone (D.p, rs) ns i k hki
    have hkeys : ((ns.take i).foldl pDone (D.p, rs)).1.map (·.1) = D.p.map (·.1) := foldl_pDone_keys ..
    generalize (ns.take i).foldl pDone (D.p, rs) = st at a' hnpk hskk hzsk hzri hst hkeys
    obtain ⟨q, hq, rfl⟩ := mem_key hmem
    rw [← a'.p, h'.npOf hq] at hnpk
    rw [← a'.p, h'.succOf hq] at hskk hzsk
    refine asg_local ?_
    rw [← a'.d, ← a'.x]
    refine AXs_cons <| X_If <| T_Compare1 <| E_Named <| E_CallAttr (few := true) (by kernel_rfl!) <| E_Local rfl <| callee_dict h'.dict F.slot_dict_get F.type_dict_get <| Args_cons <| E_Local rfl <| Args_nil' <| Kws_nil <| call_dict_get h'.sys h'.dict ?_
    rw [h'.lookup hq]
    refine asg_local <| E_None <| is_None rfl <| tr_B ⟨fun hb => absurd hb Bool.false_ne_true, fun _ => AXs_nil ?_⟩
    refine AXs_cons <| X_AssignLocal <| E_Attr <| E_Local rfl <| get_slotA G 78 1 (h'.instS hq) (v := .int q.np) rfl rfl ?_
    refine AXs_cons <| X_If <| T_Compare1 <| E_Local rfl <| E_Global G (by kernel_rfl!) (.int (-1) 253) <| ne_I <| tr_B ⟨fun hb => absurd hb (by rw [hnpk]; decide), fun _ => AXs_nil ?_⟩
    refine AXs_cons <| X_AssignAttr <| E_Global G (by kernel_rfl!) (.int (-2) 256) <| E_Local rfl <| set_slotA G 78 1 (h'.instS hq) ?_
    have h2 : SOk τ₀ (σ'.set q.a (.slots 76 q.da (putSlot [some (.int q.key), some (.int q.np), some (.ref q.ls)] 1 (.int (-2))))) _ := h'.setNp hq (-2)
    have a2 : DoneAt D ({ D' with nodes := atNode q.key (fun r => { r with np := -2 }) D'.nodes } : SD) lr (D.fi + i) (pSet q.key (-2) st.1, st.2) := ⟨a'.x, a'.d, a'.po, a'.fi, a'.ready, by
      show (atNode q.key (fun r => { r with np := -2 }) D'.nodes).map Nd.p = _
      rw [atNode_p_np, ← a'.p]; rfl⟩
    have hq2 : ∃ q2 ∈ atNode q.key (fun r => { r with np := -2 }) D'.nodes, q2.ls = q.ls ∧ q2.a = q.a ∧ q2.da = q.da ∧ q2.key = q.key ∧ q2.succ = q.succ := ⟨{ q with np := -2 }, List.mem_map.mpr ⟨q, hq, if_pos rfl⟩, rfl, rfl, rfl, rfl, rfl⟩
    have hd2 : ({ D' with nodes := atNode q.key (fun r => { r with np := -2 }) D'.nodes } : SD).dx = D'.dx := rfl
    have hx2 : ({ D' with nodes := atNode q.key (fun r => { r with np := -2 }) D'.nodes } : SD).x = D'.x := rfl
    have hd3 : ({ D' with nodes := atNode q.key (fun r => { r with np := -2 }) D'.nodes } : SD).d = D'.d := rfl
    obtain ⟨q2, hq2, el, ea, ed, ek, es⟩ := hq2
    have hS : InstS (σ'.set q.a (.slots 76 q.da (putSlot [some (.int q.key), some (.int q.np), some (.ref q.ls)] 1 (.int (-2))))) q.a 76 q.da [some (.int q2.key), some (.int q2.np), some (.ref q.ls)] := by
      have := h2.instS hq2
      rwa [ea, ed, el] at this
    have hls : (σ'.set q.a (.slots 76 q.da (putSlot [some (.int q.key), some (.int q.np), some (.ref q.ls)] 1 (.int (-2))))) q.ls = some (.list (ivs q.succ)) := by
      have := (h2.node q2 hq2).2.2
      rwa [el, es] at this
    generalize (σ'.set q.a (.slots 76 q.da (putSlot [some (.int q.key), some (.int q.np), some (.ref q.ls)] 1 (.int (-2))))) = σ₂ at h2 hS hls ⊢
    generalize hDD : ({ D' with nodes := atNode q.key (fun r => { r with np := -2 }) D'.nodes } : SD) = D₂ at h2 a2 hd2 hx2 hd3
    refine AXs_cons <| X_For <| E_Attr <| E_Local rfl <| get_slotA G 79 2 hS rfl rfl ⟨ivs q.succ, _, fun j m₁ σ₁ => m₁ = [(Str.ofString "nodes", .ref T), (Str.ofString "self", .ref D'.x), (Str.ofString "n2i", .ref D'.d), (Str.ofString "node", .int q.key), (Str.ofString "nodeinfo", .ref q.a), (Str.ofString "stat", .int q.np)] ∧ σ₁ q.ls = some (.list (ivs q.succ)) ∧ ∃ D'', SOk τ₀ σ₁ D'' ∧ DoneAt D D'' lr (D.fi + i) ((q.succ.take j).foldl pDec (pSet q.key (-2) st.1, st.2)) ∧ ∃ n'' ∈ D''.nodes, n''.ls = q.ls ∧ n''.succ = q.succ, iter_list hA'.handled, ⟨rfl, hls, D₂, h2, a2, q2, by rw [← hDD]; exact hq2, el, es⟩, ?_, ?_, ?_⟩
    · rintro j m₁ σ₁ ⟨_, e, _⟩; exact e
    · rintro j v m₁ σ₁ hv ⟨rfl, hl₁, D'', h'', a'', n'', hn'', el'', es''⟩
      obtain ⟨s, hsj, rfl⟩ := ivs_at hv
      have hj : j < q.succ.length := (List.getElem?_eq_some_iff.mp hsj).1
      have hms : s ∈ D''.p.map (·.1) := by
        rw [a''.p, foldl_pDec_keys, pSet_keys, hkeys]
        exact hskk s (List.mem_of_getElem? hsj)
      have hst2 := foldl_take_succ pDec (pSet q.key (-2) st.1, st.2) q.succ j s hsj
      have hlen2 : ((q.succ.take j).foldl pDec (pSet q.key (-2) st.1, st.2)).2.length ≤ 800 := by
        have := foldl_pDec_len (q.succ.take j) (pSet q.key (-2) st.1, st.2)
        rw [List.length_take] at this
        dsimp only at this
        omega
      generalize (q.succ.take j).foldl pDec (pSet q.key (-2) st.1, st.2) = st2 at a'' hst2 hlen2
      obtain ⟨u, hu, rfl⟩ := mem_key hms
      have hnu : Mine.npOf st2.1 u.key = u.np := by rw [← a''.p]; exact h''.npOf hu
      have hdd : D''.d = D'.d := a''.d.trans a'.d.symm
      have hxx : D''.x = D'.x := a''.x.trans a'.x.symm
      refine asg_local ?_
      rw [← hdd, ← hxx]
      refine AXs_cons <| X_AssignLocal <| E_Sub <| E_Local rfl <| E_Local rfl <| sub_idict h''.dict (h''.lookup hu) ?_
      refine AXs_cons <| X_AugAttr <| E_Local rfl <| get_slotA G 78 1 (h''.instS hu) (v := .int u.np) rfl rfl <| E_Int <| isub_I <| set_slotA G 78 1 (h''.instS hu) ?_
      have h3 : SOk τ₀ (σ₁.set u.a (.slots 76 u.da (putSlot [some (.int u.key), some (.int u.np), some (.ref u.ls)] 1 (.int (u.np - 1))))) _ := h''.setNp hu (u.np - 1)
      have a3 : DoneAt D ({ D'' with nodes := atNode u.key (fun r => { r with np := u.np - 1 }) D''.nodes } : SD) lr (D.fi + i) (pSet u.key (u.np - 1) st2.1, st2.2) := ⟨a''.x, a''.d, a''.po, a''.fi, a''.ready, by
        show (atNode u.key (fun r => { r with np := u.np - 1 }) D''.nodes).map Nd.p = _
        rw [atNode_p_np, ← a''.p]; rfl⟩
      have I3 : InstS (σ₁.set u.a (.slots 76 u.da (putSlot [some (.int u.key), some (.int u.np), some (.ref u.ls)] 1 (.int (u.np - 1))))) u.a 76 u.da [some (.int u.key), some (.int (u.np - 1)), some (.ref u.ls)] := h3.instS (n := { u with np := u.np - 1 }) (List.mem_map.mpr ⟨u, hu, if_pos rfl⟩)
      have n3 : ∃ n' ∈ atNode u.key (fun r => { r with np := u.np - 1 }) D''.nodes, n'.ls = q.ls ∧ n'.succ = q.succ := by
        refine ⟨_, List.mem_map_of_mem hn'', ?_⟩
        by_cases z : n''.key = u.key
        · rw [if_pos z]; exact ⟨el'', es''⟩
        · rw [if_neg z]; exact ⟨el'', es''⟩
      have hx3 : ({ D'' with nodes := atNode u.key (fun r => { r with np := u.np - 1 }) D''.nodes } : SD).x = D''.x := rfl
      have hr3 : ({ D'' with nodes := atNode u.key (fun r => { r with np := u.np - 1 }) D''.nodes } : SD).ready = some (lr, st2.2) := a''.ready
      have hn3 : ({ D'' with nodes := atNode u.key (fun r => { r with np := u.np - 1 }) D''.nodes } : SD).nodes = atNode u.key (fun r => { r with np := u.np - 1 }) D''.nodes := rfl
      rw [← hn3] at n3
      generalize (σ₁.set u.a (.slots 76 u.da (putSlot [some (.int u.key), some (.int u.np), some (.ref u.ls)] 1 (.int (u.np - 1))))) = σ₃ at h3 I3 ⊢
      generalize ({ D'' with nodes := atNode u.key (fun r => { r with np := u.np - 1 }) D''.nodes } : SD) = D₃ at h3 a3 n3 hx3 hr3
      refine AXs_cons <| X_If <| T_Compare1 <| E_Attr <| E_Local rfl <| get_slotA G 78 1 I3 (v := .int (u.np - 1)) rfl rfl <| E_Int <| eq_I <| tr_B ⟨fun hb => ?_, fun hb => ?_⟩
      · have hb' : u.np - 1 = 0 := beq_iff_eq.mp hb
        have hrv3 := SD.rv_some hr3
        rw [← hx3]
        refine AXs_cons <| X_Expr <| E_CallAttr (few := true) (by kernel_rfl!) <| E_Attr <| E_Local rfl <| get_ownA G h3.inst (v := D₃.rv) rfl D₃.rv_small ?_
        rw [hrv3]
        refine callee_list (h3.rdy _ hr3).1 F.slot_list_append F.type_list_append <| Args_cons <| E_Local rfl <| Args_nil' <| Kws_nil <| call_list_append (h3.rdy _ hr3).1 (by rw [ivs_length]; exact Nat.le_trans hlen2 (by decide)) <| AXs_nil <| AXs_nil ?_
        have e : ivs st2.2 ++ [V.int u.key] = ivs (st2.2 ++ [u.key]) := by unfold ivs; rw [List.map_append]; rfl
        have h4 := h3.setReady hr3 (st2.2 ++ [u.key])
        rw [← e] at h4
        obtain ⟨n', hn', el', es'⟩ := n3
        refine Fgt.now' (m' := [(Str.ofString "nodes", .ref T), (Str.ofString "self", .ref D₃.x), (Str.ofString "n2i", .ref D''.d), (Str.ofString "node", .int q.key), (Str.ofString "nodeinfo", .ref q.a), (Str.ofString "stat", .int q.np)]) (LSub.pre [(_, _), (_, _), (_, _), (_, _), (_, _), (_, _)] [(_, _), (_, _)]) ⟨by rw [hx3, hdd, hxx], ?_, _, h4, ⟨a3.x, a3.d, a3.po, a3.fi, ?_, ?_⟩, n', hn', el', es'⟩
        · have := (h4.node n' hn').2.2
          rwa [el', es'] at this
        · rw [hst2]; unfold pDec; rw [hnu, if_pos hb']
        · rw [hst2]; unfold pDec; rw [hnu]; exact a3.p
      · have hb' : u.np - 1 ≠ 0 := beq_eq_false_iff_ne.mp hb
        obtain ⟨n', hn', el', es'⟩ := n3
        refine AXs_nil <| AXs_nil <| Fgt.now' (m' := [(Str.ofString "nodes", .ref T), (Str.ofString "self", .ref D''.x), (Str.ofString "n2i", .ref D''.d), (Str.ofString "node", .int q.key), (Str.ofString "nodeinfo", .ref q.a), (Str.ofString "stat", .int q.np)]) (LSub.pre [(_, _), (_, _), (_, _), (_, _), (_, _), (_, _)] [(_, _), (_, _)]) ⟨by rw [hdd, hxx], ?_, D₃, h3, ⟨a3.x, a3.d, a3.po, a3.fi, ?_, ?_⟩, n', hn', el', es'⟩
        · have := (h3.node n' hn').2.2
          rwa [el', es'] at this
        · rw [hst2, hr3]; unfold pDec; rw [hnu, if_neg hb']
        · rw [hst2]; unfold pDec; rw [hnu]; exact a3.p
    · rintro m₁ σ₁ ⟨rfl, _, D'', h'', a'', _⟩
      rw [ivs_length, List.take_length] at a''
      have hxx : D''.x = D'.x := a''.x.trans a'.x.symm
      have hdd : D''.d = D'.d := a''.d.trans a'.d.symm
      rw [← hxx]
      refine AXs_nil <| AXs_cons <| X_AugAttr <| E_Local rfl <| get_ownA G h''.inst (v := .int D''.fi) rfl rfl <| E_Int <| iadd_I <| set_ownA G h''.inst (show (4 : Nat) ≤ 900 by decide) <| AXs_nil ?_
      have h3 := h''.setOwn D''.ready D''.po (D''.fi + 1) (fun p hp => ⟨(h''.rdy p hp).1, (h''.rdy p hp).2, h''.offr p hp⟩)
      refine Fgt.now' (m' := [(Str.ofString "nodes", .ref T), (Str.ofString "self", .ref D''.x), (Str.ofString "n2i", .ref D'.d)]) (LSub.pre [(_, _), (_, _), (_, _)] [(_, _), (_, _), (_, _)]) ⟨by rw [a''.x, a'.d], _, h3, ⟨a''.x, a''.d, a''.po, ?_, ?_, ?_⟩⟩
      · show D''.fi + 1 = _
        rw [a''.fi]; push_cast; omega
      · show D''.ready = _
        rw [a''.ready, hst]
        unfold pDone
        rw [← a'.p, h'.succOf hq]
      · show D''.p = _
        rw [a''.p, hst]
        unfold pDone
        rw [← a'.p, h'.succOf hq]
  · rintro m' σ' ⟨rfl, D', h', a'⟩
    rw [ivs_length, List.take_length] at a'
    exact AXs_nil <| AXs_nil ⟨_, Sub.refl _, hΦ σ' D' (h'.less hless) a'⟩
end
end Mine

namespace Mine
open PySem PySem.W PyProof.Rows

/-- something beside the sorter is forgotten -/
theorem SOk.del {σ₀ σ : AH} {D : SD} (h : SOk σ₀ σ D) {a : Addr} {o : O} (ha : σ₀ a = some o) : SOk (σ₀.del a) (σ.del a) D := by
  have ne : ∀ b, σ₀ b = none → b ≠ a := fun b e z => by rw [z, ha] at e; cases e
  have s : ∀ b p, σ₀ b = none → σ b = some p → (σ.del a) b = some p := fun b p e z => (AH.del_ne (ne b e)).trans z
  have off : ∀ b, σ₀ b = none → (σ₀.del a) b = none := fun b e => (AH.del_ne (ne b e)).trans e
  refine ⟨⟨s _ _ h.off0.1 h.inst.obj, s _ _ h.off0.2.1 h.inst.dict⟩, s _ _ h.off0.2.2 h.dict, h.sys, fun n hn => ⟨s _ _ (h.offn n hn).1 (h.node n hn).1, s _ _ (h.offn n hn).2.1 (h.node n hn).2.1, s _ _ (h.offn n hn).2.2 (h.node n hn).2.2⟩, h.keys, h.lss, fun p hp => ⟨s _ _ (h.offr p hp) (h.rdy p hp).1, (h.rdy p hp).2⟩, fun b p e => ?_, ⟨off _ h.off0.1, off _ h.off0.2.1, off _ h.off0.2.2⟩, fun n hn => ⟨off _ (h.offn n hn).1, off _ (h.offn n hn).2.1, off _ (h.offn n hn).2.2⟩, fun p hp => off _ (h.offr p hp)⟩
  by_cases q : b = a
  · rw [q] at e; unfold AH.del at e; rw [if_pos rfl] at e; cases e
  · rw [AH.del_ne q] at e ⊢; exact h.sub _ _ e

noncomputable def m2L (st : List Int) : List (Int × V) := st.zipIdx.map fun p => (p.1, V.int p.2)
theorem m2L_snoc (st : List Int) (k : Int) : m2L (st ++ [k]) = m2L st ++ [(k, .int (st.length : Nat))] := by unfold m2L; rw [List.zipIdx_append]; simp
theorem m2L_keys (st : List Int) : (m2L st).map (·.1) = st := by
  unfold m2L
  rw [List.map_map]
  show st.zipIdx.map (fun p => p.1) = st
  exact List.zipIdx_map_fst 0 st
theorem m2L_length (st : List Int) : (m2L st).length = st.length := by unfold m2L; simp
theorem lookup_isSome {α : Type} (l : List (Int × α)) (k : Int) : (l.lookup k).isSome = true ↔ k ∈ l.map (·.1) := by
  induction l with
  | nil => simp
  | cons p l ih =>
    rw [List.lookup_cons, List.map_cons, List.mem_cons]
    by_cases e : k = p.1
    · rw [beq_iff_eq.mpr e]; simp [e]
    · rw [beq_eq_false_iff_ne.mpr e]; rw [ih]; simp [e]
theorem m2L_put (st : List Int) (k : Int) (hk : k ∉ st) : putI (m2L st) k (.int (st.length : Nat)) = m2L (st ++ [k]) := by
  unfold putI
  rw [if_neg, m2L_snoc]
  rw [List.any_eq_true]
  rintro ⟨kv, hkv, hq⟩
  refine hk ?_
  have := List.mem_map_of_mem (f := (·.1)) hkv
  rw [m2L_keys] at this
  rwa [of_decide_eq_true hq] at this
theorem m2L_out (st : List Int) (k : Int) (hk : k ∉ st) : outI (m2L (st ++ [k])) k = m2L st := by
  unfold outI
  rw [m2L_snoc, List.filter_append, List.filter_cons_of_neg (by simp), List.filter_nil, List.append_nil]
  refine List.filter_eq_self.mpr fun kv hkv => ?_
  have := List.mem_map_of_mem (f := (·.1)) hkv
  rw [m2L_keys] at this
  exact decide_eq_true fun z => hk (z ▸ this)

/-- one iterator on the stack -/
structure It where
  q : Addr
  it : Addr
  i : Nat
  n : Nd
noncomputable def It.rem (t : It) : Nat := t.n.succ.length - t.i + 1

structure Cyc (τ : AH) (D : SD) (ls li ss d2 : Addr) (its : List It) (seen : List Int) (ep2 : Nat) : Prop where
  a1 : τ ls = some (.list (ivs (its.map (·.n.key))))
  a2 : τ li = some (.list (its.map fun t => V.ref t.q))
  a3 : τ ss = some (.iset seen)
  a4 : τ d2 = some (.idict (m2L (its.map (·.n.key))) ep2)
  al : ∀ t ∈ its, t.n ∈ D.nodes ∧ τ t.q = some (.raw (wrapObj t.it)) ∧ τ t.it = some (.iter t.n.ls t.i) ∧ t.i ≤ t.n.succ.length
  inc : (its.map (·.n.key)).Pairwise fun a b => (D.p.map (·.1)).idxOf a < (D.p.map (·.1)).idxOf b
  ins : ∀ t ∈ its, t.n.key ∈ seen
  sk : ∀ k ∈ seen, k ∈ D.p.map (·.1)
  snd : seen.Nodup

noncomputable def wt (seen : List Int) (t : Int × Int × List Int) : Nat := if t.1 ∈ seen then 0 else t.2.2.length + 2
noncomputable def work (D : SD) (its : List It) (seen : List Int) : Nat := (D.p.map (wt seen)).sum + (its.map It.rem).sum
theorem wt_add {ns : PN} (hk : (ns.map (·.1)).Nodup) {seen : List Int} {t : Int × Int × List Int} (ht : t ∈ ns) (hs : t.1 ∉ seen) : (ns.map (wt (seen ++ [t.1]))).sum + (t.2.2.length + 2) = (ns.map (wt seen)).sum := by
  induction ns with
  | nil => cases ht
  | cons z l ih =>
    rw [List.map_cons, List.nodup_cons] at hk
    rw [List.map_cons, List.map_cons, List.sum_cons, List.sum_cons]
    rcases List.mem_cons.mp ht with e | ht'
    · have same : l.map (wt (seen ++ [t.1])) = l.map (wt seen) := by
        refine List.map_congr_left fun u hu => ?_
        have hne : u.1 ≠ t.1 := fun q => hk.1 (by rw [← e, ← q]; exact List.mem_map_of_mem hu)
        unfold wt
        by_cases q : u.1 ∈ seen
        · rw [if_pos q, if_pos (List.mem_append_left _ q)]
        · rw [if_neg q, if_neg (by simp [q, hne])]
      rw [same, ← e]
      have w1 : wt (seen ++ [t.1]) t = 0 := if_pos (by simp)
      have w2 : wt seen t = t.2.2.length + 2 := if_neg hs
      rw [w1, w2]; omega
    · have hz : z.1 ≠ t.1 := fun q => hk.1 (by rw [q]; exact List.mem_map_of_mem ht')
      have wz : wt (seen ++ [t.1]) z = wt seen z := by
        unfold wt
        by_cases q : z.1 ∈ seen
        · rw [if_pos q, if_pos (List.mem_append_left _ q)]
        · rw [if_neg q, if_neg (by simp [q, hz])]
      have := ih hk.2 ht'
      rw [wz]; omega

theorem Pairwise.lt_last {α : Type} {R : α → α → Prop} {l : List α} {x : α} (h : (l ++ [x]).Pairwise R) : ∀ a ∈ l, R a x := fun a ha => (List.pairwise_append.mp h).2.2 a ha x (List.mem_singleton.mpr rfl)

theorem nodup_len {l : List Int} : ∀ {l' : List Int}, l.Nodup → (∀ x ∈ l, x ∈ l') → l.length ≤ l'.length := by
  induction l with
  | nil => intro l' _ _; exact Nat.zero_le _
  | cons x l ih =>
    intro l' nd h
    rw [List.nodup_cons] at nd
    have hx := h x (List.mem_cons_self ..)
    have := ih (l' := l'.erase x) nd.2 fun y hy => (List.mem_erase_of_ne (fun e : y = x => nd.1 (e ▸ hy))).mpr (h y (List.mem_cons_of_mem _ hy))
    rw [List.length_erase_of_mem hx] at this
    have : 0 < l'.length := List.length_pos_of_mem hx
    simp only [List.length_cons]
    omega
theorem SOk.none0 {σ₀ σ : AH} {D : SD} (h : SOk σ₀ σ D) {a : Addr} (e : σ a = none) : σ₀ a = none := by
  cases z : σ₀ a with
  | none => rfl
  | some o => rw [h.sub _ _ z] at e; cases e
theorem SOk.mem_of_key {σ₀ σ : AH} {D : SD} (h : SOk σ₀ σ D) {k : Int} (hk : k ∈ D.p.map (·.1)) : ∃ n ∈ D.nodes, n.key = k := mem_key hk

section
variable {w : World} {g : Heap} {A : Around} {L : Addr} {m : Loc} {σ σ₀ : AH} {D : SD}
noncomputable abbrev fCyc (w : World) : FuncData := fnAt (KK w) 163

/-- the knowledge in which the search stands -/
structure CSt (σ₀ : AH) (outer : List Env) (D : SD) (ls li ss d2 : Addr) (its : List It) (seen : List Int) (σ : AH) : Prop where
  ex : ∃ τ ep2, SOk τ σ D ∧ Cyc τ D ls li ss d2 its seen ep2 ∧ FrOk τ outer ∧ Sub σ₀ τ ∧ ∀ t ∈ its, σ₀ t.it = none

noncomputable abbrev CycI1 (σ₀ : AH) (outer : List Env) (D : SD) (ls li ss d2 : Addr) (i : Nat) (m' : Loc) (σ' : AH) : Prop := m' = [(Str.ofString "self", .ref D.x), (Str.ofString "n2i", .ref D.d), (Str.ofString "stack", .ref ls), (Str.ofString "itstack", .ref li), (Str.ofString "seen", .ref ss), (Str.ofString "node2stacki", .ref d2)] ∧ ∃ seen, CSt σ₀ outer D ls li ss d2 [] seen σ'
noncomputable abbrev CycI2 (σ₀ : AH) (outer : List Env) (D : SD) (ls li ss d2 : Addr) (n : Nat) (m₁ : Loc) (σ₁ : AH) : Prop := ∃ k its seen, m₁ = [(Str.ofString "self", .ref D.x), (Str.ofString "n2i", .ref D.d), (Str.ofString "stack", .ref ls), (Str.ofString "itstack", .ref li), (Str.ofString "seen", .ref ss), (Str.ofString "node2stacki", .ref d2), (Str.ofString "node", .int k)] ∧ CSt σ₀ outer D ls li ss d2 its seen σ₁ ∧ k ∈ D.p.map (·.1) ∧ (∀ t ∈ its, (D.p.map (·.1)).idxOf t.n.key < (D.p.map (·.1)).idxOf k) ∧ work D its seen = n
noncomputable abbrev CycI3 (σ₀ : AH) (outer : List Env) (D : SD) (ls li ss d2 : Addr) (k : Int) (n : Nat) (f : F) (m₂ : Loc) (σ₂ : AH) : Prop := f = .next ∧ m₂ = [(Str.ofString "self", .ref D.x), (Str.ofString "n2i", .ref D.d), (Str.ofString "stack", .ref ls), (Str.ofString "itstack", .ref li), (Str.ofString "seen", .ref ss), (Str.ofString "node2stacki", .ref d2), (Str.ofString "node", .int k)] ∧ ∃ its seen, CSt σ₀ outer D ls li ss d2 its seen σ₂ ∧ work D its seen ≤ n ∧ its.length ≤ 401
noncomputable abbrev CycI4 (σ₀ : AH) (outer : List Env) (D : SD) (ls li ss d2 : Addr) (n n2 : Nat) (m₁ : Loc) (σ₁ : AH) : Prop := ∃ k its seen, m₁ = [(Str.ofString "self", .ref D.x), (Str.ofString "n2i", .ref D.d), (Str.ofString "stack", .ref ls), (Str.ofString "itstack", .ref li), (Str.ofString "seen", .ref ss), (Str.ofString "node2stacki", .ref d2), (Str.ofString "node", .int k)] ∧ CSt σ₀ outer D ls li ss d2 its seen σ₁ ∧ work D its seen = n2 ∧ n2 ≤ n ∧ its.length ≤ 401
theorem cycle_body (G : Gd (KK w) g) {A' : Around} {L' : Addr} (hA' : AOk A' 3) {outer : List Env} (hfr' : A'.frames = some (callEnv (fCyc w) L' 163 :: outer)) (h : SOk σ₀ σ D) (hF : FrOk σ₀ outer) (hz : D.nodes.length ≤ 400) (hzs : ∀ n ∈ D.nodes, n.succ.length ≤ 400)
    (hac : ∀ n ∈ D.nodes, ∀ s ∈ n.succ, s ∈ D.p.map (·.1) ∧ (D.p.map (·.1)).idxOf n.key < (D.p.map (·.1)).idxOf s) :
    AXs PP w g A' (callEnv (fCyc w) L' 163) (bodyOf (fCyc w)) [(Str.ofString "self", .ref D.x)] σ fun fl _ σ' => fl.val = .none ∧ SOk σ₀ σ' D := by
  refine AXs_cons <| X_AssignLocal <| E_Attr <| E_Local rfl <| get_ownA G h.inst (v := .ref D.d) rfl rfl ?_
  refine AXs_cons <| X_AssignLocal <| E_List <| Args_nil' ⟨by decide, fun ls hls => ?_⟩
  refine AXs_cons <| X_AssignLocal <| E_List <| Args_nil' ⟨by decide, fun li hli => ?_⟩
  refine AXs_cons <| X_AssignLocal <| E_Call <| E_Builtin G (by kernel_rfl!) boot_set (.typ _) <| Args_nil <| Kws_nil <| call_set fun ss hss => ?_
  refine AXs_cons <| X_AssignLocal <| E_Dict0 G fun d2 hd2 hds2 => ?_
  have z1 : σ₀ ls = none := h.none0 hls
  have z2 : σ₀ li = none := by
    refine h.none0 ?_
    by_cases q : li = ls
    · rw [q, AH.set_self] at hli; cases hli
    · rwa [AH.set_ne _ _ q] at hli
  have z3 : σ₀ ss = none := by
    refine h.none0 ?_
    by_cases q : ss = li
    · rw [q, AH.set_self] at hss; cases hss
    · rw [AH.set_ne _ _ q] at hss
      by_cases q : ss = ls
      · rw [q, AH.set_self] at hss; cases hss
      · rwa [AH.set_ne _ _ q] at hss
  have z4 : σ₀ d2 = none := by
    refine h.none0 ?_
    by_cases q : d2 = ss
    · rw [q, AH.set_self] at hd2; cases hd2
    · rw [AH.set_ne _ _ q] at hd2
      by_cases q : d2 = li
      · rw [q, AH.set_self] at hd2; cases hd2
      · rw [AH.set_ne _ _ q] at hd2
        by_cases q : d2 = ls
        · rw [q, AH.set_self] at hd2; cases hd2
        · rwa [AH.set_ne _ _ q] at hd2
  have lsli : ls ≠ li := fun z => by rw [← z, AH.set_self] at hli; cases hli
  have k0 : CSt σ₀ outer D ls li ss d2 [] [] ((((σ.set ls (.list [])).set li (.list [])).set ss (.iset [])).set d2 (.idict [] 0)) := by
    have h1 := h.fresh (o := .list []) hls
    have n1 := h1.none0 hli
    have h2 := h1.fresh (o := .list []) hli
    have n2 := h2.none0 hss
    have h3 := h2.fresh (o := .iset []) hss
    have n3 := h3.none0 hd2
    have h4 := h3.fresh (o := .idict [] 0) hd2
    have s4 := (Sub.set (p := .list []) (h.none0 hls)).trans ((Sub.set (p := .list []) n1).trans ((Sub.set (p := .iset []) n2).trans (Sub.set (p := .idict [] 0) n3)))
    exact ⟨_, 0, h4, ⟨AH.set_get (AH.set_get (AH.set_get (AH.set_self ..) n1) n2) n3, AH.set_get (AH.set_get (AH.set_self ..) n2) n3, AH.set_get (AH.set_self ..) n3, AH.set_self .., (fun t ht => nomatch ht), List.Pairwise.nil, (fun t ht => nomatch ht), (fun k hk => nomatch hk), List.nodup_nil⟩, hF.sub s4, s4, (fun t ht => nomatch ht)⟩
  generalize ((((σ.set ls (.list [])).set li (.list [])).set ss (.iset [])).set d2 (.idict [] 0)) = σ₁ at k0 ⊢
  have hkn : (D.nodes.map fun n => (n.key, V.ref n.a)).map (·.1) = D.p.map (·.1) := by rw [keys_p, List.map_map]; rfl
  refine AXs_cons <| X_For <| E_Local rfl ⟨ivs ((D.nodes.map fun n => (n.key, V.ref n.a)).map (·.1)), _, CycI1 σ₀ outer D ls li ss d2, iter_dict (ep := D.ep) hA'.handled h.sys, ⟨rfl, [], k0⟩, ?_, ?_, ?_⟩
  · rintro i m' σ' ⟨_, seen, τ, ep2, hS, _⟩; exact hS.dict
  · rintro i v m' σ' hv ⟨rfl, seen, kst⟩
    obtain ⟨k, hki, rfl⟩ := ivs_at hv
    have hk : k ∈ D.p.map (·.1) := by rw [← hkn]; exact List.mem_of_getElem? hki
    refine asg_local ?_
    obtain ⟨τ, ep2, hS, hC, hF', hsub, _⟩ := id kst.ex
    refine AXs_cons <| X_If <| T_Compare1 <| E_Local rfl <| E_Local rfl <| in_iset (hS.sub _ _ hC.a3) <| tr_B ⟨fun _ => AXs_cons <| X_Continue <| Fgt.now' (LSub.pre [(_, _), (_, _), (_, _), (_, _), (_, _), (_, _)] [(_, _)]) ⟨rfl, seen, kst⟩, fun _ => AXs_nil ?_⟩
    clear hS hC hF' hsub τ ep2
    refine AXs_cons <| X_While (CycI2 σ₀ outer D ls li ss d2) (work D [] seen) ⟨k, [], seen, rfl, kst, hk, (fun t ht => nomatch ht), rfl⟩ ?_
    rintro n m₁ σ₁ ⟨k, its, seen, rfl, ⟨τ, ep2, hS, hC, hF', hsub, hoit⟩, hk, hlt, hw⟩
    refine T_Value <| E_Bool <| tr_B ⟨fun _ => ?_, fun e => absurd e (by decide)⟩
    have hlen : its.length ≤ 400 := by
      have nd : (its.map (·.n.key)).Nodup := hC.inc.imp fun {a b} hab e => by rw [e] at hab; exact Nat.lt_irrefl _ hab
      have sub : ∀ x ∈ its.map (·.n.key), x ∈ D.nodes.map (·.key) := fun x hx => by
        obtain ⟨t, ht, rfl⟩ := List.mem_map.mp hx
        exact List.mem_map_of_mem (hC.al t ht).1
      have := nodup_len nd sub
      simp at this
      omega
    have hseen : seen.length ≤ 400 := by
      have := nodup_len (l' := D.nodes.map (·.key)) hC.snd (fun x hx => by rw [← keys_p]; exact hC.sk x hx)
      simp at this
      omega
    have hsb : (500 : Nat) < scanBound := by decide +kernel
    refine AXs_cons (AW.mono (Φ := CycI3 σ₀ outer D ls li ss d2 k n) ?_ ?_)
    · refine X_If <| T_Compare1 <| E_Local rfl <| E_Local rfl <| in_iset (hS.sub _ _ hC.a3) <| tr_B ⟨fun hin => ?_, fun hin => ?_⟩
      · refine AXs_cons <| X_If <| T_Compare1 <| E_Local rfl <| E_Local rfl <| in_idict hds2 (hS.sub _ _ hC.a4) <| tr_B ⟨fun hb => ?_, fun _ => AXs_nil <| AXs_nil ⟨rfl, rfl, its, seen, ⟨τ, ep2, hS, hC, hF', hsub, hoit⟩, Nat.le_of_eq hw, by omega⟩⟩
        exfalso
        have := (lookup_isSome _ _).mp hb
        rw [m2L_keys] at this
        obtain ⟨t, ht, e⟩ := List.mem_map.mp this
        have := hlt t ht
        rw [e] at this
        exact Nat.lt_irrefl _ this
      · have hks : k ∉ seen := of_decide_eq_false hin
        obtain ⟨u, hu, rfl⟩ := mem_key hk
        have hkst : u.key ∉ its.map (·.n.key) := fun hm => by
          obtain ⟨t, ht, e⟩ := List.mem_map.mp hm
          exact hks (e ▸ hC.ins t ht)
        refine AXs_cons <| X_Expr <| E_CallAttr (few := true) (by kernel_rfl!) <| E_Local rfl <| callee_add (hS.sub _ _ hC.a3) <| Args_cons <| E_Local rfl <| Args_nil' <| Kws_nil <| call_add (hS.sub _ _ hC.a3) (by omega) ?_
        have hS1 := hS.turn (o' := .iset (seen ++ [u.key])) hC.a3
        have e1 : ∀ a o, τ a = some o → (∀ xs, o ≠ .iset xs) → (τ.set ss (.iset (seen ++ [u.key]))) a = some o := fun a o e hne => (AH.set_ne _ _ (AH.ne_ob e hC.a3 (hne _))).trans e
        have e1n : ∀ a o, τ a = some o → a ≠ ss → (τ.set ss (.iset (seen ++ [u.key]))) a = some o := fun a o e hne => (AH.set_ne _ _ hne).trans e
        have f3 : (τ.set ss (.iset (seen ++ [u.key]))) ss = some (.iset (seen ++ [u.key])) := AH.set_self ..
        generalize (τ.set ss (.iset (seen ++ [u.key]))) = τ1 at hS1 e1 e1n f3
        generalize (σ₁.set ss (.iset (seen ++ [u.key]))) = σ2 at hS1 ⊢
        have f2 := e1 _ _ hC.a2 (by intro _ z; cases z)
        have f1 := e1 _ _ hC.a1 (by intro _ z; cases z)
        have f4 := e1 _ _ hC.a4 (by intro _ z; cases z)
        have hlu := (hS1.node u hu).2.2
        refine AXs_cons <| X_Expr <| E_CallAttr (few := true) (by kernel_rfl!) <| E_Local rfl <| callee_list (hS1.sub _ _ f2) F.slot_list_append F.type_list_append <| Args_cons <| E_Attr <| E_Call <| E_Builtin G (by kernel_rfl!) boot_iter (.blt _) <| Args_cons <| E_Attr <| E_Sub <| E_Local rfl <| E_Local rfl <| sub_idict hS1.dict (hS1.lookup hu) <| get_slotA G 79 2 (hS1.instS hu) rfl rfl <| Args_nil' <| Kws_nil <| call_iter hlu fun it hit => get_next (AH.set_self ..) fun q hq => ?_
        rw [AH.set_set] 
        have hq' : (σ2.set it (.iter u.ls 0)) q = none := by
          by_cases z : q = it
          · rw [z, AH.set_self] at hq; cases hq
          · rw [AH.set_ne _ _ z] at hq ⊢; exact hq
        have hS2 := hS1.fresh (o := .iter u.ls 0) hit
        have nit := hS1.none0 hit
        have hS3 := hS2.fresh (o := .raw (wrapObj it)) hq'
        have nq := hS2.none0 hq'
        have e3 : Sub τ1 ((τ1.set it (.iter u.ls 0)).set q (.raw (wrapObj it))) := (Sub.set nit).trans (Sub.set nq)
        have fit : ((τ1.set it (.iter u.ls 0)).set q (.raw (wrapObj it))) it = some (.iter u.ls 0) := AH.set_get (AH.set_self ..) nq
        have fq : ((τ1.set it (.iter u.ls 0)).set q (.raw (wrapObj it))) q = some (.raw (wrapObj it)) := AH.set_self ..
        generalize ((τ1.set it (.iter u.ls 0)).set q (.raw (wrapObj it))) = τ3 at hS3 e3 fit fq
        generalize ((σ2.set it (.iter u.ls 0)).set q (.raw (wrapObj it))) = σ3 at hS3 ⊢
        have g2 := e3 _ _ f2
        have g1 := e3 _ _ f1
        have g3 := e3 _ _ f3
        have g4 := e3 _ _ f4
        refine Args_nil' <| Kws_nil <| call_list_append (hS3.sub _ _ g2) (by rw [List.length_map]; omega) ?_
        have hS4 := hS3.turn (o' := .list ((its.map fun t => V.ref t.q) ++ [.ref q])) g2
        have e4 : ∀ a o, τ3 a = some o → a ≠ li → (τ3.set li (.list ((its.map fun t => V.ref t.q) ++ [.ref q]))) a = some o := fun a o e hne => (AH.set_ne _ _ hne).trans e
        have k2 : (τ3.set li (.list ((its.map fun t => V.ref t.q) ++ [.ref q]))) li = _ := AH.set_self ..
        have k1 := e4 _ _ g1 lsli
        have k3 := e4 _ _ g3 (AH.ne_ob g3 g2 (by intro z; cases z))
        have k4 := e4 _ _ g4 (AH.ne_ob g4 g2 (by intro z; cases z))
        have kit := e4 _ _ fit (AH.ne_ob fit g2 (by intro z; cases z))
        have kq := e4 _ _ fq (AH.ne_ob fq g2 (by intro z; cases z))
        have old4 : ∀ a o, τ a = some o → (∀ xs, o ≠ .iset xs) → (∀ xs, o ≠ .list xs) → (τ3.set li (.list ((its.map fun t => V.ref t.q) ++ [.ref q]))) a = some o := fun a o e q1 q2 => e4 _ _ (e3 _ _ (e1 _ _ e q1)) (AH.ne_ob (e3 _ _ (e1 _ _ e q1)) g2 (q2 _))
        generalize (τ3.set li (.list ((its.map fun t => V.ref t.q) ++ [.ref q]))) = τ4 at hS4 k1 k2 k3 k4 kit kq old4 e4
        generalize (σ3.set li (.list ((its.map fun t => V.ref t.q) ++ [.ref q]))) = σ4 at hS4 ⊢
        refine AXs_cons <| X_AssignSub <| E_Call <| E_Builtin G (by kernel_rfl!) boot_len (.blt _) <| Args_cons <| E_Local rfl <| Args_nil' <| Kws_nil <| call_len_list (hS4.sub _ _ k1) (asg_sub <| E_Local rfl <| E_Local rfl ⟨d2, _, ep2, u.key, rfl, rfl, hS4.sub _ _ k4, by rw [m2L_length, List.length_map]; omega, fun ep' => ?_⟩) (by rw [ivs_length, List.length_map]; omega)
        rw [ivs_length, m2L_put _ _ hkst]
        have hS5 := hS4.turn (o' := .idict (m2L (its.map (·.n.key) ++ [u.key])) ep') k4
        have e5 : ∀ a o, τ4 a = some o → (∀ mm ep, o ≠ .idict mm ep) → (τ4.set d2 (.idict (m2L (its.map (·.n.key) ++ [u.key])) ep')) a = some o := fun a o e hne => (AH.set_ne _ _ (AH.ne_ob e k4 (hne _ _))).trans e
        have e5n : ∀ a o, τ4 a = some o → a ≠ d2 → (τ4.set d2 (.idict (m2L (its.map (·.n.key) ++ [u.key])) ep')) a = some o := fun a o e hne => (AH.set_ne _ _ hne).trans e
        have l4 : (τ4.set d2 (.idict (m2L (its.map (·.n.key) ++ [u.key])) ep')) d2 = _ := AH.set_self ..
        generalize (τ4.set d2 (.idict (m2L (its.map (·.n.key) ++ [u.key])) ep')) = τ5 at hS5 e5 e5n l4
        generalize (σ4.set d2 (.idict (m2L (its.map (·.n.key) ++ [u.key])) ep')) = σ5 at hS5 ⊢
        have l1 := e5 _ _ k1 (by intro _ _ z; cases z)
        have l2 := e5 _ _ k2 (by intro _ _ z; cases z)
        have l3 := e5 _ _ k3 (by intro _ _ z; cases z)
        have lit := e5 _ _ kit (by intro _ _ z; cases z)
        have lq := e5 _ _ kq (by intro _ _ z; cases z)
        refine AXs_cons <| X_Expr <| E_CallAttr (few := true) (by kernel_rfl!) <| E_Local rfl <| callee_list (hS5.sub _ _ l1) F.slot_list_append F.type_list_append <| Args_cons <| E_Local rfl <| Args_nil' <| Kws_nil <| call_list_append (hS5.sub _ _ l1) (by rw [ivs_length, List.length_map]; omega) <| AXs_nil ?_
        have hS6 := hS5.turn (o' := .list (ivs (its.map (·.n.key)) ++ [.int u.key])) l1
        have e6 : ∀ a o, τ5 a = some o → a ≠ ls → (τ5.set ls (.list (ivs (its.map (·.n.key)) ++ [.int u.key]))) a = some o := fun a o e hne => (AH.set_ne _ _ hne).trans e
        have ev : ivs (its.map (·.n.key)) ++ [V.int u.key] = ivs ((its ++ [(⟨q, it, 0, u⟩ : It)]).map (·.n.key)) := by unfold ivs; simp
        have old6 : ∀ a o, τ a = some o → (∀ xs, o ≠ .iset xs) → (∀ xs, o ≠ .list xs) → (∀ mm ep, o ≠ .idict mm ep) → (τ5.set ls (.list (ivs (its.map (·.n.key)) ++ [.int u.key]))) a = some o := fun a o e q1 q2 q3 => by
          have := e5 _ _ (old4 _ _ e q1 q2) q3
          exact e6 _ _ this (AH.ne_ob this l1 (q2 _))
        refine ⟨rfl, rfl, its ++ [⟨q, it, 0, u⟩], seen ++ [u.key], ⟨_, ep', hS6, ⟨?_, ?_, ?_, ?_, ?_, ?_, ?_, ?_, ?_⟩, ?_, ?_, ?_⟩, ?_, ?_⟩
        · rw [AH.set_self, ev]
        · rw [e6 _ _ l2 (Ne.symm lsli), List.map_append]; rfl
        · exact e6 _ _ l3 (AH.ne_ob l3 l1 (by intro z; cases z))
        · rw [e6 _ _ l4 (AH.ne_ob l4 l1 (by intro z; cases z)), List.map_append]; rfl
        · intro t ht
          rcases List.mem_append.mp ht with ht | ht
          · obtain ⟨b1, b2, b3, b4⟩ := hC.al t ht
            exact ⟨b1, old6 _ _ b2 (by intro _ z; cases z) (by intro _ z; cases z) (by intro _ _ z; cases z), old6 _ _ b3 (by intro _ z; cases z) (by intro _ z; cases z) (by intro _ _ z; cases z), b4⟩
          · rw [List.mem_singleton.mp ht]
            exact ⟨hu, e6 _ _ lq (AH.ne_ob lq l1 (by intro z; cases z)), e6 _ _ lit (AH.ne_ob lit l1 (by intro z; cases z)), Nat.zero_le _⟩
        · rw [List.map_append]
          refine List.pairwise_append.mpr ⟨hC.inc, List.pairwise_singleton _ _, fun a ha b hb => ?_⟩
          obtain ⟨t, ht, rfl⟩ := List.mem_map.mp ha
          simp at hb
          rw [hb]
          exact hlt t ht
        · intro t ht
          rcases List.mem_append.mp ht with ht | ht
          · exact List.mem_append_left _ (hC.ins t ht)
          · rw [List.mem_singleton.mp ht]; exact List.mem_append_right _ (List.mem_singleton.mpr rfl)
        · intro x hx
          rcases List.mem_append.mp hx with hx | hx
          · exact hC.sk x hx
          · rw [List.mem_singleton.mp hx]; exact hk
        · rw [List.nodup_append]
          refine ⟨hC.snd, by simp, fun a ha b hb => ?_⟩
          rw [List.mem_singleton.mp hb]
          exact fun z => hks (z ▸ ha)
        · exact hF'.mono fun e he Lf c d es nn hf hσ => old6 _ _ hσ (by intro _ z; cases z) (by intro _ z; cases z) (by intro _ _ z; cases z)
        · intro a o e
          exact e6 _ _ (e5n _ _ (e4 _ _ (e3 _ _ (e1n _ _ (hsub _ _ e) (AH.ne_of e z3))) (AH.ne_of e z2)) (AH.ne_of e z4)) (AH.ne_of e z1)
        · intro t ht
          rcases List.mem_append.mp ht with ht | ht
          · exact hoit t ht
          · rw [List.mem_singleton.mp ht]
            cases z : σ₀ it with
            | none => rfl
            | some o => rw [e1n _ _ (hsub _ _ z) (AH.ne_of z z3)] at nit; cases nit
        · have hm : Nd.p u ∈ D.p := List.mem_map_of_mem hu
          have := wt_add (ns := D.p) (by rw [keys_p]; exact hS.keys) hm (seen := seen) hks
          have e7 : (Nd.p u).2.2.length = u.succ.length := rfl
          have e8 : (Nd.p u).1 = u.key := rfl
          rw [e7, e8] at this
          unfold work at hw ⊢
          rw [List.map_append, List.sum_append]
          have e9 : ([(⟨q, it, 0, u⟩ : It)].map It.rem).sum = u.succ.length + 1 := by simp [It.rem]
          rw [e9]
          omega
        · simp; omega
    · clear hS hC hF' hsub hoit hlt hw hlen hseen τ ep2 its seen
      rintro f m₂ σ₂ ⟨rfl, rfl, its, seen, kst2, hw, hlen⟩
      refine AXs_cons <| X_While (CycI4 σ₀ outer D ls li ss d2 n) (work D its seen) ⟨k, its, seen, rfl, kst2, rfl, hw, hlen⟩ ?_
      clear kst2 hw hlen
      rintro n2 m₃ σ₃ ⟨k2_, its, seen, rfl, ⟨τ, ep2, hS, hC, hF', hsub, hoit⟩, hw, hle, hlen⟩
      refine T_Value <| E_Local rfl <| tr_list (hS.sub _ _ hC.a1) (by rw [ivs_length, List.length_map]; omega) ⟨fun hb => ?_, fun hb => ?_⟩
      · obtain ⟨its', t, rfl⟩ : ∃ its' t, its = its' ++ [t] := by
          rcases List.eq_nil_or_concat its with e | ⟨l, x, e⟩
          · rw [e] at hb; exact absurd hb (by decide)
          · exact ⟨l, x, by rw [e, List.concat_eq_append]⟩
        obtain ⟨b1, b2, b3, b4⟩ := hC.al t (List.mem_append_right _ (List.mem_singleton.mpr rfl))
        have ha2 := hC.a2
        rw [List.map_append] at ha2
        have hl' : its'.length ≤ 400 := by simp at hlen; omega
        refine AXs_cons <| X_TryNext G hA'.handled hfr' rfl <| E_Sub <| E_Local rfl <| E_Neg <| E_Int ⟨1, rfl, sub_last (hS.sub _ _ ha2) (by rw [List.length_map]; omega) ⟨t.q, t.it, t.n.ls, t.i, ivs t.n.succ, rfl, hS.sub _ _ b2, hS.sub _ _ b3, (hS.node _ b1).2.2, hF'.sub hS.sub, fun v hv => ?_, fun hend e => ?_⟩⟩
        · obtain ⟨sx, hsx, rfl⟩ := ivs_at hv
          have hi : t.i < t.n.succ.length := (List.getElem?_eq_some_iff.mp hsx).1
          obtain ⟨hk2, hlt2⟩ := hac t.n b1 sx (List.mem_of_getElem? hsx)
          have hS2 := hS.turn (o' := .iter t.n.ls (t.i + 1)) b3
          have ne : ∀ a o, τ a = some o → (∀ l i, o ≠ .iter l i) → (τ.set t.it (.iter t.n.ls (t.i + 1))) a = some o := fun a o e q => (AH.set_ne _ _ (AH.ne_ob e b3 (q _ _))).trans e
          have hkeys : (its' ++ [({ t with i := t.i + 1 } : It)]).map (fun x => x.n.key) = (its' ++ [t]).map (fun x => x.n.key) := by simp
          have hrefs : ((its' ++ [({ t with i := t.i + 1 } : It)]).map fun t => V.ref t.q) = (its' ++ [t]).map fun t => V.ref t.q := by simp
          have hinc := hC.inc
          rw [List.map_append] at hinc
          have hlast := Pairwise.lt_last (x := t.n.key) hinc
          refine AXs_nil <| Fgt.now ⟨work D (its' ++ [{ t with i := t.i + 1 }]) seen, ?_, sx, its' ++ [{ t with i := t.i + 1 }], seen, rfl, ⟨_, ep2, hS2, ⟨?_, ?_, ?_, ?_, ?_, ?_, ?_, hC.sk, hC.snd⟩, ?_, ?_, ?_⟩, hk2, ?_, rfl⟩
          · refine Nat.lt_of_lt_of_le ?_ hle
            rw [← hw]
            unfold work
            simp only [List.map_append, List.sum_append, List.map_cons, List.map_nil, List.sum_cons, List.sum_nil, It.rem]
            omega
          · rw [hkeys]; exact ne _ _ hC.a1 (by intro _ _ z; cases z)
          · rw [hrefs]; exact ne _ _ hC.a2 (by intro _ _ z; cases z)
          · exact ne _ _ hC.a3 (by intro _ _ z; cases z)
          · rw [hkeys]; exact ne _ _ hC.a4 (by intro _ _ z; cases z)
          · intro t2 ht2
            rcases List.mem_append.mp ht2 with ht2 | ht2
            · obtain ⟨c1, c2, c3, c4⟩ := hC.al t2 (List.mem_append_left _ ht2)
              refine ⟨c1, ne _ _ c2 (by intro _ _ z; cases z), (AH.set_ne _ _ (AH.ne_ob c3 b3 fun z => ?_)).trans c3, c4⟩
              injection z with z _
              have := nodup_inj hS.lss c1 b1 z
              have hl := hlast t2.n.key (List.mem_map_of_mem (f := fun t : It => t.n.key) ht2)
              rw [this] at hl
              exact Nat.lt_irrefl _ hl
            · rw [List.mem_singleton.mp ht2]
              exact ⟨b1, ne _ _ b2 (by intro _ _ z; cases z), AH.set_self .., hi⟩
          · rw [hkeys]; exact hC.inc
          · intro t2 ht2
            rcases List.mem_append.mp ht2 with ht2 | ht2
            · exact hC.ins t2 (List.mem_append_left _ ht2)
            · rw [List.mem_singleton.mp ht2]; exact hC.ins t (List.mem_append_right _ (List.mem_singleton.mpr rfl))
          · exact hF'.mono fun e he Lf c d es nn hf hσ => ne _ _ hσ (by intro _ _ z; cases z)
          · intro a o e
            exact (AH.set_ne _ _ (AH.ne_of e (hoit t (List.mem_append_right _ (List.mem_singleton.mpr rfl))))).trans (hsub _ _ e)
          · intro t2 ht2
            rcases List.mem_append.mp ht2 with ht2 | ht2
            · exact hoit t2 (List.mem_append_left _ ht2)
            · rw [List.mem_singleton.mp ht2]; exact hoit t (List.mem_append_right _ (List.mem_singleton.mpr rfl))
          · intro t2 ht2
            rcases List.mem_append.mp ht2 with ht2 | ht2
            · exact Nat.lt_trans (hlast t2.n.key (List.mem_map_of_mem (f := fun t : It => t.n.key) ht2)) hlt2
            · rw [List.mem_singleton.mp ht2]; exact hlt2
        · have hit0 := hoit t (List.mem_append_right _ (List.mem_singleton.mpr rfl))
          have hinc := hC.inc
          rw [List.map_append] at hinc
          have hlast := Pairwise.lt_last (x := t.n.key) hinc
          have hS2 := hS.del b3
          have e2 : ∀ a o, τ a = some o → (∀ l i, o ≠ .iter l i) → (τ.del t.it) a = some o := fun a o e q => (AH.del_ne (AH.ne_ob e b3 (q _ _))).trans e
          have e2n : ∀ a o, τ a = some o → a ≠ t.it → (τ.del t.it) a = some o := fun a o e q => (AH.del_ne q).trans e
          generalize τ.del t.it = τ1 at hS2 e2 e2n
          generalize σ₃.del t.it = σ4 at hS2 ⊢
          have hknot : t.n.key ∉ its'.map (·.n.key) := fun hm => Nat.lt_irrefl _ (hlast _ hm)
          have f1 := e2 _ _ hC.a1 (by intro _ _ z; cases z)
          have f2 := e2 _ _ hC.a2 (by intro _ _ z; cases z)
          have f3 := e2 _ _ hC.a3 (by intro _ _ z; cases z)
          have f4 := e2 _ _ hC.a4 (by intro _ _ z; cases z)
          have ek : ivs ((its' ++ [t]).map (·.n.key)) = ivs (its'.map (·.n.key)) ++ [V.int t.n.key] := by unfold ivs; simp
          have em : (its' ++ [t]).map (·.n.key) = its'.map (·.n.key) ++ [t.n.key] := by simp
          have er : ((its' ++ [t]).map fun t => V.ref t.q) = (its'.map fun t => V.ref t.q) ++ [V.ref t.q] := by simp
          rw [ek] at f1
          rw [er] at f2
          rw [em] at f4
          refine AXs_cons <| X_DelSub <| E_Local rfl <| E_CallAttr (few := true) (by kernel_rfl!) <| E_Local rfl <| callee_list (hS2.sub _ _ f1) F.slot_list_pop F.type_list_pop <| Args_nil <| Kws_nil <| call_list_pop (hS2.sub _ _ f1) (by rw [ivs_length, List.length_map]; omega) ?_
          have hS3 := hS2.turn (o' := .list (ivs (its'.map (·.n.key)))) f1
          have e3 : ∀ a o, τ1 a = some o → a ≠ ls → (τ1.set ls (.list (ivs (its'.map (·.n.key))))) a = some o := fun a o e q => (AH.set_ne _ _ q).trans e
          have g1 : (τ1.set ls (.list (ivs (its'.map (·.n.key))))) ls = _ := AH.set_self ..
          have g2 := e3 _ _ f2 (Ne.symm lsli)
          have g3 := e3 _ _ f3 (AH.ne_ob f3 f1 (by intro z; cases z))
          have g4 := e3 _ _ f4 (AH.ne_ob f4 f1 (by intro z; cases z))
          have o3 : ∀ a o, τ1 a = some o → (∀ xs, o ≠ .list xs) → (τ1.set ls (.list (ivs (its'.map (·.n.key))))) a = some o := fun a o e q => e3 _ _ e (AH.ne_ob e f1 (q _))
          generalize (τ1.set ls (.list (ivs (its'.map (·.n.key))))) = τ2 at hS3 e3 g1 g2 g3 g4 o3
          generalize (σ4.set ls (.list (ivs (its'.map (·.n.key))))) = σ5 at hS3 ⊢
          refine ⟨d2, _, ep2, t.n.key, rfl, rfl, hS3.sub _ _ g4, by rw [m2L_length]; simp; omega, (lookup_isSome _ _).mpr (by rw [m2L_keys]; simp), fun ep' => ?_⟩
          rw [m2L_out _ _ hknot]
          have hS4 := hS3.turn (o' := .idict (m2L (its'.map (·.n.key))) ep') g4
          have e4 : ∀ a o, τ2 a = some o → a ≠ d2 → (τ2.set d2 (.idict (m2L (its'.map (·.n.key))) ep')) a = some o := fun a o e q => (AH.set_ne _ _ q).trans e
          have o4 : ∀ a o, τ2 a = some o → (∀ mm ep, o ≠ .idict mm ep) → (τ2.set d2 (.idict (m2L (its'.map (·.n.key))) ep')) a = some o := fun a o e q => e4 _ _ e (AH.ne_ob e g4 (q _ _))
          have k4 : (τ2.set d2 (.idict (m2L (its'.map (·.n.key))) ep')) d2 = _ := AH.set_self ..
          have k1 := o4 _ _ g1 (by intro _ _ z; cases z)
          have k2 := o4 _ _ g2 (by intro _ _ z; cases z)
          have k3 := o4 _ _ g3 (by intro _ _ z; cases z)
          generalize (τ2.set d2 (.idict (m2L (its'.map (·.n.key))) ep')) = τ3 at hS4 e4 o4 k1 k2 k3 k4
          generalize (σ5.set d2 (.idict (m2L (its'.map (·.n.key))) ep')) = σ6 at hS4 ⊢
          refine AXs_cons <| X_Expr <| E_CallAttr (few := true) (by kernel_rfl!) <| E_Local rfl <| callee_list (hS4.sub _ _ k2) F.slot_list_pop F.type_list_pop <| Args_nil <| Kws_nil <| call_list_pop (hS4.sub _ _ k2) (by rw [List.length_map]; omega) <| AXs_nil ?_
          have hS5 := hS4.turn (o' := .list (its'.map fun t => V.ref t.q)) k2
          have e5 : ∀ a o, τ3 a = some o → a ≠ li → (τ3.set li (.list (its'.map fun t => V.ref t.q))) a = some o := fun a o e q => (AH.set_ne _ _ q).trans e
          have o5 : ∀ a o, τ a = some o → (∀ l i, o ≠ .iter l i) → (∀ xs, o ≠ .list xs) → (∀ mm ep, o ≠ .idict mm ep) → (τ3.set li (.list (its'.map fun t => V.ref t.q))) a = some o := fun a o e q1 q2 q3 => by
            have := o4 _ _ (o3 _ _ (e2 _ _ e q1) q2) q3
            exact e5 _ _ this (AH.ne_ob this k2 (q2 _))
          refine AXs_nil <| Fgt.now ⟨work D its' seen, ?_, k2_, its', seen, rfl, ⟨_, ep', hS5, ⟨e5 _ _ k1 lsli, AH.set_self .., e5 _ _ k3 (AH.ne_ob k3 k2 (by intro z; cases z)), e5 _ _ k4 (AH.ne_ob k4 k2 (by intro z; cases z)), ?_, ?_, fun t2 ht2 => hC.ins t2 (List.mem_append_left _ ht2), hC.sk, hC.snd⟩, ?_, ?_, fun t2 ht2 => hoit t2 (List.mem_append_left _ ht2)⟩, rfl, ?_, by omega⟩
          · rw [← hw]
            unfold work
            simp only [List.map_append, List.sum_append, List.map_cons, List.map_nil, List.sum_cons, List.sum_nil, It.rem]
            omega
          · intro t2 ht2
            obtain ⟨c1, c2, c3, c4⟩ := hC.al t2 (List.mem_append_left _ ht2)
            refine ⟨c1, o5 _ _ c2 (by intro _ _ z; cases z) (by intro _ z; cases z) (by intro _ _ z; cases z), ?_, c4⟩
            have hne : t2.it ≠ t.it := AH.ne_ob c3 b3 fun z => by
              injection z with z _
              have := nodup_inj hS.lss c1 b1 z
              have hl := hlast t2.n.key (List.mem_map_of_mem (f := fun t : It => t.n.key) ht2)
              rw [this] at hl
              exact Nat.lt_irrefl _ hl
            have := o4 _ _ (o3 _ _ (e2n _ _ c3 hne) (by intro _ z; cases z)) (by intro _ _ z; cases z)
            exact e5 _ _ this (AH.ne_ob this k2 (by intro z; cases z))
          · exact (List.pairwise_append.mp hinc).1
          · exact hF'.mono fun e he Lf c d es nn hf hσ => o5 _ _ hσ (by intro _ _ z; cases z) (by intro _ z; cases z) (by intro _ _ z; cases z)
          · intro a o e
            exact e5 _ _ (e4 _ _ (e3 _ _ (e2n _ _ (hsub _ _ e) (AH.ne_of e hit0)) (AH.ne_of e z1)) (AH.ne_of e z4)) (AH.ne_of e z2)
          · refine Nat.le_trans ?_ hle
            rw [← hw]
            unfold work
            simp only [List.map_append, List.sum_append]
            omega
      · have : its = [] := by
          cases its with
          | nil => rfl
          | cons t l => exact absurd hb (by simp [ivs])
        subst this
        refine AXs_cons <| X_Break <| AXs_nil <| Fgt.now' (LSub.pre [(_, _), (_, _), (_, _), (_, _), (_, _), (_, _)] [(_, _)]) ⟨rfl, seen, τ, ep2, hS, hC, hF', hsub, hoit⟩
  · rintro m' σ' ⟨rfl, seen, τ, ep2, hS, _, _, hsub, _⟩
    exact AXs_nil <| AXs_cons <| X_Return <| E_None ⟨rfl, hS.less hsub⟩
/-- the search, called from a frame that it is shown -/
theorem cycle_code (G : Gd (KK w) g) (hA : AOk A 4) {outer : List Env} {ep : Env} (hfr : A.frames = some (ep :: outer)) (hep : ep.frame = some L) (hek : ep.scope.kind ≠ .module) (h : SOk σ₀ σ D) (hF : FrOk σ₀ outer) (hz : D.nodes.length ≤ 400) (hzs : ∀ n ∈ D.nodes, n.succ.length ≤ 400)
    (hac : ∀ n ∈ D.nodes, ∀ s ∈ n.succ, s ∈ D.p.map (·.1) ∧ (D.p.map (·.1)).idxOf n.key < (D.p.map (·.1)).idxOf s) {Φ : V → Loc → AH → Prop} (hΦ : ∀ σ', SOk σ₀ σ' D → Φ .none m σ') :
    ACode PP w g A L (.ref 163) [.ref D.x] [] m σ Φ := by
  refine code_defF (fd := fCyc w) (oc := .type "function") (od := none) (osl := #[]) G hA.room (by kernel_rfl!) (by kernel_rfl!) (by kernel_rfl!) (self_binds w 163 D.x fun v S => by kernel_rfl!) (by kernel_rfl!) (by kernel_rfl!) (fun L' o hL ho => ?_) (by kernel_rfl!) (by kernel_rfl!) (by kernel_rfl!)
  have hfr' : (A.deeper (callEnv (fCyc w) L' 163)).frames = some (callEnv (fCyc w) L' 163 :: ep :: outer) := by
    show A.frames.map _ = _
    rw [hfr]; rfl
  have h0 := h.none0 hL
  obtain ⟨c, d, es, n, rfl⟩ := ho
  have h1 := h.fresh (o := .sat (frmP c d (.dict es n))) hL
  have F1 : FrOk (σ₀.set L (.sat (frmP c d (.dict es n)))) (ep :: outer) := fun e he => by
    rcases List.mem_cons.mp he with rfl | he
    · exact ⟨hek, L, c, d, es, n, hep, AH.set_self ..⟩
    · exact (hF.sub (Sub.set h0)) e he
  refine AW.mono (cycle_body G (hA.deeper _) hfr' h1 F1 hz hzs hac) ?_
  rintro fl m' σ' ⟨e, h2⟩
  have hL2 := h2.sub _ _ (AH.set_self ..)
  refine ⟨hL2, σ'.del L, AH.del_sub _ _, if_pos rfl, ?_⟩
  rw [e]
  refine hΦ _ ((h2.del (AH.set_self ..)).less fun a o ea => ?_)
  have : a ≠ L := AH.ne_of ea h0
  rw [AH.del_ne this, AH.set_ne _ _ this]
  exact ea
end
end Mine

namespace Mine
open PySem PySem.W PyProof.Rows

noncomputable def V.nd (σ : AH) : V → Int × Int
  | .ref a => match σ a with
    | some (.slots _ _ [some (.int k), some (.int np), _]) => (k, np)
    | _ => (0, 0)
  | _ => (0, 0)
theorem nd_of {σ : AH} {n : Nd} (h : σ n.a = some n.ob) : (V.ref n.a).nd σ = (n.key, n.np) := by
  show (match σ n.a with
    | some (.slots _ _ [some (.int k), some (.int np), _]) => (k, np)
    | _ => (0, 0)) = _
  rw [h]
  rfl

section
variable {w : World} {g : Heap} {A : Around} {L : Addr} {m : Loc} {σ σ₀ : AH} {D : SD}
noncomputable abbrev fPrep (w : World) : FuncData := fnAt (KK w) 128

noncomputable def readyP (ns : PN) : List Int := (ns.filter fun t => decide (t.2.1 = 0)).map (·.1)
theorem readyP_nodes (ns : List Nd) : readyP (ns.map Nd.p) = (ns.filter fun n => decide (n.np = 0)).map (·.key) := by
  unfold readyP
  rw [List.filter_map, List.map_map]
  rfl

theorem prepare_body (G : Gd (KK w) g) {A' : Around} {L' : Addr} (hA' : AOk A' 5) {outer : List Env} (hfr' : A'.frames = some (callEnv (fPrep w) L' 128 :: outer)) (h : SOk σ₀ σ D) (hr : D.ready = none) (hF : FrOk σ₀ outer) (hz : D.nodes.length ≤ 400) (hzs : ∀ n ∈ D.nodes, n.succ.length ≤ 400)
    (hac : ∀ n ∈ D.nodes, ∀ s ∈ n.succ, s ∈ D.p.map (·.1) ∧ (D.p.map (·.1)).idxOf n.key < (D.p.map (·.1)).idxOf s) :
    AXs PP w g A' (callEnv (fPrep w) L' 128) (bodyOf (fPrep w)) [(Str.ofString "self", .ref D.x)] σ fun fl _ σ' => fl.val = .none ∧ ∃ D' lr, SOk σ₀ σ' D' ∧ D'.x = D.x ∧ D'.po = D.po ∧ D'.fi = D.fi ∧ D'.p = D.p ∧ D'.ready = some (lr, readyP D.p) := by
  refine AXs_cons <| X_If <| T_Compare1 <| E_Attr <| E_Local rfl <| get_ownA G h.inst (v := D.rv) rfl D.rv_small <| E_None <| isNot_None D.rv_small <| tr_B ⟨fun hb => absurd hb (by rw [SD.rv_none hr]; decide), fun _ => AXs_nil ?_⟩
  refine AXs_cons <| X_AssignAttr <| E_ListComp (cl := []) (by kernel_rfl!) (comp_pure (fun v => decide ((v.nd σ).2 = 0)) (fun v => .int (v.nd σ).1) <| E_CallAttr (few := true) (by kernel_rfl!) <| E_Attr <| E_Local rfl <| get_ownA G h.inst (v := .ref D.d) rfl rfl <| callee_dict h.dict F.slot_dict_values F.type_dict_values <| Args_nil <| Kws_nil <| call_dict_values h.sys h.dict fun vw hvw => ⟨_, _, iter_values hA'.handled, by simp; omega, ⟨AH.set_self .., AH.set_get h.dict hvw⟩, fun C i v hv => ?_, fun lr hlr => ?_⟩)
  · rw [List.map_map] at hv
    obtain ⟨n, hn, rfl⟩ : ∃ n ∈ D.nodes, v = V.ref n.a := by
      obtain ⟨n, hn, e⟩ := List.mem_map.mp (List.mem_of_getElem? hv)
      exact ⟨n, hn, e.symm⟩
    have hI : InstS (σ.set vw (.raw { cls := .type "dict_values", data := .fields #[.ref D.d] })) n.a 76 n.da [some (.int n.key), some (.int n.np), some (.ref n.ls)] := ⟨AH.set_get (h.instS hn).obj hvw, AH.set_get (h.instS hn).dict hvw⟩
    have e := nd_of (h.node n hn).1
    refine tests_one <| T_Compare1 <| E_Attr <| E_Local rfl <| get_slotA G 78 1 hI (v := .int n.np) rfl rfl <| E_Int <| eq_I <| tr_B ⟨?_, Sub.refl _, fun _ => E_Attr <| E_Local rfl <| get_slotA G 77 0 hI (v := .int n.key) rfl rfl ⟨?_, Sub.refl _⟩⟩
    · rw [e]
      show (n.np == 0) = decide (n.np = 0)
      rw [Bool.eq_iff_iff]; simp
    · rw [e]
  · have hlist : ((((D.nodes.map fun n => (n.key, V.ref n.a)).map (·.2)).filter fun v => decide ((v.nd σ).2 = 0)).map fun v => V.int (v.nd σ).1) = ivs (readyP D.p) := by
      unfold SD.p
      rw [readyP_nodes, List.map_map]
      have hno := h.node
      generalize D.nodes = ns at hno
      unfold ivs
      induction ns with
      | nil => rfl
      | cons z l ih =>
        have e := nd_of (hno z (List.mem_cons_self ..)).1
        have ih' := ih fun n hn => hno n (List.mem_cons_of_mem _ hn)
        rw [List.map_cons]
        by_cases q : z.np = 0
        · rw [List.filter_cons_of_pos (by show decide (((V.ref z.a).nd σ).2 = 0) = true; rw [e]; exact decide_eq_true q), List.filter_cons_of_pos (p := fun n : Nd => decide (n.np = 0)) (a := z) (decide_eq_true q), List.map_cons, List.map_cons, List.map_cons, ih']
          show V.int ((V.ref z.a).nd σ).1 :: _ = _
          rw [e]
        · rw [List.filter_cons_of_neg (by show ¬ decide (((V.ref z.a).nd σ).2 = 0) = true; rw [e]; simpa using q), List.filter_cons_of_neg (by simpa using q), ih']
    rw [hlist]
    have h1 := (h.fresh (o := .raw { cls := .type "dict_values", data := .fields #[.ref D.d] }) hvw).less (Sub.set (h.none0 hvw))
    generalize (σ.set vw (.raw { cls := .type "dict_values", data := .fields #[.ref D.d] })) = σ1 at h1 hlr ⊢
    have hl0 := h1.none0 hlr
    have h2 := (h1.fresh (o := .list (ivs (readyP D.p))) hlr).less (Sub.set hl0)
    have hlr2 : (σ1.set lr (.list (ivs (readyP D.p)))) lr = some (.list (ivs (readyP D.p))) := AH.set_self ..
    have hnl : ∀ n ∈ D.nodes, n.ls ≠ lr := fun n hn => AH.ne_of (h1.node n hn).2.2 hlr
    generalize (σ1.set lr (.list (ivs (readyP D.p)))) = σ2 at h2 hlr2 ⊢
    refine E_Local rfl <| set_ownA G h2.inst (show (4 : Nat) ≤ 900 by decide) ?_
    have h3 := h2.setOwn (some (lr, readyP D.p)) D.po D.fi (fun p hp => by cases hp; exact ⟨hlr2, hnl, hl0⟩)
    have ho : Loc.set D.own (Str.ofString "_ready_nodes") (.ref lr) = ({ D with ready := some (lr, readyP D.p), po := D.po, fi := D.fi } : SD).own := by kernel_rfl!
    rw [ho]
    generalize (σ2.set D.dx (.sdict ({ D with ready := some (lr, readyP D.p), po := D.po, fi := D.fi } : SD).own)) = σ3 at h3 ⊢
    refine AXs_cons <| X_AssignLocal <| E_CallAttr (few := true) (by kernel_rfl!) <| E_Local rfl <| callee_meth G 163 h3.inst rfl <| Args_nil <| Kws_nil <| call_of_code (oc := .type "function") (od := none) (fd := fCyc w) (osl := #[]) G (by kernel_rfl!) <| cycle_code G (hA'.le (by decide)) hfr' rfl (by rw [show (callEnv (fPrep w) L' 128).scope.kind = .function by kernel_rfl!]; decide) h3 hF hz hzs hac fun σ4 h4 => ?_
    exact AXs_cons <| X_If <| T_Value <| E_Local rfl <| tr_None ⟨fun hb => absurd hb Bool.false_ne_true, fun _ => AXs_nil <| AXs_nil ⟨rfl, _, lr, h4, rfl, rfl, rfl, rfl, rfl⟩⟩

theorem prepare_code (G : Gd (KK w) g) (hA : AOk A 6) {outer : List Env} {ep : Env} (hfr : A.frames = some (ep :: outer)) (hep : ep.frame = some L) (hek : ep.scope.kind ≠ .module) (h : SOk σ₀ σ D) (hr : D.ready = none) (hF : FrOk σ₀ outer) (hz : D.nodes.length ≤ 400) (hzs : ∀ n ∈ D.nodes, n.succ.length ≤ 400)
    (hac : ∀ n ∈ D.nodes, ∀ s ∈ n.succ, s ∈ D.p.map (·.1) ∧ (D.p.map (·.1)).idxOf n.key < (D.p.map (·.1)).idxOf s) {Φ : V → Loc → AH → Prop}
    (hΦ : ∀ σ' D' lr, SOk σ₀ σ' D' → D'.x = D.x → D'.po = D.po → D'.fi = D.fi → D'.p = D.p → D'.ready = some (lr, readyP D.p) → Φ .none m σ') :
    ACode PP w g A L (.ref 128) [.ref D.x] [] m σ Φ := by
  refine code_defF (fd := fPrep w) (oc := .type "function") (od := none) (osl := #[]) G hA.room (by kernel_rfl!) (by kernel_rfl!) (by kernel_rfl!) (self_binds w 128 D.x fun v S => by kernel_rfl!) (by kernel_rfl!) (by kernel_rfl!) (fun L' o hL ho => ?_) (by kernel_rfl!) (by kernel_rfl!) (by kernel_rfl!)
  have hfr' : (A.deeper (callEnv (fPrep w) L' 128)).frames = some (callEnv (fPrep w) L' 128 :: ep :: outer) := by
    show A.frames.map _ = _
    rw [hfr]; rfl
  have h0 := h.none0 hL
  obtain ⟨c, d, es, n, rfl⟩ := ho
  have h1 := h.fresh (o := .sat (frmP c d (.dict es n))) hL
  have F1 : FrOk (σ₀.set L (.sat (frmP c d (.dict es n)))) (ep :: outer) := fun e he => by
    rcases List.mem_cons.mp he with rfl | he
    · exact ⟨hek, L, c, d, es, n, hep, AH.set_self ..⟩
    · exact (hF.sub (Sub.set h0)) e he
  refine AW.mono (prepare_body G (hA.deeper _) hfr' h1 hr F1 hz hzs hac) ?_
  rintro fl m' σ' ⟨e, D', lr, h2, a1, a2, a3, a4, a5⟩
  have hL2 := h2.sub _ _ (AH.set_self ..)
  refine ⟨hL2, σ'.del L, AH.del_sub _ _, if_pos rfl, ?_⟩
  rw [e]
  refine hΦ _ D' lr ((h2.del (AH.set_self ..)).less fun a o ea => ?_) a1 a2 a3 a4 a5
  have : a ≠ L := AH.ne_of ea h0
  rw [AH.del_ne this, AH.set_ne _ _ this]
  exact ea
end
end Mine

namespace Mine
open PySem PySem.W PyProof.Rows

section
variable {prog : Program} {w : World} {K : Frag} {g : Heap} {A : Around} {L : Addr} {m : Loc} {σ : AH}

theorem call_defCF (G : Gd K g) {f : Addr} {oc : Value} {od : Option Addr} {fd : FuncData} {osl : Array (Option Value)} {pos : List V} {binds : Loc} {Φ : V → Loc → AH → Prop}
    (hA : A.depth < recursionLimit) (ho : K.lookup f = some ⟨oc, od, .func fd, osl⟩) (hcd : codeIn K fd.code fd.qualname = true) (hbody : fd.body = .stmts (bodyOf fd))
    (hb : ∀ pos', VRs pos pos' → ∃ binds', bindArgs fd ⟨pos', []⟩ = pure binds' ∧ KRs binds binds') (hclo : fd.closure = [])
    (hkind : (binds.all fun x => fd.scope.names.lookup x.1 == some .local || (fd.scope.names.lookup x.1 == some .cell && ((cellsFrom 0 fd.scope.names []).lookup x.1).isSome)) = true)
    (hnd : decide ((cellsFrom 0 fd.scope.names []).map (·.1)).Nodup = true)
    (h : ∀ L' cs σ₁ oF, σ L = none → (∃ c d es n, oF = .sat (frmP c d (.dict es n))) → cs.map (·.1) = (cellsFrom 0 fd.scope.names []).map (·.1) → (cs.Pairwise fun x y => x.2 ≠ y.2) → (∀ p ∈ cs, σ p.2 = none ∧ p.2 ≠ L) → Sub σ σ₁ → σ₁ L = some oF →
      (∀ p ∈ cs, σ₁ p.2 = some (.cell ((binds.filter fun x => !isLoc fd.scope.names x.1).reverse.lookup p.1))) →
      AXs prog w g (A.deeper (envC fd L' f cs)) (envC fd L' f cs) (bodyOf fd) (binds.filter fun x => isLoc fd.scope.names x.1).reverse σ₁ fun fl _ σ' => σ' L = some oF ∧ ∃ σ'', Sub σ'' σ' ∧ σ'' L = none ∧ Φ fl.val m σ'')
    (hco : fd.scope.isCoroutine = false) (hgen : fd.scope.isGenerator = false) (hk : fd.scope.kind = .function) :
    ACall prog w g A L (.ref f) pos [] m σ Φ := by
  intro f' pos' kw' r rs rk
  obtain rfl := r.r
  obtain rfl := rk.n
  refine ⟨keeper_fn G ho, fun s Q E S c => ?_⟩
  have X : K.In s.heap := G.inK.keeps S.base
  obtain ⟨binds', hbe, rb⟩ := hb pos' rs
  have lk : ∀ n x, ((cellsFrom n fd.scope.names []).lookup x).isSome = ((cellsFrom 0 fd.scope.names []).lookup x).isSome := fun n x => by
    have e := cells_names fd.scope.names n 0 [] [] rfl
    generalize cellsFrom n fd.scope.names [] = l1 at e
    generalize cellsFrom 0 fd.scope.names [] = l2 at e
    induction l1 generalizing l2 with
    | nil => cases l2 with
      | nil => rfl
      | cons => cases e
    | cons p r ih => cases l2 with
      | nil => cases e
      | cons p' r' =>
        simp only [List.map_cons, List.cons.injEq] at e
        obtain ⟨a1, b1⟩ := p
        obtain ⟨a2, b2⟩ := p'
        obtain ⟨e1, e2⟩ := e
        dsimp only at e1
        subst e1
        rw [List.lookup_cons, List.lookup_cons]
        cases x == a1 with
        | true => rfl
        | false => exact ih r' e2
  refine wpAny_call (codeAny_call_cells (binds := binds') hA (X _ _ ho) rfl (G.nolimit.keeps S.base) (codeRec_of X hcd) hbody hbe hclo ?_ (fun s₁ ic => ?_) hco hgen hk)
  · intro x hx
    have : x.1 ∈ binds'.map (·.1) := List.mem_map_of_mem hx
    rw [rb.names] at this
    obtain ⟨y, hy, e⟩ := List.mem_map.mp this
    rw [← e]
    have z := List.all_eq_true.mp hkind y hy
    rcases Bool.or_eq_true_iff.mp z with z | z
    · exact .inl (beq_iff_eq.mp z)
    · obtain ⟨z1, z2⟩ := Bool.and_eq_true_iff.mp z
      exact .inr ⟨beq_iff_eq.mp z1, by rw [lk]; exact z2⟩
  · have hcs : (callEnvC fd s.heap.objs.size f).cells = cellsFrom (s.heap.objs.size + 1) fd.scope.names [] := rfl
    have henv : callEnvC fd s.heap.objs.size f = envC fd s.heap.objs.size f (cellsFrom (s.heap.objs.size + 1) fd.scope.names []) := rfl
    have hkn : ∀ x, (callEnvC fd s.heap.objs.size f).kindOf x = fd.scope.names.lookup x := fun x => rfl
    have nm := cells_names fd.scope.names (s.heap.objs.size + 1) 0 [] [] rfl
    obtain ⟨⟨⟨h₁, tk₁, rfl⟩, hns, hk₁, _⟩, hcell, hap, hab⟩ := ic
    rw [hcs] at hcell hap hab
    rw [henv]
    generalize hcc : cellsFrom (s.heap.objs.size + 1) fd.scope.names [] = cs at nm hcell hap hab
    have above : ∀ p ∈ cs, s.heap.get? p.2 = none := fun p hp => by
      cases q : s.heap.get? p.2 with
      | none => rfl
      | some o => exact absurd (Heap.lt_size q) (Nat.not_lt.mpr (Nat.le_of_lt (hab p.1 p.2 hp)))
    have lkp : ∀ p ∈ cs, cs.lookup p.1 = some p.2 := by
      have nd : (cs.map (·.1)).Nodup := by rw [nm]; exact of_decide_eq_true hnd
      clear hcell hap hab above nm hcc
      intro p hp
      induction cs with
      | nil => cases hp
      | cons x r ih =>
        rw [List.map_cons, List.nodup_cons] at nd
        rcases List.mem_cons.mp hp with e | e
        · subst e; rw [List.lookup_cons, beq_self_eq_true]
        · have : (p.1 == x.1) = false := beq_eq_false_iff_ne.mpr fun z => nd.1 (z ▸ List.mem_map_of_mem e)
          rw [List.lookup_cons, this]
          exact ih nd.2 e
    have cell : ∀ p ∈ cs, ∃ v, h₁.IsCell p.2 v ∧ VRo ((binds.filter fun x => !isLoc fd.scope.names x.1).reverse.lookup p.1) v := fun p hp => by
      refine ⟨_, hcell p.1 p.2 (lkp p hp), ?_⟩
      rw [bindC_eq hkn, Option.or_none]
      exact (rb.filter fun x => !isLoc fd.scope.names x).reverse.lookupO p.1
    have σoff : ∀ p ∈ cs, σ p.2 = none := fun p hp => S.σN (above p hp)
    have subσ : Sub σ (setCells σ cs fun n => (binds.filter fun x => !isLoc fd.scope.names x.1).reverse.lookup n) := fun a o e => by
      rw [setCells_off fun p hp z => by rw [← z, σoff p hp] at e; cases e]; exact e
    have S₁ : Sim g (envC fd s.heap.objs.size f cs).locals (binds.filter fun x => isLoc fd.scope.names x.1).reverse (setCells σ cs fun n => (binds.filter fun x => !isLoc fd.scope.names x.1).reverse.lookup n) h₁ := by
      refine ⟨fun b o e => hk₁ _ _ (S.base b o e), S.gfresh (Nat.le_refl _), ?_, fun a e => ?_, ⟨_, hns, fun x v e => ?_⟩, fun a o e => ?_⟩
      · show setCells σ cs _ s.heap.objs.size = none
        rw [setCells_off fun p hp z => absurd (hab p.1 p.2 hp) (by show ¬ s.heap.objs.size < p.2; rw [z]; exact Nat.lt_irrefl _)]
        exact S.fresh
      · by_cases q : ∃ p ∈ cs, p.2 = a
        · obtain ⟨p, hp, rfl⟩ := q; exact S.gN (above p hp)
        · rw [setCells_off fun p hp z => q ⟨p, hp, z⟩] at e; exact S.off a e
      · rw [bindL_eq hkn, Option.or_none]
        exact (rb.filter fun x => isLoc fd.scope.names x).reverse.lookup x v e
      · by_cases q : ∃ p ∈ cs, p.2 = a
        · obtain ⟨p, hp, rfl⟩ := q
          rw [setCells_get hap hp] at e
          cases e
          obtain ⟨v, ⟨ob, hob, hd⟩, r⟩ := cell p hp
          exact ⟨ob, hob, v, hd, r⟩
        · rw [setCells_off fun p hp z => q ⟨p, hp, z⟩] at e
          obtain ⟨ob, x, y⟩ := S.fit a o e
          exact ⟨ob, hk₁ _ _ x, y⟩
    obtain ⟨M, ⟨oL, es, n, hoL, hdL, hM⟩, hm⟩ := S.ns
    have LL : L ≠ (envC fd s.heap.objs.size f cs).locals := Nat.ne_of_lt S.ltL
    have csL : ∀ p ∈ cs, p.2 ≠ L := fun p hp z => by rw [← z, above p hp] at hoL; cases hoL
    have S₁' := S₁.know (o := .sat (frmP oL.cls oL.dict (.dict es n))) (hk₁ _ _ hoL) ⟨rfl, rfl, hdL⟩ S.gL LL
    refine h s.heap.objs.size cs _ _ S.offL ⟨_, _, _, _, rfl⟩ nm hap (fun p hp => ⟨σoff p hp, csL p hp⟩) (fun a o e => (AH.set_ne _ _ (S.ne e)).trans (subσ a o e)) (AH.set_self ..) (fun p hp => (AH.set_ne _ _ (csL p hp)).trans (setCells_get hap hp)) { s with heap := h₁, toks := tk₁ } _ _ S₁' fun fl fl' m' σ' h' tk p r S' T' => ?_
    obtain ⟨hfr, σ'', hsub, hn, p⟩ := p
    obtain ⟨S'', T''⟩ := S.backF hoL hdL hM hm hk₁ (fun a e => by
      by_cases qL : a = L
      · exact .inr (.inr qL)
      · rw [AH.set_ne _ _ qL] at e
        by_cases q : ∃ p ∈ cs, p.2 = a
        · obtain ⟨p, hp, rfl⟩ := q; exact .inr (.inl (above p hp))
        · rw [setCells_off fun p hp z => q ⟨p, hp, z⟩] at e; exact .inl e) (size_none _) S' T' hfr hsub hn
    refine c fl.val _ _ _ h' tk p ?_ S'' T''
    cases r <;> first | exact .none | assumption
end
end Mine

namespace Mine
open PySem PySem.W PyProof.Rows

noncomputable def O.isCode : O → Bool
  | .code _ => true
  | .lam .. => true
  | .tab _ => true
  | _ => false
open Classical in
/-- what is known beside the sorter, when a lambda was made -/
noncomputable def lamK (σ₀ σ'' : AH) : AH := fun a => if σ₀ a ≠ none ∨ (∃ o, σ'' a = some o ∧ o.isCode = true) then σ'' a else none

theorem lamK_old {P : Addr} {σ₀ σ σ'' : AH} {D : SD} (h : SOk σ₀ σ D) (hx : ExtP P σ σ'') {a : Addr} {o : O} (ha : a ≠ P) (e : σ₀ a = some o) : lamK σ₀ σ'' a = some o := by
  unfold lamK
  rw [if_pos (.inl (by rw [e]; simp))]
  exact hx _ _ ha (h.sub _ _ e)
theorem lamK_code {σ₀ σ'' : AH} {a : Addr} {o : O} (e : σ'' a = some o) (ho : o.isCode = true) : lamK σ₀ σ'' a = some o := by
  unfold lamK
  rw [if_pos (.inr ⟨o, e, ho⟩)]
  exact e
theorem lamK_tab {σ₀ σ'' : AH} {P : Addr} {q : Str} (h : TabOk σ'' P q) : TabOk (lamK σ₀ σ'') P q := by
  obtain ⟨ts, h1, h2⟩ := h
  exact ⟨ts, lamK_code h1 rfl, fun t ht => ⟨lamK_code (h2 t ht).1 rfl, (h2 t ht).2⟩⟩

theorem SOk.lam {P : Addr} {σ₀ σ σ'' : AH} {D : SD} (h : SOk σ₀ σ D) (hx : ExtP P σ σ'') {q : Str} (hP : TabOk σ P q) : SOk (lamK σ₀ σ'') σ'' D := by
  obtain ⟨ts, hp, _⟩ := hP
  have ne : ∀ a o, σ a = some o → o.isCode = false → a ≠ P := fun a o e ho => AH.ne_ob e hp fun z => by rw [z] at ho; cases ho
  have up : ∀ a o, σ a = some o → o.isCode = false → σ'' a = some o := fun a o e ho => hx _ _ (ne a o e ho) e
  have off : ∀ a o, σ a = some o → o.isCode = false → σ₀ a = none → lamK σ₀ σ'' a = none := fun a o e ho z => by
    unfold lamK
    rw [if_neg]
    rintro (q | ⟨o', e', ho'⟩)
    · exact q z
    · rw [up a o e ho] at e'; cases e'; rw [ho] at ho'; cases ho'
  refine ⟨⟨up _ _ h.inst.obj rfl, up _ _ h.inst.dict rfl⟩, up _ _ h.dict rfl, h.sys, fun n hn => ⟨up _ _ (h.node n hn).1 rfl, up _ _ (h.node n hn).2.1 rfl, up _ _ (h.node n hn).2.2 rfl⟩, h.keys, h.lss, fun p hp' => ⟨up _ _ (h.rdy p hp').1 rfl, (h.rdy p hp').2⟩, fun a o e => ?_, ⟨off _ _ h.inst.obj rfl h.off0.1, off _ _ h.inst.dict rfl h.off0.2.1, off _ _ h.dict rfl h.off0.2.2⟩, fun n hn => ⟨off _ _ (h.node n hn).1 rfl (h.offn n hn).1, off _ _ (h.node n hn).2.1 rfl (h.offn n hn).2.1, off _ _ (h.node n hn).2.2 rfl (h.offn n hn).2.2⟩, fun p hp' => off _ _ (h.rdy p hp').1 rfl (h.offr p hp')⟩
  unfold lamK at e
  split at e
  · exact e
  · cases e
end Mine

namespace Mine

theorem bs_spec (q : Nat → Bool) (lo hi : Nat) (h : lo ≤ hi) (mono : ∀ i j, lo ≤ i → i ≤ j → j < hi → q j = true → q i = true) : lo ≤ bs q lo hi ∧ (∀ i, lo ≤ i → i < bs q lo hi → q i = true) ∧ ∀ i, bs q lo hi ≤ i → i < hi → q i = false := by
  fun_induction bs q lo hi with
  | case1 lo hi h1 h2 ih =>
    obtain ⟨a, b, c⟩ := ih (by omega) fun i j h3 h4 h5 => mono i j (by omega) h4 h5
    refine ⟨by omega, fun i h3 h4 => ?_, c⟩
    by_cases e : i ≤ (lo + hi) / 2
    · exact mono i ((lo + hi) / 2) h3 e (by omega) h2
    · exact b i (by omega) h4
  | case2 lo hi h1 h2 ih =>
    obtain ⟨a, b, c⟩ := ih (by omega) fun i j h3 h4 h5 => mono i j h3 h4 (by omega)
    refine ⟨a, b, fun i h3 h4 => ?_⟩
    by_cases e : i < (lo + hi) / 2
    · exact c i h3 e
    · cases z : q i with
      | false => rfl
      | true => exact absurd (mono ((lo + hi) / 2) i (by omega) (by omega) h4 z) (by simpa using h2)
  | case3 lo hi h1 => exact ⟨Nat.le_refl _, fun i h3 h4 => absurd h4 (by omega), fun i h3 h4 => absurd h4 (by omega)⟩

theorem getD_of (xs : List Int) {i : Nat} (h : i < xs.length) : xs.getD i 0 = xs[i] := by rw [List.getD_eq_getElem?_getD, List.getElem?_eq_getElem h]; rfl
theorem qR_t (xs : List Int) (x : Int) (i : Nat) : qR xs x i = true ↔ xs.getD i 0 ≤ x := by unfold qR; rw [Bool.not_eq_true', decide_eq_false_iff_not, Int.not_lt]
theorem qR_f (xs : List Int) (x : Int) (i : Nat) : qR xs x i = false ↔ x < xs.getD i 0 := by unfold qR; rw [Bool.not_eq_false', decide_eq_true_iff]
theorem qL_t (xs : List Int) (x : Int) (i : Nat) : qL xs x i = true ↔ xs.getD i 0 < x := by unfold qL; rw [decide_eq_true_iff]
theorem qL_f (xs : List Int) (x : Int) (i : Nat) : qL xs x i = false ↔ x ≤ xs.getD i 0 := by unfold qL; rw [decide_eq_false_iff_not, Int.not_lt]
noncomputable def Srt (xs : List Int) : Prop := xs.Pairwise (· ≤ ·)
theorem Srt.get {xs : List Int} (h : Srt xs) {i j : Nat} (hij : i ≤ j) (hj : j < xs.length) : xs.getD i 0 ≤ xs.getD j 0 := by
  by_cases e : i = j
  · rw [e]; exact Int.le_refl _
  · have hi : i < xs.length := by omega
    have := List.pairwise_iff_getElem.mp h i j hi hj (by omega)
    simpa [hi, hj] using this

/-- a list that is p up to k and not p from k on -/
theorem filter_cut {xs : List Int} {p : Int → Bool} {k : Nat} (hk : k ≤ xs.length) (h1 : ∀ i, i < k → p (xs.getD i 0) = true) (h2 : ∀ i, k ≤ i → i < xs.length → p (xs.getD i 0) = false) : xs.filter p = xs.take k := by
  induction xs generalizing k with
  | nil => simp
  | cons x xs ih =>
    cases k with
    | zero =>
      rw [List.take_zero, List.filter_eq_nil_iff]
      intro a ha
      obtain ⟨i, hi, rfl⟩ := List.getElem_of_mem ha
      have := h2 i (Nat.zero_le _) hi
      rw [getD_of _ hi] at this
      rw [this]; exact Bool.false_ne_true
    | succ k =>
      have h0 := h1 0 (by omega)
      rw [List.filter_cons_of_pos (by simpa using h0), List.take_succ_cons]
      congr 1
      refine ih (by simpa using hk) (fun i hi => by simpa using h1 (i + 1) (by omega)) (fun i hi hl => by simpa using h2 (i + 1) (by omega) (by simpa using hl))

theorem bisR_take {xs : List Int} (h : Srt xs) (x : Int) : xs.filter (fun y => decide (y ≤ x)) = xs.take (bisR xs x) := by
  obtain ⟨_, b, c⟩ := bs_spec (qR xs x) 0 xs.length (Nat.zero_le _) fun i j _ hij hj hq => by
    rw [qR_t] at hq ⊢
    have := h.get hij hj
    omega
  refine filter_cut (bisR_le xs x) (fun i hi => ?_) fun i hi hl => ?_
  · exact decide_eq_true ((qR_t ..).mp (b i (Nat.zero_le _) hi))
  · exact decide_eq_false (Int.not_le.mpr ((qR_f ..).mp (c i hi hl)))
theorem bisL_take {xs : List Int} (h : Srt xs) (x : Int) : xs.filter (fun y => decide (y < x)) = xs.take (bisL xs x) := by
  obtain ⟨_, b, c⟩ := bs_spec (qL xs x) 0 xs.length (Nat.zero_le _) fun i j _ hij hj hq => by
    rw [qL_t] at hq ⊢
    have := h.get hij hj
    omega
  refine filter_cut (bisL_le xs x) (fun i hi => ?_) fun i hi hl => ?_
  · exact decide_eq_true ((qL_t ..).mp (b i (Nat.zero_le _) hi))
  · exact decide_eq_false (Int.not_lt.mpr ((qL_f ..).mp (c i hi hl)))
theorem bisR_count {xs : List Int} (h : Srt xs) (x : Int) : bisR xs x = (xs.filter fun y => decide (y ≤ x)).length := by
  rw [bisR_take h, List.length_take]; have := bisR_le xs x; omega
theorem bisL_count {xs : List Int} (h : Srt xs) (x : Int) : bisL xs x = (xs.filter fun y => decide (y < x)).length := by
  rw [bisL_take h, List.length_take]; have := bisL_le xs x; omega

theorem insAt_perm (xs : List Int) (k : Nat) (x : Int) : (insAt xs k x).Perm (x :: xs) := by
  unfold insAt
  refine List.perm_middle.trans ?_
  rw [List.take_append_drop]
theorem filter_not_drop {xs : List Int} {p : Int → Bool} {k : Nat} (h : xs.filter p = xs.take k) (h2 : ∀ y ∈ xs.drop k, p y = false) : True := trivial
theorem Srt.insR {xs : List Int} (h : Srt xs) (x : Int) : Srt (insR xs x) := by
  unfold Mine.insR insAt
  have ht := bisR_take h x
  refine List.pairwise_append.mpr ⟨List.Pairwise.sublist (List.take_sublist _ _) h, List.pairwise_cons.mpr ⟨fun y hy => ?_, List.Pairwise.sublist (List.drop_sublist _ _) h⟩, fun y hy z hz => ?_⟩
  · obtain ⟨i, hi, rfl⟩ := List.getElem_of_mem hy
    rw [List.getElem_drop]
    rw [List.length_drop] at hi
    obtain ⟨_, _, c⟩ := bs_spec (qR xs x) 0 xs.length (Nat.zero_le _) fun i j _ hij hj hq => by
      rw [qR_t] at hq ⊢
      have := h.get hij hj
      omega
    have := (qR_f ..).mp (c (bisR xs x + i) (Nat.le_add_right _ _) (by omega))
    have hl : bisR xs x + i < xs.length := by omega
    rw [getD_of _ hl] at this
    omega
  · have hyx : y ≤ x := by
      rw [← ht] at hy
      exact of_decide_eq_true (List.mem_filter.mp hy).2
    rcases List.mem_cons.mp hz with rfl | hz
    · exact hyx
    · have e := h
      unfold Srt at e
      rw [← List.take_append_drop (bisR xs x) xs] at e
      exact (List.pairwise_append.mp e).2.2 y hy z hz
theorem kept_spec (xs : List Int) : Srt (keptL xs) ∧ (keptL xs).Perm xs := by
  unfold keptL
  have key : ∀ (l k : List Int), Srt k → Srt (l.foldl insR k) ∧ (l.foldl insR k).Perm (k ++ l) := by
    intro l
    induction l with
    | nil => intro k hk; exact ⟨hk, by simp⟩
    | cons x l ih =>
      intro k hk
      obtain ⟨a, b⟩ := ih (insR k x) (hk.insR x)
      refine ⟨a, b.trans ?_⟩
      have := insAt_perm k (bisR k x) x
      refine ((this.append_right l).trans ?_)
      exact List.perm_middle.symm
  have := key xs [] List.Pairwise.nil
  simpa using this
end Mine

namespace Mine

/-- the row's order: by the value, then by the place -/
noncomputable def Lx (vals : List Int) (a b : Int) : Prop := keyOf vals a < keyOf vals b ∨ (keyOf vals a = keyOf vals b ∧ a < b)
theorem Lx.srt {vals r : List Int} (h : r.Pairwise (Lx vals)) : Srt (r.map (keyOf vals)) := by
  unfold Srt
  rw [List.pairwise_map]
  exact h.imp fun {a b} hab => by rcases hab with q | q <;> omega
theorem bisR_parts {xs : List Int} (h : Srt xs) (x : Int) : (∀ i, i < bisR xs x → xs.getD i 0 ≤ x) ∧ ∀ i, bisR xs x ≤ i → i < xs.length → x < xs.getD i 0 := by
  obtain ⟨_, b, c⟩ := bs_spec (qR xs x) 0 xs.length (Nat.zero_le _) fun i j _ hij hj hq => by
    rw [qR_t] at hq ⊢
    have := h.get hij hj
    omega
  exact ⟨fun i hi => (qR_t ..).mp (b i (Nat.zero_le _) hi), fun i hi hl => (qR_f ..).mp (c i hi hl)⟩
theorem bisL_parts {xs : List Int} (h : Srt xs) (x : Int) : (∀ i, i < bisL xs x → xs.getD i 0 < x) ∧ ∀ i, bisL xs x ≤ i → i < xs.length → x ≤ xs.getD i 0 := by
  obtain ⟨_, b, c⟩ := bs_spec (qL xs x) 0 xs.length (Nat.zero_le _) fun i j _ hij hj hq => by
    rw [qL_t] at hq ⊢
    have := h.get hij hj
    omega
  exact ⟨fun i hi => (qL_t ..).mp (b i (Nat.zero_le _) hi), fun i hi hl => (qL_f ..).mp (c i hi hl)⟩
theorem mem_take_i {xs : List Int} {k : Nat} {y : Int} (h : y ∈ xs.take k) : ∃ i, i < k ∧ i < xs.length ∧ xs.getD i 0 = y := by
  obtain ⟨i, hi, rfl⟩ := List.getElem_of_mem h
  rw [List.length_take] at hi
  exact ⟨i, by omega, by omega, by rw [getD_of _ (by omega)]; simp⟩
theorem mem_drop_i {xs : List Int} {k : Nat} {y : Int} (h : y ∈ xs.drop k) : ∃ i, k ≤ i ∧ i < xs.length ∧ xs.getD i 0 = y := by
  obtain ⟨i, hi, rfl⟩ := List.getElem_of_mem h
  rw [List.length_drop] at hi
  exact ⟨k + i, by omega, by omega, by rw [getD_of _ (by omega)]; simp⟩
theorem getD_map_key (vals r : List Int) {i : Nat} (h : i < r.length) : (r.map (keyOf vals)).getD i 0 = keyOf vals (r.getD i 0) := by
  rw [getD_of _ (by simpa using h), getD_of _ h]; simp
theorem Lx.ins {vals r : List Int} {p : Int} (h : r.Pairwise (Lx vals)) (hp : ∀ a ∈ r, a < p) : (insK vals r p).Pairwise (Lx vals) := by
  unfold insK insAt
  obtain ⟨b1, b2⟩ := bisR_parts (Lx.srt h) (keyOf vals p)
  rw [List.length_map] at b2
  generalize bisR (r.map (keyOf vals)) (keyOf vals p) = k at b1 b2
  have lt : ∀ a ∈ r.take k, Lx vals a p := fun a ha => by
    obtain ⟨i, h1, h2, rfl⟩ := mem_take_i ha
    have := b1 i h1
    rw [getD_map_key vals r h2] at this
    have hap := hp _ (List.mem_of_mem_take ha)
    by_cases e : keyOf vals (r.getD i 0) = keyOf vals p
    · exact .inr ⟨e, hap⟩
    · exact .inl (by omega)
  have gt : ∀ b ∈ r.drop k, Lx vals p b := fun b hb => by
    obtain ⟨i, h1, h2, rfl⟩ := mem_drop_i hb
    have := b2 i h1 h2
    rw [getD_map_key vals r h2] at this
    exact .inl this
  refine List.pairwise_append.mpr ⟨List.Pairwise.sublist (List.take_sublist _ _) h, List.pairwise_cons.mpr ⟨gt, List.Pairwise.sublist (List.drop_sublist _ _) h⟩, fun y hy z hz => ?_⟩
  rcases List.mem_cons.mp hz with rfl | hz
  · exact lt y hy
  · have e := h
    rw [← List.take_append_drop k r] at e
    exact (List.pairwise_append.mp e).2.2 y hy z hz
theorem row_spec (vals : List Int) : (rowL vals).Pairwise (Lx vals) ∧ (rowL vals).Perm (nats vals.length) := by
  unfold rowL
  have key : ∀ n, (((List.range n).map fun (i : Nat) => (i : Int)).foldl (insK vals) []).Pairwise (Lx vals) ∧ (((List.range n).map fun (i : Nat) => (i : Int)).foldl (insK vals) []).Perm (nats n) := by
    intro n
    induction n with
    | zero => exact ⟨List.Pairwise.nil, List.Perm.refl _⟩
    | succ n ih =>
      obtain ⟨a, b⟩ := ih
      rw [List.range_succ, List.map_append, List.foldl_append]
      show (insK vals _ (n : Int)).Pairwise _ ∧ (insK vals _ (n : Int)).Perm _
      refine ⟨Lx.ins a fun x hx => ?_, ?_⟩
      · obtain ⟨k, hk, rfl⟩ := mem_nats (b.mem_iff.mp hx)
        omega
      · refine (insAt_perm _ _ _).trans ?_
        unfold nats
        rw [List.range_succ, List.map_append]
        exact (List.Perm.cons _ b).trans (List.perm_append_singleton _ _).symm
  exact key vals.length
end Mine

namespace Mine

noncomputable def SSrt (xs : List Int) : Prop := xs.Pairwise (· < ·)
theorem SSrt.srt {xs : List Int} (h : SSrt xs) : Srt xs := h.imp fun {a b} hab => Int.le_of_lt hab
theorem bis_eq_iff {u : List Int} (h : Srt u) (c : Int) : ((bisL u c : Int) == (bisR u c : Int)) = true ↔ c ∉ u := by
  obtain ⟨r1, r2⟩ := bisR_parts h c
  obtain ⟨l1, l2⟩ := bisL_parts h c
  have hr := bisR_le u c
  have hl := bisL_le u c
  rw [beq_iff_eq]
  constructor
  · intro e hm
    have e : bisL u c = bisR u c := by omega
    obtain ⟨i, hi, rfl⟩ := List.getElem_of_mem hm
    by_cases q : i < bisL u u[i]
    · have := l1 i q
      rw [getD_of _ hi] at this
      omega
    · have := r2 i (by omega) hi
      rw [getD_of _ hi] at this
      omega
  · intro hn
    have h1 : bisL u c ≤ bisR u c := by
      by_cases q : bisL u c ≤ bisR u c
      · exact q
      · have a := l1 (bisR u c) (by omega)
        have b := r2 (bisR u c) (Nat.le_refl _) (by omega)
        omega
    have h2 : bisR u c ≤ bisL u c := by
      by_cases q : bisR u c ≤ bisL u c
      · exact q
      · exfalso
        have a := r1 (bisL u c) (by omega)
        have b := l2 (bisL u c) (Nat.le_refl _) (by omega)
        have hlt : bisL u c < u.length := by omega
        rw [getD_of _ hlt] at a b
        exact hn (by rw [show c = u[bisL u c] by omega]; exact List.getElem_mem hlt)
    omega
theorem SSrt.ins {u : List Int} (h : SSrt u) {c : Int} (hc : c ∉ u) : SSrt (insAt u (bisL u c) c) := by
  unfold insAt
  obtain ⟨l1, l2⟩ := bisL_parts h.srt c
  generalize bisL u c = k at l1 l2
  have lt : ∀ a ∈ u.take k, a < c := fun a ha => by
    obtain ⟨i, h1, h2, rfl⟩ := mem_take_i ha
    exact l1 i h1
  have gt : ∀ b ∈ u.drop k, c < b := fun b hb => by
    have hne : c ≠ b := fun e => hc (e ▸ List.mem_of_mem_drop hb)
    obtain ⟨i, h1, h2, rfl⟩ := mem_drop_i hb
    have := l2 i h1 h2
    omega
  refine List.pairwise_append.mpr ⟨List.Pairwise.sublist (List.take_sublist _ _) h, List.pairwise_cons.mpr ⟨gt, List.Pairwise.sublist (List.drop_sublist _ _) h⟩, fun y hy z hz => ?_⟩
  rcases List.mem_cons.mp hz with rfl | hz
  · exact lt y hy
  · exact Int.lt_trans (lt y hy) (gt z hz)
theorem unlike_spec (cs : List Int) : SSrt (unlikeL cs) ∧ ∀ c, c ∈ unlikeL cs ↔ c ∈ cs := by
  unfold unlikeL
  have key : ∀ (l u : List Int), SSrt u → SSrt (l.foldl unlikeStep u) ∧ ∀ c, c ∈ l.foldl unlikeStep u ↔ c ∈ u ∨ c ∈ l := by
    intro l
    induction l with
    | nil => intro u hu; exact ⟨hu, fun c => by simp⟩
    | cons x l ih =>
      intro u hu
      have hs : SSrt (unlikeStep u x) ∧ ∀ c, c ∈ unlikeStep u x ↔ c ∈ u ∨ c = x := by
        cases e : ((bisL u x : Int) == (bisR u x : Int)) with
        | true =>
          rw [unlikeStep_yes e]
          have hx := (bis_eq_iff hu.srt x).mp e
          refine ⟨hu.ins hx, fun c => ?_⟩
          rw [(insAt_perm u (bisL u x) x).mem_iff, List.mem_cons]
          exact Or.comm
        | false =>
          rw [unlikeStep_no e]
          have hx : x ∈ u := by
            by_cases q : x ∈ u
            · exact q
            · rw [(bis_eq_iff hu.srt x).mpr q] at e; cases e
          exact ⟨hu, fun c => ⟨.inl, fun q => q.elim id fun z => z ▸ hx⟩⟩
      obtain ⟨a, b⟩ := ih _ hs.1
      refine ⟨a, fun c => ?_⟩
      rw [List.foldl_cons, b c, hs.2 c, List.mem_cons, or_assoc]
  have := key cs [] List.Pairwise.nil
  exact ⟨this.1, fun c => by rw [this.2 c]; simp⟩
/-- ranks: below, in the same order -/
theorem rank_lt {u : List Int} (h : SSrt u) {a b : Int} (ha : a ∈ u) (hb : b ∈ u) : bisL u a < bisL u b ↔ a < b := by
  obtain ⟨la1, la2⟩ := bisL_parts h.srt a
  obtain ⟨lb1, lb2⟩ := bisL_parts h.srt b
  have hla := bisL_le u a
  have hlb := bisL_le u b
  constructor
  · intro q
    have hlt : bisL u a < u.length := by omega
    have x := la2 _ (Nat.le_refl _) hlt
    have y := lb1 _ q
    omega
  · intro q
    obtain ⟨i, hi, rfl⟩ := List.getElem_of_mem ha
    by_cases z : bisL u u[i] < bisL u b
    · exact z
    · exfalso
      by_cases y : i < bisL u u[i]
      · have := la1 i y; rw [getD_of _ hi] at this; omega
      · have := lb2 i (by omega) hi; rw [getD_of _ hi] at this; omega
theorem rank_eq {u : List Int} (h : SSrt u) {a b : Int} (ha : a ∈ u) (hb : b ∈ u) : bisL u a = bisL u b ↔ a = b := by
  have h1 := rank_lt h ha hb
  have h2 := rank_lt h hb ha
  constructor
  · intro e; omega
  · rintro rfl; rfl
end Mine

namespace Mine

theorem rank_at {u : List Int} (h : SSrt u) {k : Nat} (hk : k < u.length) : bisL u u[k] = k := by
  obtain ⟨l1, l2⟩ := bisL_parts h.srt u[k]
  have hle := bisL_le u u[k]
  have st : ∀ i j, i < j → (hj : j < u.length) → u.getD i 0 < u.getD j 0 := fun i j hij hj => by
    rw [getD_of _ (by omega), getD_of _ hj]
    exact List.pairwise_iff_getElem.mp h i j (by omega) hj hij
  by_cases q : bisL u u[k] < k
  · have := l2 (bisL u u[k]) (Nat.le_refl _) (by omega)
    have := st _ k q hk
    rw [getD_of _ hk] at this
    omega
  · by_cases q2 : k < bisL u u[k]
    · have := l1 k q2
      rw [getD_of _ hk] at this
      omega
    · omega
/-- a rank above k stands above one of rank k or more -/
theorem rank_succ {u : List Int} (h : SSrt u) {a : Int} (ha : a ∈ u) (k : Nat) : k + 1 ≤ bisL u a ↔ ∃ c ∈ u, c < a ∧ k ≤ bisL u c := by
  constructor
  · intro q
    have hle := bisL_le u a
    have hk : k < u.length := by omega
    refine ⟨u[k], List.getElem_mem hk, ?_, by rw [rank_at h hk]; exact Nat.le_refl _⟩
    obtain ⟨l1, _⟩ := bisL_parts h.srt a
    have := l1 k (by omega)
    rwa [getD_of _ hk] at this
  · rintro ⟨c, hc, hlt, hr⟩
    have := (rank_lt h hc ha).mpr hlt
    omega
theorem rank_lt_len {u : List Int} (h : SSrt u) {a : Int} (ha : a ∈ u) : bisL u a < u.length := by
  obtain ⟨i, hi, rfl⟩ := List.getElem_of_mem ha
  rw [rank_at h hi]; exact hi

theorem count_le {α : Type} {l : List α} {p q : α → Bool} (hpq : ∀ x ∈ l, p x = true → q x = true) : (l.filter p).length ≤ (l.filter q).length := by
  induction l with
  | nil => simp
  | cons x l ih =>
    have ih := ih fun y hy => hpq y (List.mem_cons_of_mem _ hy)
    have hx := hpq x (List.mem_cons_self ..)
    cases e1 : p x <;> cases e2 : q x
    · rw [List.filter_cons_of_neg (by simp [e1]), List.filter_cons_of_neg (by simp [e2])]; exact ih
    · rw [List.filter_cons_of_neg (by simp [e1]), List.filter_cons_of_pos e2, List.length_cons]; omega
    · rw [hx e1] at e2; cases e2
    · rw [List.filter_cons_of_pos e1, List.filter_cons_of_pos e2, List.length_cons, List.length_cons]; omega
/-- counts of two nested properties -/
theorem count_lt {α : Type} {l : List α} {p q : α → Bool} (hpq : ∀ x ∈ l, p x = true → q x = true) : (l.filter p).length < (l.filter q).length ↔ ∃ x ∈ l, q x = true ∧ p x = false := by
  induction l with
  | nil => simp
  | cons x l ih =>
    have ih := ih fun y hy => hpq y (List.mem_cons_of_mem _ hy)
    have le : (l.filter p).length ≤ (l.filter q).length := count_le fun y hy => hpq y (List.mem_cons_of_mem _ hy)
    have hx := hpq x (List.mem_cons_self ..)
    cases e1 : p x <;> cases e2 : q x
    · rw [List.filter_cons_of_neg (by simp [e1]), List.filter_cons_of_neg (by simp [e2]), ih]
      simp [e1, e2]
    · rw [List.filter_cons_of_neg (by simp [e1]), List.filter_cons_of_pos e2]
      simp only [List.length_cons]
      exact ⟨fun _ => ⟨x, List.mem_cons_self .., e2, e1⟩, fun _ => by omega⟩
    · rw [e1] at hx; rw [hx rfl] at e2; cases e2
    · rw [List.filter_cons_of_pos e1, List.filter_cons_of_pos e2]
      simp only [List.length_cons, Nat.add_lt_add_iff_right]
      rw [ih]
      simp [e1, e2]
end Mine

namespace Mine

/-- stretches, and the marks that the counts give -/
structure Iv (n : Nat) (b e : Nat → Int) (uF uG : List Int) : Prop where
  pos : ∀ i, i < n → b i < e i
  sF : SSrt uF
  sG : SSrt uG
  mF : ∀ c, c ∈ uF ↔ ∃ i, i < n ∧ c = (((List.range n).filter fun j => decide (e j ≤ b i)).length : Int)
  mG : ∀ c, c ∈ uG ↔ ∃ j, j < n ∧ c = -(((List.range n).filter fun i => decide (e j ≤ b i)).length : Int)
noncomputable def cF (n : Nat) (b e : Nat → Int) (i : Nat) : Int := (((List.range n).filter fun j => decide (e j ≤ b i)).length : Int)
noncomputable def cG (n : Nat) (b e : Nat → Int) (j : Nat) : Int := (((List.range n).filter fun i => decide (e j ≤ b i)).length : Int)
noncomputable def mf (n : Nat) (b e : Nat → Int) (uF : List Int) (i : Nat) : Nat := bisL uF (cF n b e i)
noncomputable def ml (n : Nat) (b e : Nat → Int) (uG : List Int) (j : Nat) : Nat := bisL uG (-(cG n b e j))

section
variable {n : Nat} {b e : Nat → Int} {uF uG : List Int}
theorem cF_lt (i' i : Nat) : cF n b e i' < cF n b e i ↔ ∃ j, j < n ∧ b i' < e j ∧ e j ≤ b i := by
  unfold cF
  by_cases q : b i' ≤ b i
  · have := count_lt (l := List.range n) (p := fun j => decide (e j ≤ b i')) (q := fun j => decide (e j ≤ b i)) (fun x _ hx => decide_eq_true (Int.le_trans (of_decide_eq_true hx) q))
    constructor
    · intro h
      obtain ⟨j, hj, h1, h2⟩ := this.mp (by omega)
      exact ⟨j, List.mem_range.mp hj, Int.not_le.mp (of_decide_eq_false h2), of_decide_eq_true h1⟩
    · rintro ⟨j, hj, h1, h2⟩
      have := this.mpr ⟨j, List.mem_range.mpr hj, decide_eq_true h2, decide_eq_false (Int.not_le.mpr h1)⟩
      omega
  · have := count_le (l := List.range n) (p := fun j => decide (e j ≤ b i)) (q := fun j => decide (e j ≤ b i')) (fun x _ hx => decide_eq_true (by have := of_decide_eq_true hx; omega))
    constructor
    · intro h; omega
    · rintro ⟨j, hj, h1, h2⟩; omega
theorem cG_lt (j' j : Nat) : cG n b e j < cG n b e j' ↔ ∃ i, i < n ∧ e j' ≤ b i ∧ b i < e j := by
  unfold cG
  by_cases q : e j' ≤ e j
  · have := count_lt (l := List.range n) (p := fun i => decide (e j ≤ b i)) (q := fun i => decide (e j' ≤ b i)) (fun x _ hx => decide_eq_true (Int.le_trans q (of_decide_eq_true hx)))
    constructor
    · intro h
      obtain ⟨i, hi, h1, h2⟩ := this.mp (by omega)
      exact ⟨i, List.mem_range.mp hi, of_decide_eq_true h1, Int.not_le.mp (of_decide_eq_false h2)⟩
    · rintro ⟨i, hi, h1, h2⟩
      have := this.mpr ⟨i, List.mem_range.mpr hi, decide_eq_true h1, decide_eq_false (Int.not_le.mpr h2)⟩
      omega
  · have := count_le (l := List.range n) (p := fun i => decide (e j' ≤ b i)) (q := fun i => decide (e j ≤ b i)) (fun x _ hx => decide_eq_true (by have := of_decide_eq_true hx; omega))
    constructor
    · intro h; omega
    · rintro ⟨i, hi, h1, h2⟩; omega
theorem Iv.f_succ (h : Iv n b e uF uG) {i : Nat} (hi : i < n) (k : Nat) : k + 1 ≤ mf n b e uF i ↔ ∃ i' j, i' < n ∧ j < n ∧ b i' < e j ∧ e j ≤ b i ∧ k ≤ mf n b e uF i' := by
  unfold mf
  refine (rank_succ h.sF (a := cF n b e i) ((h.mF _).mpr ⟨i, hi, rfl⟩) k).trans ?_
  constructor
  · rintro ⟨c, hc, hlt, hk⟩
    obtain ⟨i', hi', rfl⟩ := (h.mF c).mp hc
    obtain ⟨j, hj, h1, h2⟩ := (cF_lt i' i).mp hlt
    exact ⟨i', j, hi', hj, h1, h2, hk⟩
  · rintro ⟨i', j, hi', hj, h1, h2, hk⟩
    exact ⟨cF n b e i', (h.mF _).mpr ⟨i', hi', rfl⟩, (cF_lt i' i).mpr ⟨j, hj, h1, h2⟩, hk⟩
theorem Iv.l_succ (h : Iv n b e uF uG) {j : Nat} (hj : j < n) (k : Nat) : k + 1 ≤ ml n b e uG j ↔ ∃ j' i, j' < n ∧ i < n ∧ e j' ≤ b i ∧ b i < e j ∧ k ≤ ml n b e uG j' := by
  unfold ml
  refine (rank_succ h.sG (a := -(cG n b e j)) ((h.mG _).mpr ⟨j, hj, rfl⟩) k).trans ?_
  constructor
  · rintro ⟨c, hc, hlt, hk⟩
    obtain ⟨j', hj', rfl⟩ := (h.mG c).mp hc
    obtain ⟨i, hi, h1, h2⟩ := (cG_lt (n := n) (b := b) (e := e) j' j).mp (by unfold cG at hlt ⊢; omega)
    exact ⟨j', i, hj', hi, h1, h2, hk⟩
  · rintro ⟨j', i, hj', hi, h1, h2, hk⟩
    have := (cG_lt (n := n) (b := b) (e := e) j' j).mpr ⟨i, hi, h1, h2⟩
    exact ⟨-(cG n b e j'), (h.mG _).mpr ⟨j', hj', rfl⟩, by omega, hk⟩
theorem Iv.key (h : Iv n b e uF uG) : ∀ (k j : Nat), j < n → ((∃ i, i < n ∧ b i < e j ∧ k ≤ mf n b e uF i) ↔ k ≤ ml n b e uG j)
  | 0, j, hj => ⟨fun _ => Nat.zero_le _, fun _ => ⟨j, hj, h.pos j hj, Nat.zero_le _⟩⟩
  | k + 1, j, hj => by
    rw [h.l_succ hj]
    constructor
    · rintro ⟨i, hi, h1, h2⟩
      obtain ⟨i', j', hi', hj', h3, h4, h5⟩ := (h.f_succ hi k).mp h2
      exact ⟨j', i, hj', hi, h4, h1, (h.key k j' hj').mp ⟨i', hi', h3, h5⟩⟩
    · rintro ⟨j', i, hj', hi, h1, h2, h3⟩
      obtain ⟨i', hi', h4, h5⟩ := (h.key k j' hj').mpr h3
      exact ⟨i, hi, h2, (h.f_succ hi k).mpr ⟨i', j', hi', hj', h4, h1, h5⟩⟩
/-- one is ahead of the other just if its last mark is below the other's first -/
theorem Iv.ahead (h : Iv n b e uF uG) {i j : Nat} (hi : i < n) (hj : j < n) : e j ≤ b i ↔ ml n b e uG j < mf n b e uF i := by
  constructor
  · intro q
    obtain ⟨i', hi', h1, h2⟩ := (h.key (ml n b e uG j) j hj).mpr (Nat.le_refl _)
    exact (h.f_succ hi _).mpr ⟨i', j, hi', hj, h1, q, h2⟩
  · intro q
    by_cases z : e j ≤ b i
    · exact z
    · have := (h.key (mf n b e uF i) j hj).mp ⟨i, hi, Int.not_le.mp z, Nat.le_refl _⟩
      omega
end
end Mine

namespace Mine
section
variable {n : Nat} {b e : Nat → Int} {uF uG : List Int}
theorem Iv.f_onto (h : Iv n b e uF uG) {k : Nat} (hk : k < uF.length) : ∃ i, i < n ∧ mf n b e uF i = k := by
  obtain ⟨i, hi, e1⟩ := (h.mF uF[k]).mp (List.getElem_mem hk)
  refine ⟨i, hi, ?_⟩
  unfold mf
  rw [show cF n b e i = uF[k] from e1.symm]
  exact rank_at h.sF hk
theorem Iv.l_onto (h : Iv n b e uF uG) {k : Nat} (hk : k < uG.length) : ∃ j, j < n ∧ ml n b e uG j = k := by
  obtain ⟨j, hj, e1⟩ := (h.mG uG[k]).mp (List.getElem_mem hk)
  refine ⟨j, hj, ?_⟩
  unfold ml
  rw [show -(cG n b e j) = uG[k] from e1.symm]
  exact rank_at h.sG hk
theorem Iv.f_lt (h : Iv n b e uF uG) {i : Nat} (hi : i < n) : mf n b e uF i < uF.length := rank_lt_len h.sF ((h.mF _).mpr ⟨i, hi, rfl⟩)
theorem Iv.l_lt (h : Iv n b e uF uG) {j : Nat} (hj : j < n) : ml n b e uG j < uG.length := rank_lt_len h.sG ((h.mG _).mpr ⟨j, hj, rfl⟩)
theorem Iv.fl (h : Iv n b e uF uG) {i : Nat} (hi : i < n) : mf n b e uF i ≤ ml n b e uG i := (h.key _ i hi).mp ⟨i, hi, h.pos i hi, Nat.le_refl _⟩
theorem Iv.same (h : Iv n b e uF uG) : uF.length = uG.length := by
  have h1 : uF.length ≤ uG.length := by
    by_cases q : uF.length = 0
    · omega
    · obtain ⟨i, hi, e1⟩ := h.f_onto (k := uF.length - 1) (by omega)
      have := h.fl hi
      have := h.l_lt hi
      omega
  have h2 : uG.length ≤ uF.length := by
    by_cases q : uG.length = 0
    · omega
    · obtain ⟨j, hj, e1⟩ := h.l_onto (k := uG.length - 1) (by omega)
      obtain ⟨i, hi, _, h3⟩ := (h.key (uG.length - 1) j hj).mpr (by omega)
      have := h.f_lt hi
      omega
  omega
/-- the mark grows with the begin -/
theorem Iv.f_mono (h : Iv n b e uF uG) {i i' : Nat} (hi : i < n) (hi' : i' < n) (hb : b i ≤ b i') : mf n b e uF i ≤ mf n b e uF i' := by
  by_cases q : mf n b e uF i' < mf n b e uF i
  · have := (rank_lt h.sF ((h.mF _).mpr ⟨i', hi', rfl⟩) ((h.mF _).mpr ⟨i, hi, rfl⟩)).mp q
    obtain ⟨j, hj, h1, h2⟩ := (cF_lt (n := n) (b := b) (e := e) i' i).mp this
    omega
  · omega
theorem Iv.l_mono (h : Iv n b e uF uG) {j j' : Nat} (hj : j < n) (hj' : j' < n) (he : e j ≤ e j') : ml n b e uG j ≤ ml n b e uG j' := by
  by_cases q : ml n b e uG j' < ml n b e uG j
  · have := (rank_lt h.sG ((h.mG _).mpr ⟨j', hj', rfl⟩) ((h.mG _).mpr ⟨j, hj, rfl⟩)).mp q
    obtain ⟨i, hi, h1, h2⟩ := (cG_lt (n := n) (b := b) (e := e) j' j).mp (by unfold cG; omega)
    omega
  · omega
end
end Mine

namespace Mine

/-- the stretches that bear the mark c -/
noncomputable def clq (n : Nat) (f l : Nat → Nat) (c : Nat) : List Int := (nats n).filter fun j => decide (f j.toNat ≤ c) && decide (c ≤ l j.toNat)
theorem mem_nats_iff {n : Nat} {x : Int} : x ∈ nats n ↔ ∃ k : Nat, k < n ∧ x = k := ⟨mem_nats, fun ⟨k, hk, e⟩ => e ▸ List.mem_map.mpr ⟨k, List.mem_range.mpr hk, rfl⟩⟩
theorem mem_clq {n : Nat} {f l : Nat → Nat} {c k : Nat} : (k : Int) ∈ clq n f l c ↔ k < n ∧ f k ≤ c ∧ c ≤ l k := by
  unfold clq
  rw [List.mem_filter, mem_nats_iff, Bool.and_eq_true_iff, decide_eq_true_iff, decide_eq_true_iff]
  simp only [Int.toNat_natCast]
  constructor
  · rintro ⟨⟨k', hk', e⟩, h⟩
    have : k = k' := by omega
    exact ⟨this ▸ hk', h⟩
  · rintro ⟨hk, h⟩
    exact ⟨⟨k, hk, rfl⟩, h⟩
theorem filter_ext_mem {l : List Int} {p q : Int → Bool} (h : ∀ x ∈ l, p x = true ↔ q x = true) : l.filter p = l.filter q := List.filter_congr fun x hx => by
  have := h x hx
  cases e1 : p x <;> cases e2 : q x <;> simp_all
theorem mem_held {n : Nat} {begins ends : List Int} {p : Int} {k : Nat} : (k : Int) ∈ heldL n begins ends p ↔ k < n ∧ begins.getD k 0 ≤ p ∧ p < ends.getD k 0 := by
  unfold heldL
  rw [List.mem_filter, mem_nats_iff, Bool.and_eq_true_iff, decide_eq_true_iff, decide_eq_true_iff, keyOf_nat, keyOf_nat]
  constructor
  · rintro ⟨⟨k', hk', e⟩, h⟩
    have : k = k' := by omega
    exact ⟨this ▸ hk', h⟩
  · rintro ⟨hk, h⟩
    exact ⟨⟨k, hk, rfl⟩, h⟩
theorem held_mem_nat {n : Nat} {begins ends : List Int} {p x : Int} (h : x ∈ heldL n begins ends p) : ∃ k : Nat, x = k := by
  unfold heldL at h
  obtain ⟨k, _, e⟩ := mem_nats (List.mem_filter.mp h).1
  exact ⟨k, e⟩
theorem clq_mem_nat {n : Nat} {f l : Nat → Nat} {c : Nat} {x : Int} (h : x ∈ clq n f l c) : ∃ k : Nat, x = k := by
  unfold clq at h
  obtain ⟨k, _, e⟩ := mem_nats (List.mem_filter.mp h).1
  exact ⟨k, e⟩
/-- two filters of the same row are the same just if they hold the same -/
theorem filt_eq {l : List Int} {p q : Int → Bool} : (∀ x, x ∈ l.filter p ↔ x ∈ l.filter q) ↔ l.filter p = l.filter q := by
  constructor
  · intro h
    refine filter_ext_mem fun x hx => ?_
    have := h x
    simp only [List.mem_filter, hx, true_and] at this
    exact this
  · intro e x; rw [e]
end Mine

namespace Mine

theorem argmax (b : Nat → Int) (P : Nat → Prop) : ∀ n, (∃ i, i < n ∧ P i) → ∃ k, k < n ∧ P k ∧ ∀ i, i < n → P i → b i ≤ b k
  | 0, ⟨i, hi, _⟩ => absurd hi (Nat.not_lt_zero _)
  | n + 1, ⟨i, hi, hp⟩ => by
    by_cases q : ∃ i, i < n ∧ P i
    · obtain ⟨k, hk, hpk, hmax⟩ := argmax b P n q
      by_cases z : P n ∧ b k ≤ b n
      · exact ⟨n, by omega, z.1, fun j hj hpj => by
          by_cases e : j = n
          · rw [e]; exact Int.le_refl _
          · exact Int.le_trans (hmax j (by omega) hpj) z.2⟩
      · refine ⟨k, by omega, hpk, fun j hj hpj => ?_⟩
        by_cases e : j = n
        · subst e
          have : ¬ b k ≤ b j := fun w => z ⟨hpj, w⟩
          omega
        · exact hmax j (by omega) hpj
    · have e : i = n := by
        by_cases w : i < n
        · exact absurd ⟨i, w, hp⟩ q
        · omega
      subst e
      exact ⟨i, by omega, hp, fun j hj hpj => by
        by_cases e : j = i
        · rw [e]; exact Int.le_refl _
        · exact absurd ⟨j, by omega, hpj⟩ q⟩

theorem mem_sets {n : Nat} {b e : List Int} (pts : List Int) (X : List Int) : X ∈ setsL n b e pts ↔ ∃ p ∈ pts, X = heldL n b e p := by
  unfold setsL
  have key : ∀ (l : List Int) (S : List (List Int)), X ∈ l.foldl (setStep n b e) S ↔ X ∈ S ∨ ∃ p ∈ l, X = heldL n b e p := by
    intro l
    induction l with
    | nil => intro S; simp
    | cons p l ih =>
      intro S
      rw [List.foldl_cons, ih]
      unfold setStep
      split
      · rename_i h
        constructor
        · rintro (q | ⟨p', hp', rfl⟩)
          · exact .inl q
          · exact .inr ⟨p', List.mem_cons_of_mem _ hp', rfl⟩
        · rintro (q | ⟨p', hp', rfl⟩)
          · exact .inl q
          · rcases List.mem_cons.mp hp' with rfl | hp'
            · exact .inl h
            · exact .inr ⟨p', hp', rfl⟩
      · rw [List.mem_append, List.mem_singleton]
        constructor
        · rintro ((q | rfl) | ⟨p', hp', rfl⟩)
          · exact .inl q
          · exact .inr ⟨p, List.mem_cons_self .., rfl⟩
          · exact .inr ⟨p', List.mem_cons_of_mem _ hp', rfl⟩
        · rintro (q | ⟨p', hp', rfl⟩)
          · exact .inl (.inl q)
          · rcases List.mem_cons.mp hp' with rfl | hp'
            · exact .inl (.inr rfl)
            · exact .inr ⟨p', hp', rfl⟩
  rw [key pts []]
  simp

section
variable {n : Nat} {begins ends : List Int} {uF uG : List Int}
noncomputable abbrev bOf (begins : List Int) (i : Nat) : Int := begins.getD i 0

theorem held_sub (H : Iv n (bOf begins) (bOf ends) uF uG) {k : Nat} (hk : k < n) {x : Int} (hx : x ∈ heldL n begins ends (bOf begins k)) : x ∈ clq n (mf n (bOf begins) (bOf ends) uF) (ml n (bOf begins) (bOf ends) uG) (mf n (bOf begins) (bOf ends) uF k) := by
  obtain ⟨i, rfl⟩ := held_mem_nat hx
  obtain ⟨hi, h1, h2⟩ := mem_held.mp hx
  refine mem_clq.mpr ⟨hi, H.f_mono hi hk h1, ?_⟩
  have := (H.ahead hk hi)
  by_cases q : ml n (bOf begins) (bOf ends) uG i < mf n (bOf begins) (bOf ends) uF k
  · have := this.mpr q
    unfold bOf at this h2
    omega
  · omega
theorem held_top (H : Iv n (bOf begins) (bOf ends) uF uG) {c : Nat} (hc : c < uF.length) : ∃ k, k < n ∧ mf n (bOf begins) (bOf ends) uF k = c ∧ heldL n begins ends (bOf begins k) = clq n (mf n (bOf begins) (bOf ends) uF) (ml n (bOf begins) (bOf ends) uG) c := by
  obtain ⟨k, hk, e, hmax⟩ := argmax (bOf begins) (fun i => mf n (bOf begins) (bOf ends) uF i = c) n (H.f_onto hc)
  refine ⟨k, hk, e, ?_⟩
  refine filt_eq.mp fun x => ⟨fun hx => ?_, fun hx => ?_⟩
  · have := held_sub H hk (x := x) hx
    rw [e] at this
    exact this
  · obtain ⟨i, rfl⟩ := clq_mem_nat (n := n) (f := mf n (bOf begins) (bOf ends) uF) (l := ml n (bOf begins) (bOf ends) uG) (c := c) hx
    obtain ⟨hi, h1, h2⟩ := mem_clq.mp (show (i : Int) ∈ clq n (mf n (bOf begins) (bOf ends) uF) (ml n (bOf begins) (bOf ends) uG) c from hx)
    refine (mem_held (begins := begins) (ends := ends)).mpr ⟨hi, ?_, ?_⟩
    · by_cases q : mf n (bOf begins) (bOf ends) uF i = c
      · exact hmax i hi q
      · by_cases w : bOf begins i ≤ bOf begins k
        · exact w
        · have := H.f_mono hk hi (by omega)
          omega
    · have := (H.ahead hk hi)
      by_cases w : bOf begins k < ends.getD i 0
      · exact w
      · have := this.mp (by unfold bOf at w ⊢; omega)
        omega
end
end Mine

namespace Mine
section
variable {n : Nat} {begins ends : List Int} {uF uG : List Int}

noncomputable abbrev Cq (n : Nat) (begins ends uF uG : List Int) (c : Nat) : List Int := clq n (mf n (bOf begins) (bOf ends) uF) (ml n (bOf begins) (bOf ends) uG) c

theorem clq_sub (H : Iv n (bOf begins) (bOf ends) uF uG) {c c' : Nat} (hc : c < uF.length) (hc' : c' < uF.length) (h : ∀ x ∈ Cq n begins ends uF uG c, x ∈ Cq n begins ends uF uG c') : c = c' := by
  by_cases q : c < c'
  · exfalso
    obtain ⟨j, hj, e⟩ := H.l_onto (k := c) (by rw [← H.same]; exact hc)
    have := h (j : Int) (mem_clq.mpr ⟨hj, by have := H.fl hj; omega, by omega⟩)
    have := (mem_clq.mp this).2.2
    omega
  · by_cases q' : c' < c
    · exfalso
      obtain ⟨i, hi, e⟩ := H.f_onto (k := c) hc
      have := h (i : Int) (mem_clq.mpr ⟨hi, by omega, by have := H.fl hi; omega⟩)
      have := (mem_clq.mp this).2.1
      omega
    · omega
theorem ltB_iff (X o : List Int) : ltB X o = true ↔ X ≠ o ∧ ∀ x ∈ X, x ∈ o := by
  unfold ltB
  rw [Bool.and_eq_true_iff, List.all_eq_true]
  simp

theorem max_iff (H : Iv n (bOf begins) (bOf ends) uF uG) {S : List (List Int)} (hS : ∀ X, X ∈ S ↔ ∃ k, k < n ∧ X = heldL n begins ends (bOf begins k)) {X : List Int} (hX : X ∈ S) :
    (!(S.any fun o => ltB X o)) = true ↔ ∃ c, c < uF.length ∧ X = Cq n begins ends uF uG c := by
  have inS : ∀ c, c < uF.length → Cq n begins ends uF uG c ∈ S := fun c hc => by
    obtain ⟨k, hk, _, e⟩ := held_top H hc
    exact (hS _).mpr ⟨k, hk, e.symm⟩
  rw [Bool.not_eq_true', Bool.eq_false_iff]
  constructor
  · intro h
    obtain ⟨k, hk, rfl⟩ := (hS X).mp hX
    refine ⟨mf n (bOf begins) (bOf ends) uF k, H.f_lt hk, ?_⟩
    by_cases q : heldL n begins ends (bOf begins k) = Cq n begins ends uF uG (mf n (bOf begins) (bOf ends) uF k)
    · exact q
    · exact absurd (List.any_eq_true.mpr ⟨_, inS _ (H.f_lt hk), (ltB_iff _ _).mpr ⟨q, fun x hx => held_sub H hk hx⟩⟩) h
  · rintro ⟨c, hc, rfl⟩ h
    obtain ⟨o, ho, hlt⟩ := List.any_eq_true.mp h
    obtain ⟨hne, hsub⟩ := (ltB_iff _ _).mp hlt
    obtain ⟨k, hk, rfl⟩ := (hS o).mp ho
    have e := clq_sub H hc (H.f_lt hk) fun x hx => held_sub H hk (hsub x hx)
    refine hne ?_
    refine filt_eq.mp fun x => ⟨hsub x, fun hx => ?_⟩
    have := held_sub H hk hx
    rw [← e] at this
    exact this

theorem filter_range_snoc {m c0 : Nat} (hc : c0 < m) {P Q : Nat → Bool} (h1 : ∀ c, c < m → P c = true → c < c0) (h2 : ∀ c, c < m → (Q c = true ↔ P c = true ∨ c = c0)) : (List.range m).filter Q = (List.range m).filter P ++ [c0] := by
  obtain ⟨r, rfl⟩ : ∃ r, m = c0 + (1 + r) := ⟨m - c0 - 1, by omega⟩
  rw [List.range_add, List.filter_append, List.filter_append]
  have a1 : (List.range c0).filter Q = (List.range c0).filter P := List.filter_congr fun c hc' => by
    have hlt := List.mem_range.mp hc'
    have := h2 c (by omega)
    cases e1 : P c <;> cases e2 : Q c <;> simp_all <;> omega
  have a2 : ((List.range (1 + r)).map (c0 + ·)).filter P = [] := List.filter_eq_nil_iff.mpr fun c hc' hp => by
    obtain ⟨d, hd, rfl⟩ := List.mem_map.mp hc'
    have := h1 (c0 + d) (by have := List.mem_range.mp hd; omega) hp
    omega
  have a3 : ((List.range (1 + r)).map (c0 + ·)).filter Q = [c0] := by
    rw [Nat.add_comm 1 r, List.range_succ_eq_map, List.map_cons, List.filter_cons_of_pos ((h2 _ (by omega)).mpr (.inr (by omega))), List.filter_eq_nil_iff.mpr]
    · rfl
    · intro c hc' hq
      rw [List.map_map] at hc'
      obtain ⟨d, hd, rfl⟩ := List.mem_map.mp hc'
      have hd' := List.mem_range.mp hd
      rcases (h2 _ (by show c0 + (d + 1) < c0 + (1 + r); omega)).mp hq with q | q
      · have := h1 _ (by show c0 + (d + 1) < c0 + (1 + r); omega) q
        have : c0 + (d + 1) < c0 := this
        omega
      · have : c0 + (d + 1) = c0 := q
        omega
  rw [a1, a2, a3, List.append_nil]

open Classical in
/-- the fullest sets, in their order -/
theorem full_spec (H : Iv n (bOf begins) (bOf ends) uF uG) (hn : begins.length = n) {pts : List Int} (hp : pts.Perm begins) (hs : Srt pts) : fullL (setsL n begins ends pts) = (List.range uF.length).map (Cq n begins ends uF uG) := by
  have ptk : ∀ p, p ∈ pts ↔ ∃ k, k < n ∧ p = bOf begins k := fun p => by
    rw [hp.mem_iff]
    constructor
    · intro h
      obtain ⟨k, hk, rfl⟩ := List.getElem_of_mem h
      exact ⟨k, by omega, (getD_of _ hk).symm⟩
    · rintro ⟨k, hk, rfl⟩
      unfold bOf
      rw [getD_of _ (by omega)]
      exact List.getElem_mem _
  have hS : ∀ X, X ∈ setsL n begins ends pts ↔ ∃ k, k < n ∧ X = heldL n begins ends (bOf begins k) := fun X => by
    rw [mem_sets]
    constructor
    · rintro ⟨p, hp', rfl⟩
      obtain ⟨k, hk, rfl⟩ := (ptk p).mp hp'
      exact ⟨k, hk, rfl⟩
    · rintro ⟨k, hk, rfl⟩
      exact ⟨_, (ptk _).mpr ⟨k, hk, rfl⟩, rfl⟩
  have e1 : fullL (setsL n begins ends pts) = (setsL n begins ends pts).filter fun X => decide (∃ c, c < uF.length ∧ X = Cq n begins ends uF uG c) := by
    unfold fullL
    refine List.filter_congr fun X hX => ?_
    rw [Bool.eq_iff_iff, max_iff H hS hX, decide_eq_true_iff]
  rw [e1]
  -- by the points, one behind the other
  have key : ∀ i, i ≤ pts.length → (setsL n begins ends (pts.take i)).filter (fun X => decide (∃ c, c < uF.length ∧ X = Cq n begins ends uF uG c)) = ((List.range uF.length).filter fun c => decide (Cq n begins ends uF uG c ∈ setsL n begins ends (pts.take i))).map (Cq n begins ends uF uG) := by
    intro i
    induction i with
    | zero =>
      intro _
      show [] = _
      rw [List.filter_eq_nil_iff.mpr (fun c _ => by simp [setsL])]
      rfl
    | succ i ih =>
      intro hi
      have ih := ih (by omega)
      have hx : pts[i]? = some pts[i] := by simp [show i < pts.length by omega]
      have hil : i < pts.length := by omega
      rw [setsL_succ hx]
      obtain ⟨k, hk, ek⟩ := (ptk pts[i]).mp (List.getElem_mem hil)
      have hmS := mem_sets (n := n) (b := begins) (e := ends) (pts.take i)
      unfold setStep
      by_cases q : heldL n begins ends pts[i] ∈ setsL n begins ends (pts.take i)
      · rw [if_pos q]; exact ih
      · rw [if_neg q, List.filter_append, ih]
        by_cases w : ∃ c, c < uF.length ∧ heldL n begins ends pts[i] = Cq n begins ends uF uG c
        · obtain ⟨c0, hc0, e0⟩ := w
          have hck : c0 = mf n (bOf begins) (bOf ends) uF k := clq_sub H hc0 (H.f_lt hk) fun x hx => held_sub H hk (by rw [← ek, e0]; exact hx)
          rw [List.filter_cons_of_pos (p := fun X => decide (∃ c, c < uF.length ∧ X = Cq n begins ends uF uG c)) (a := heldL n begins ends pts[i]) (decide_eq_true (⟨c0, hc0, e0⟩ : ∃ c, c < uF.length ∧ heldL n begins ends pts[i] = Cq n begins ends uF uG c)), List.filter_nil]
          rw [filter_range_snoc hc0 (P := fun c => decide (Cq n begins ends uF uG c ∈ setsL n begins ends (pts.take i))) (Q := fun c => decide (Cq n begins ends uF uG c ∈ setsL n begins ends (pts.take i) ++ [heldL n begins ends pts[i]])) (fun c hc hP => ?_) fun c hc => ?_]
          · rw [List.map_append, e0]; rfl
          · have hm := of_decide_eq_true hP
            obtain ⟨p', hp', e'⟩ := (hmS _).mp hm
            obtain ⟨k', hk', rfl⟩ := (ptk p').mp (List.mem_of_mem_take hp')
            have hck' : c = mf n (bOf begins) (bOf ends) uF k' := clq_sub H hc (H.f_lt hk') fun x hx => held_sub H hk' (by rw [← e']; exact hx)
            obtain ⟨i', h1, h2, e3⟩ := mem_take_i hp'
            have hle := hs.get (i := i') (j := i) (by omega) hil
            rw [e3, getD_of _ hil, ek] at hle
            have := H.f_mono hk' hk hle
            have hne : c ≠ c0 := fun z => q (by rw [e0, ← z]; exact hm)
            omega
          · rw [decide_eq_true_iff, decide_eq_true_iff, List.mem_append, List.mem_singleton, e0]
            exact ⟨fun z => z.imp id fun z => clq_sub H hc hc0 fun x hx => by rw [← z]; exact hx, fun z => z.imp id fun z => by rw [z]⟩
        · rw [List.filter_cons_of_neg (by simpa using w), List.filter_nil, List.append_nil]
          congr 1
          refine List.filter_congr fun c hc => decide_eq_decide.mpr ?_
          rw [List.mem_append, List.mem_singleton]
          exact ⟨.inl, fun z => z.elim id fun z => absurd ⟨c, List.mem_range.mp hc, z.symm⟩ w⟩
  have := key pts.length (Nat.le_refl _)
  rw [List.take_length] at this
  rw [this]
  congr 1
  refine List.filter_eq_self.mpr fun c hc => decide_eq_true ?_
  obtain ⟨k, hk, _, e⟩ := held_top H (List.mem_range.mp hc)
  exact (hS _).mpr ⟨k, hk, e.symm⟩
end
end Mine

namespace Mine

/-- told to many -/
theorem foldl_pApp (k : Int) (ps : List Int) (hnd : ps.Nodup) (ns : PN) : ps.foldl (pApp k) ns = ns.map fun t => if t.1 ∈ ps then (t.1, t.2.1, t.2.2 ++ [k]) else t := by
  induction ps generalizing ns with
  | nil => simp
  | cons p ps ih =>
    rw [List.nodup_cons] at hnd
    rw [List.foldl_cons, ih hnd.2]
    unfold pApp
    rw [List.map_map]
    refine List.map_congr_left fun t _ => ?_
    by_cases e : t.1 = p
    · simp [Function.comp, e, hnd.1]
    · by_cases q : t.1 ∈ ps
      · simp [Function.comp, e, q]
      · simp [Function.comp, e, q]
end Mine

namespace Mine
section
variable {fm lm : Int → Int} {row : List Int}

noncomputable def prd (fm lm : Int → Int) (row : List Int) (p : Int) : List Int := row.filter fun q => decide (lm q < fm p)
noncomputable def scs (fm lm : Int → Int) (row : List Int) (d : Int) : List Int := row.filter fun s => decide (lm d < fm s)
/-- the row tells the stretches so that those ahead stand before -/
structure RowOk (fm lm : Int → Int) (row : List Int) : Prop where
  nd : row.Nodup
  before : ∀ i p q, row[i]? = some p → q ∈ row → lm q < fm p → q ∈ row.take i
  own : ∀ p ∈ row, fm p ≤ lm p

theorem RowOk.not_back (h : RowOk fm lm row) {i : Nat} {p s : Int} (hp : row[i]? = some p) (hs : s ∈ row.take (i + 1)) : ¬ lm p < fm s := fun hlt => by
  have hs' := hs
  obtain ⟨j, hj, hjl, e⟩ := mem_take_i hs
  have hrow : row[j]? = some s := by rw [← e, getD_of _ hjl]; simp [hjl]
  have := h.before j s p hrow (List.mem_of_getElem? hp) hlt
  obtain ⟨k, hk, hkl, e2⟩ := mem_take_i this
  have hi : i < row.length := (List.getElem?_eq_some_iff.mp hp).1
  have e3 : row[i] = p := (List.getElem?_eq_some_iff.mp hp).2
  rw [getD_of _ hkl] at e2
  have : k = i := (List.getElem_inj (h₀ := hkl) (h₁ := hi) h.nd).mp (e2.trans e3.symm)
  omega

noncomputable def stP (fm lm : Int → Int) (row : List Int) (i : Nat) : PN := (row.take i).map fun d => (d, ((prd fm lm row d).length : Int), (row.take i).filter fun s => decide (lm d < fm s))
theorem stP_step (h : RowOk fm lm row) {i : Nat} {p : Int} (hp : row[i]? = some p) : pAdd (stP fm lm row i) p (prd fm lm row p) = stP fm lm row (i + 1) := by
  have hnd : (prd fm lm row p).Nodup := h.nd.sublist List.filter_sublist
  have et : row.take (i + 1) = row.take i ++ [p] := by rw [List.take_add_one, hp]; rfl
  have hpn : p ∉ row.take i := fun hm => by
    obtain ⟨k, hk, hkl, e2⟩ := mem_take_i hm
    have hi : i < row.length := (List.getElem?_eq_some_iff.mp hp).1
    have e3 : row[i] = p := (List.getElem?_eq_some_iff.mp hp).2
    rw [getD_of _ hkl] at e2
    have : k = i := (List.getElem_inj (h₀ := hkl) (h₁ := hi) h.nd).mp (e2.trans e3.symm)
    omega
  unfold pAdd
  rw [foldl_pApp p _ hnd, List.map_append]
  unfold stP
  rw [et, List.map_append, List.map_map]
  congr 1
  · refine List.map_congr_left fun d hd => ?_
    have hdr : d ∈ row := List.mem_of_mem_take hd
    show (if d ∈ prd fm lm row p then (d, _, _ ++ [p]) else (d, _, _)) = _
    rw [List.filter_append]
    by_cases q : lm d < fm p
    · have hm : d ∈ prd fm lm row p := List.mem_filter.mpr ⟨hdr, decide_eq_true q⟩
      rw [if_pos hm, List.filter_cons_of_pos (p := fun s => decide (lm d < fm s)) (a := p) (decide_eq_true q), List.filter_nil]
    · have hm : d ∉ prd fm lm row p := fun hm => q (of_decide_eq_true (List.mem_filter.mp hm).2)
      rw [if_neg hm, List.filter_cons_of_neg (by simpa using q), List.filter_nil, List.append_nil]
  · show [if p ∈ prd fm lm row p then _ else (p, ((prd fm lm row p).length : Int), [])] = [(p, _, _)]
    have hpr : p ∈ row := List.mem_of_getElem? hp
    have hm : p ∉ prd fm lm row p := fun hm => by
      have := of_decide_eq_true (List.mem_filter.mp hm).2
      have := h.own p hpr
      omega
    rw [if_neg hm]
    have : (row.take i ++ [p]).filter (fun s => decide (lm p < fm s)) = [] := List.filter_eq_nil_iff.mpr fun s hs => by
      rw [← et] at hs
      simpa using h.not_back hp hs
    rw [this]
end
end Mine

namespace Mine
section
variable {fm lm : Int → Int} {row : List Int}

/-- the sorter's state by a table of the counts -/
noncomputable def stQ (fm lm : Int → Int) (row : List Int) (st : Int → Int) : PN := row.map fun d => (d, st d, scs fm lm row d)
theorem stQ_congr {st st' : Int → Int} (h : ∀ d ∈ row, st d = st' d) : stQ fm lm row st = stQ fm lm row st' := by
  unfold stQ
  exact List.map_congr_left fun d hd => by rw [h d hd]
theorem stQ_keys (st : Int → Int) : (stQ fm lm row st).map (·.1) = row := by
  unfold stQ; rw [List.map_map]; exact List.map_id _
theorem stQ_set (st : Int → Int) (k v : Int) : pSet k v (stQ fm lm row st) = stQ fm lm row fun d => if d = k then v else st d := by
  unfold pSet stQ
  rw [List.map_map]
  refine List.map_congr_left fun d _ => ?_
  show (if d = k then (d, v, scs fm lm row d) else (d, st d, scs fm lm row d)) = (d, (if d = k then v else st d), scs fm lm row d)
  by_cases e : d = k
  · rw [if_pos e, if_pos e]
  · rw [if_neg e, if_neg e]
theorem stQ_find (st : Int → Int) {k : Int} (hk : k ∈ row) : (stQ fm lm row st).find? (fun t => decide (t.1 = k)) = some (k, st k, scs fm lm row k) := by
  unfold stQ
  generalize scs fm lm row = sc
  induction row with
  | nil => cases hk
  | cons x l ih =>
    rw [List.map_cons]
    by_cases e : x = k
    · subst e; rw [List.find?_cons_of_pos (by simp)]
    · rw [List.find?_cons_of_neg (by simpa using e)]
      exact ih ((List.mem_cons.mp hk).resolve_left fun z => e z.symm)
theorem stQ_np (st : Int → Int) {k : Int} (hk : k ∈ row) : npOf (stQ fm lm row st) k = st k := by unfold npOf; rw [stQ_find st hk]; rfl
theorem stQ_succ (st : Int → Int) {k : Int} (hk : k ∈ row) : succOf (stQ fm lm row st) k = scs fm lm row k := by unfold succOf; rw [stQ_find st hk]; rfl
theorem stQ_decs (st : Int → Int) (R : List Int) : ∀ (ss : List Int), ss.Nodup → (∀ s ∈ ss, s ∈ row) → ss.foldl pDec (stQ fm lm row st, R) = (stQ fm lm row fun d => if d ∈ ss then st d - 1 else st d, R ++ ss.filter fun s => decide (st s - 1 = 0)) := by
  intro ss
  induction ss generalizing st R with
  | nil => intro _ _; simp
  | cons s ss ih =>
    intro hn hs
    rw [List.nodup_cons] at hn
    have e : pDec (stQ fm lm row st, R) s = (stQ fm lm row fun d => if d = s then st s - 1 else st d, if st s - 1 = 0 then R ++ [s] else R) := by
      unfold pDec
      rw [stQ_np st (hs s (List.mem_cons_self ..)), stQ_set]
    rw [List.foldl_cons, e, ih _ _ hn.2 fun x hx => hs x (List.mem_cons_of_mem _ hx)]
    congr 1
    · refine stQ_congr fun d _ => ?_
      by_cases q : d = s
      · subst q; simp [hn.1]
      · simp [q]
    · have e2 : (ss.filter fun x => decide ((if x = s then st s - 1 else st x) - 1 = 0)) = ss.filter fun x => decide (st x - 1 = 0) := List.filter_congr fun x hx => by
        have : x ≠ s := fun z => hn.1 (z ▸ hx)
        rw [if_neg this]
      rw [e2]
      by_cases q : st s - 1 = 0
      · rw [if_pos q, List.filter_cons_of_pos (by simpa using q)]; simp
      · rw [if_neg q, List.filter_cons_of_neg (by simpa using q)]

structure RunOk (fm lm : Int → Int) (row : List Int) (m : Nat) : Prop extends RowOk fm lm row where
  lmono : row.Pairwise fun a b => lm a ≤ lm b
  f0 : ∀ p ∈ row, 0 ≤ fm p
  lmax : ∀ p ∈ row, lm p < m
  onto : ∀ k : Nat, k < m → ∃ q ∈ row, lm q = k

/-- how many are ahead of a mark -/
noncomputable def Lc (lm : Int → Int) (row : List Int) (k : Int) : Nat := (row.filter fun q => decide (lm q < k)).length
noncomputable def Fc (fm : Int → Int) (row : List Int) (k : Int) : Nat := (row.filter fun q => decide (fm q < k)).length
noncomputable def Bk (lm : Int → Int) (row : List Int) (k : Int) : List Int := row.filter fun q => decide (lm q = k)
noncomputable def Rk (fm : Int → Int) (row : List Int) (k : Int) : List Int := row.filter fun q => decide (fm q = k)
/-- the counts ahead of the turn k -/
noncomputable def npB (fm lm : Int → Int) (row : List Int) (k : Int) (d : Int) : Int := if lm d < k then -2 else if fm d < k then -1 else (Lc lm row (fm d) : Int) - (Lc lm row k : Int)
/-- the counts in the turn k, with j of its block done -/
noncomputable def npA (fm lm : Int → Int) (row : List Int) (k : Int) (j : Nat) (d : Int) : Int := if lm d < k ∨ d ∈ (Bk lm row k).take j then -2 else if fm d ≤ k then -1 else (Lc lm row (fm d) : Int) - (Lc lm row k : Int) - j

theorem Lc_succ (k : Int) : Lc lm row (k + 1) = Lc lm row k + (Bk lm row k).length := by
  unfold Lc Bk
  induction row with
  | nil => rfl
  | cons x l ih =>
    by_cases h1 : lm x < k
    · rw [List.filter_cons_of_pos (by simpa using (by omega : lm x < k + 1)), List.filter_cons_of_pos (by simpa using h1), List.filter_cons_of_neg (by simpa using (by omega : ¬ lm x = k)), List.length_cons, List.length_cons, ih]; omega
    · by_cases h2 : lm x = k
      · rw [List.filter_cons_of_pos (by simpa using (by omega : lm x < k + 1)), List.filter_cons_of_neg (by simpa using h1), List.filter_cons_of_pos (by simpa using h2), List.length_cons, List.length_cons, ih]; omega
      · rw [List.filter_cons_of_neg (by simpa using (by omega : ¬ lm x < k + 1)), List.filter_cons_of_neg (by simpa using h1), List.filter_cons_of_neg (by simpa using h2), ih]
theorem Lc_mono {k k' : Int} (h : k ≤ k') : Lc lm row k ≤ Lc lm row k' := count_le fun x _ hx => decide_eq_true (Int.lt_of_lt_of_le (of_decide_eq_true hx) h)
theorem RunOk.Lc_lt {m : Nat} (H : RunOk fm lm row m) {k k' : Int} (h0 : 0 ≤ k) (hk : k < m) (h : k < k') : Lc lm row k < Lc lm row k' := by
  obtain ⟨q, hq, e⟩ := H.onto k.toNat (by omega)
  refine (count_lt fun x _ hx => decide_eq_true (Int.lt_trans (of_decide_eq_true hx) h)).mpr ⟨q, hq, decide_eq_true (by omega), decide_eq_false (by omega)⟩
theorem RunOk.f_lt {m : Nat} (H : RunOk fm lm row m) {p : Int} (hp : p ∈ row) : fm p < m := by have := H.own p hp; have := H.lmax p hp; omega

/-- the sorter is ready for the first turn -/
theorem RunOk.start {m : Nat} (H : RunOk fm lm row m) : stP fm lm row row.length = stQ fm lm row (npB fm lm row 0) ∧ readyP (stP fm lm row row.length) = Rk fm row 0 := by
  have e : stP fm lm row row.length = stQ fm lm row (npB fm lm row 0) := by
    unfold stP stQ
    rw [List.take_length]
    refine List.map_congr_left fun d hd => ?_
    have h1 := H.f0 d hd
    have h2 := H.own d hd
    unfold npB
    rw [if_neg (by omega), if_neg (by omega)]
    have h3 : Lc lm row 0 = 0 := by
      unfold Lc
      rw [List.filter_eq_nil_iff.mpr fun q hq => ?_]
      · rfl
      · have := H.f0 q hq
        have := H.own q hq
        simp; omega
    rw [h3]
    show (d, (((row.filter fun q => decide (lm q < fm d)).length : Nat) : Int), _) = (d, (((row.filter fun q => decide (lm q < fm d)).length : Nat) : Int) - ((0 : Nat) : Int), _)
    rw [show ((0 : Nat) : Int) = 0 from rfl, Int.sub_zero]
    rfl
  refine ⟨e, ?_⟩
  rw [e]
  unfold readyP stQ
  rw [List.filter_map, List.map_map]
  have e2 : ((fun x : Int × Int × List Int => x.1) ∘ fun d => (d, npB fm lm row 0 d, scs fm lm row d)) = id := rfl
  rw [e2, List.map_id]
  unfold Rk
  refine filter_ext_mem fun d hd => ?_
  have h1 := H.f0 d hd
  have h2 := H.own d hd
  show decide (npB fm lm row 0 d = 0) = true ↔ _
  rw [decide_eq_true_iff, decide_eq_true_iff]
  unfold npB
  rw [if_neg (by omega), if_neg (by omega)]
  constructor
  · intro z
    by_cases q : 0 < fm d
    · have := H.Lc_lt (k := 0) (k' := fm d) (Int.le_refl _) (by have := H.f_lt hd; omega) q
      omega
    · omega
  · intro z
    rw [z]; omega
end
end Mine

namespace Mine
section
variable {fm lm : Int → Int} {row : List Int}

/-- handed out -/
theorem stQ_gets (st : Int → Int) : ∀ (rs : List Int), rs.foldl (fun ns k => pSet k (-1) ns) (stQ fm lm row st) = stQ fm lm row fun d => if d ∈ rs then -1 else st d := by
  intro rs
  induction rs generalizing st with
  | nil => simp
  | cons r rs ih =>
    rw [List.foldl_cons, stQ_set, ih]
    refine stQ_congr fun d _ => ?_
    by_cases q : d = r
    · subst q; simp
    · simp [q]
theorem RunOk.get {m : Nat} (H : RunOk fm lm row m) (k : Int) : (Rk fm row k).foldl (fun ns k => pSet k (-1) ns) (stQ fm lm row (npB fm lm row k)) = stQ fm lm row (npA fm lm row k 0) := by
  rw [stQ_gets]
  refine stQ_congr fun d hd => ?_
  have h2 := H.own d hd
  have hm : d ∈ Rk fm row k ↔ fm d = k := by unfold Rk; rw [List.mem_filter, decide_eq_true_iff]; exact and_iff_right hd
  unfold npA npB
  rw [List.take_zero]
  by_cases q : fm d = k
  · rw [if_pos (hm.mpr q), if_neg (by simp; omega), if_pos (by omega)]
  · rw [if_neg (fun z => q (hm.mp z))]
    by_cases q1 : lm d < k
    · rw [if_pos q1, if_pos (.inl q1)]
    · rw [if_neg q1, if_neg (show ¬ (lm d < k ∨ d ∈ ([] : List Int)) by simp; omega)]
      by_cases q2 : fm d < k
      · rw [if_pos q2, if_pos (by omega)]
      · rw [if_neg q2, if_neg (show ¬ fm d ≤ k by omega)]; simp

/-- one of the block is done -/
theorem RunOk.done1 {m : Nat} (H : RunOk fm lm row m) {k : Int} (h0 : 0 ≤ k) (hk : k < m) {j : Nat} {d : Int} (hd : (Bk lm row k)[j]? = some d) (R : List Int) :
    pDone (stQ fm lm row (npA fm lm row k j), R) d = (stQ fm lm row (npA fm lm row k (j + 1)), R ++ if j + 1 = (Bk lm row k).length then Rk fm row (k + 1) else []) := by
  have hmem : d ∈ Bk lm row k := List.mem_of_getElem? hd
  have hdr : d ∈ row := (List.mem_filter.mp hmem).1
  have hld : lm d = k := of_decide_eq_true (List.mem_filter.mp hmem).2
  have hfd := H.own d hdr
  have hj : j < (Bk lm row k).length := (List.getElem?_eq_some_iff.mp hd).1
  have hss : (scs fm lm row d).Nodup := H.nd.sublist List.filter_sublist
  have msc : ∀ s, s ∈ scs fm lm row d ↔ s ∈ row ∧ k < fm s := fun s => by unfold scs; rw [List.mem_filter, decide_eq_true_iff, hld]
  have htk : (Bk lm row k).take (j + 1) = (Bk lm row k).take j ++ [d] := by rw [List.take_add_one, hd]; rfl
  have htm : ∀ s ∈ (Bk lm row k).take j, lm s = k := fun s hs => of_decide_eq_true (List.mem_filter.mp (List.mem_of_mem_take hs)).2
  unfold pDone
  dsimp only
  rw [stQ_succ _ hdr, stQ_set, stQ_decs _ _ _ hss fun s hs => ((msc s).mp hs).1]
  congr 1
  · refine stQ_congr fun s hs => ?_
    have hso := H.own s hs
    by_cases q : k < fm s
    · have hsd : s ≠ d := fun z => by rw [z] at q; omega
      have n1 : ¬ (lm s < k ∨ s ∈ (Bk lm row k).take j) := by
        rintro (z | z)
        · omega
        · have := htm s z; omega
      have n2 : ¬ (lm s < k ∨ s ∈ (Bk lm row k).take (j + 1)) := by
        rw [htk]
        rintro (z | z)
        · omega
        · rcases List.mem_append.mp z with z | z
          · have := htm s z; omega
          · exact hsd (List.mem_singleton.mp z)
      rw [if_pos ((msc s).mpr ⟨hs, q⟩), if_neg hsd]
      unfold npA
      rw [if_neg n1, if_neg n2, if_neg (show ¬ fm s ≤ k by omega)]
      push_cast
      omega
    · rw [if_neg (fun z => q ((msc s).mp z).2)]
      unfold npA
      rw [htk]
      by_cases hsd : s = d
      · rw [if_pos hsd, if_pos (.inr (List.mem_append_right _ (List.mem_singleton.mpr hsd)))]
      · rw [if_neg hsd]
        by_cases n1 : lm s < k ∨ s ∈ (Bk lm row k).take j
        · rw [if_pos n1, if_pos (n1.imp id fun z => List.mem_append_left _ z)]
        · have n2 : ¬ (lm s < k ∨ s ∈ (Bk lm row k).take j ++ [d]) := by
            rintro (z | z)
            · exact n1 (.inl z)
            · rcases List.mem_append.mp z with z | z
              · exact n1 (.inr z)
              · exact hsd (List.mem_singleton.mp z)
          rw [if_neg n1, if_neg n2, if_pos (show fm s ≤ k by omega), if_pos (show fm s ≤ k by omega)]
  · congr 1
    have e : (scs fm lm row d).filter (fun s => decide ((if s = d then -2 else npA fm lm row k j s) - 1 = 0)) = row.filter fun s => decide (k < fm s) && decide ((Lc lm row (fm s) : Int) - (Lc lm row k : Int) - j - 1 = 0) := by
      unfold scs
      rw [List.filter_filter]
      refine filter_ext_mem fun s hs => ?_
      have hso := H.own s hs
      rw [Bool.and_eq_true_iff, Bool.and_eq_true_iff, decide_eq_true_iff, decide_eq_true_iff, decide_eq_true_iff, decide_eq_true_iff, hld]
      constructor
      · rintro ⟨a, b⟩
        refine ⟨b, ?_⟩
        have hsd : s ≠ d := fun z => by rw [z] at b; omega
        rw [if_neg hsd] at a
        unfold npA at a
        have n1 : ¬ (lm s < k ∨ s ∈ (Bk lm row k).take j) := by
          rintro (z | z)
          · omega
          · have := htm s z; omega
        rw [if_neg n1, if_neg (show ¬ fm s ≤ k by omega)] at a
        exact a
      · rintro ⟨b, a⟩
        refine ⟨?_, b⟩
        have hsd : s ≠ d := fun z => by rw [z] at b; omega
        rw [if_neg hsd]
        unfold npA
        have n1 : ¬ (lm s < k ∨ s ∈ (Bk lm row k).take j) := by
          rintro (z | z)
          · omega
          · have := htm s z; omega
        rw [if_neg n1, if_neg (show ¬ fm s ≤ k by omega)]
        exact a
    rw [e]
    have hLs := Lc_succ (lm := lm) (row := row) k
    by_cases q : j + 1 = (Bk lm row k).length
    · rw [if_pos q]
      unfold Rk
      refine filter_ext_mem fun s hs => ?_
      rw [Bool.and_eq_true_iff, decide_eq_true_iff, decide_eq_true_iff, decide_eq_true_iff]
      constructor
      · rintro ⟨a, b⟩
        by_cases z : k + 1 < fm s
        · have := H.Lc_lt (k := k + 1) (k' := fm s) (by omega) (by have := H.f_lt hs; omega) z
          omega
        · omega
      · intro a
        refine ⟨by omega, ?_⟩
        rw [a, hLs]; push_cast; omega
    · rw [if_neg q]
      refine List.filter_eq_nil_iff.mpr fun s hs => ?_
      rw [Bool.and_eq_true_iff, decide_eq_true_iff, decide_eq_true_iff]
      rintro ⟨a, b⟩
      have := Lc_mono (lm := lm) (row := row) (k := k + 1) (k' := fm s) (by omega)
      omega

/-- the block is done in part -/
theorem RunOk.doneJ {m : Nat} (H : RunOk fm lm row m) {k : Int} (h0 : 0 ≤ k) (hk : k < m) : ∀ (j : Nat), j ≤ (Bk lm row k).length → ((Bk lm row k).take j).foldl pDone (stQ fm lm row (npA fm lm row k 0), []) = (stQ fm lm row (npA fm lm row k j), if j = (Bk lm row k).length then Rk fm row (k + 1) else []) := by
  intro j
  have hpos : 0 < (Bk lm row k).length := by
    obtain ⟨q, hq, e⟩ := H.onto k.toNat (by omega)
    exact List.length_pos_of_mem (List.mem_filter.mpr ⟨hq, decide_eq_true (by omega)⟩)
  induction j with
  | zero => intro _; rw [if_neg (by omega)]; rfl
  | succ j ih =>
    intro hj
    have hd : (Bk lm row k)[j]? = some (Bk lm row k)[j] := by simp [show j < (Bk lm row k).length by omega]
    rw [foldl_take_succ _ _ _ _ _ hd, ih (by omega), if_neg (by omega), H.done1 h0 hk hd, List.nil_append]
theorem RunOk.doneAll {m : Nat} (H : RunOk fm lm row m) {k : Int} (h0 : 0 ≤ k) (hk : k < m) : (Bk lm row k).foldl pDone (stQ fm lm row (npA fm lm row k 0), []) = (stQ fm lm row (npB fm lm row (k + 1)), Rk fm row (k + 1)) := by
  have := H.doneJ h0 hk (Bk lm row k).length (Nat.le_refl _)
  rw [List.take_length, if_pos rfl] at this
  rw [this]
  congr 1
  refine stQ_congr fun d hd => ?_
  have hm : d ∈ Bk lm row k ↔ lm d = k := by unfold Bk; rw [List.mem_filter, decide_eq_true_iff]; exact and_iff_right hd
  unfold npA npB
  rw [List.take_length, Lc_succ]
  by_cases q : lm d < k ∨ d ∈ Bk lm row k
  · have q' : lm d < k + 1 := by
      rcases q with q | q
      · omega
      · have := hm.mp q; omega
    rw [if_pos q, if_pos q']
  · have q' : ¬ lm d < k + 1 := fun z => by
      rcases Int.lt_or_eq_of_le (show lm d ≤ k by omega) with z | z
      · exact q (.inl z)
      · exact q (.inr (hm.mpr z))
    rw [if_neg q, if_neg q']
    by_cases q2 : fm d ≤ k
    · rw [if_pos q2, if_pos (show fm d < k + 1 by omega)]
    · rw [if_neg q2, if_neg (show ¬ fm d < k + 1 by omega)]; push_cast; omega
/-- all of the block is handed out and not done -/
theorem RunOk.out {m : Nat} (H : RunOk fm lm row m) {k : Int} {j : Nat} {d : Int} (hd : (Bk lm row k)[j]? = some d) : npA fm lm row k j d = -1 := by
  have hmem : d ∈ Bk lm row k := List.mem_of_getElem? hd
  have hdr : d ∈ row := (List.mem_filter.mp hmem).1
  have hld : lm d = k := of_decide_eq_true (List.mem_filter.mp hmem).2
  have hfd := H.own d hdr
  have hn : (Bk lm row k).Nodup := H.nd.sublist List.filter_sublist
  unfold npA
  refine (fun (n1 : ¬ (lm d < k ∨ d ∈ (Bk lm row k).take j)) => ?_) ?_
  · rw [if_neg n1, if_pos (show fm d ≤ k by omega)]
  rintro (z | z)
  · omega
  · obtain ⟨i, h1, h2, e⟩ := mem_take_i z
    rw [getD_of _ h2] at e
    have hj := (List.getElem?_eq_some_iff.mp hd)
    have : i = j := (List.getElem_inj (h₀ := h2) (h₁ := hj.1) hn).mp (e.trans hj.2.symm)
    omega

theorem Fc_succ (k : Int) : Fc fm row (k + 1) = Fc fm row k + (Rk fm row k).length := Lc_succ (lm := fm) (row := row) k
theorem RunOk.active {m : Nat} (H : RunOk fm lm row m) {k : Nat} (hk : k < m) : (decide ((Lc lm row k : Int) < (Fc fm row k : Int)) || !(Rk fm row k).isEmpty) = true := by
  obtain ⟨q, hq, e⟩ := H.onto k hk
  have hf := H.own q hq
  by_cases z : fm q = k
  · have : q ∈ Rk fm row k := List.mem_filter.mpr ⟨hq, decide_eq_true z⟩
    rw [Bool.or_eq_true_iff]
    right
    cases h : Rk fm row k with
    | nil => rw [h] at this; cases this
    | cons => rfl
  · rw [Bool.or_eq_true_iff]
    left
    refine decide_eq_true ?_
    have : Lc lm row k < Fc fm row k := (count_lt fun x hx h => decide_eq_true (by have := of_decide_eq_true h; have := H.own x hx; omega)).mpr ⟨q, hq, decide_eq_true (by omega), decide_eq_false (by omega)⟩
    omega
theorem RunOk.end_ {m : Nat} (H : RunOk fm lm row m) : Lc lm row m = row.length ∧ Fc fm row m = row.length ∧ Rk fm row m = [] := by
  refine ⟨?_, ?_, ?_⟩
  · unfold Lc; rw [List.filter_eq_self.mpr fun q hq => decide_eq_true (H.lmax q hq)]
  · unfold Fc; rw [List.filter_eq_self.mpr fun q hq => decide_eq_true (H.f_lt hq)]
  · exact List.filter_eq_nil_iff.mpr fun q hq => by have := H.f_lt hq; simp; omega
end
end Mine

namespace Mine
open PySem PySem.W PyProof.Rows

/-- the block of one key, between the two searches -/
theorem block_eq {row : List Int} {key : Int → Int} (h : row.Pairwise fun a b => key a ≤ key b) (x : Int) : bisL (row.map key) x ≤ bisR (row.map key) x ∧ (row.drop (bisL (row.map key) x)).take (bisR (row.map key) x - bisL (row.map key) x) = row.filter fun q => decide (key q = x) := by
  have hs : Srt (row.map key) := by unfold Srt; rw [List.pairwise_map]; exact h
  have e1 : row.filter (fun q => decide (key q < x)) = row.take (bisL (row.map key) x) := by
    have := bisL_take hs x
    rw [List.filter_map, ← List.map_take] at this
    have hl : (row.filter ((fun y => decide (y < x)) ∘ key)).length = (row.take (bisL (row.map key) x)).length := by have := congrArg List.length this; simpa using this
    have hk := bisL_le (row.map key) x
    rw [List.length_map] at hk
    obtain ⟨b1, b2⟩ := bisL_parts hs x
    refine filter_cut (xs := row) (p := fun q => decide (key q < x)) hk (fun i hi => ?_) fun i hi hl => ?_
    · have := b1 i hi
      rw [getD_of _ (by simp; omega)] at this
      rw [getD_of _ (by omega)]
      exact decide_eq_true (by simpa using this)
    · have := b2 i hi (by simpa using hl)
      rw [getD_of _ (by simpa using hl)] at this
      rw [getD_of _ hl]
      exact decide_eq_false (by simp at this; omega)
  have e2 : row.filter (fun q => decide (key q ≤ x)) = row.take (bisR (row.map key) x) := by
    have hk := bisR_le (row.map key) x
    rw [List.length_map] at hk
    obtain ⟨b1, b2⟩ := bisR_parts hs x
    refine filter_cut (xs := row) (p := fun q => decide (key q ≤ x)) hk (fun i hi => ?_) fun i hi hl => ?_
    · have := b1 i hi
      rw [getD_of _ (by simp; omega)] at this
      rw [getD_of _ (by omega)]
      exact decide_eq_true (by simpa using this)
    · have := b2 i hi (by simpa using hl)
      rw [getD_of _ (by simpa using hl)] at this
      rw [getD_of _ hl]
      exact decide_eq_false (by simp at this; omega)
  have hL := bisL_le (row.map key) x
  have hR := bisR_le (row.map key) x
  rw [List.length_map] at hL hR
  have hle : bisL (row.map key) x ≤ bisR (row.map key) x := by
    have := count_le (l := row) (p := fun q => decide (key q < x)) (q := fun q => decide (key q ≤ x)) fun y _ hy => decide_eq_true (Int.le_of_lt (of_decide_eq_true hy))
    rw [e1, e2, List.length_take, List.length_take] at this
    omega
  refine ⟨hle, ?_⟩
  generalize bisL (row.map key) x = a at *
  generalize bisR (row.map key) x = b at *
  have e3 : (row.take b).filter (fun q => decide (key q = x)) = (row.drop a).take (b - a) := by
    have e4 : row.take b = row.take a ++ (row.drop a).take (b - a) := by
      have : b = a + (b - a) := by omega
      rw [this, List.take_add]
      simp
    rw [e4, List.filter_append, ← e1, List.filter_filter, List.filter_eq_nil_iff.mpr fun q _ => by simp; omega, List.nil_append]
    refine List.filter_eq_self.mpr fun q hq => ?_
    have hq2 : q ∈ row.take b := by rw [e4]; exact List.mem_append_right _ hq
    rw [← e2] at hq2
    have h1 := of_decide_eq_true (List.mem_filter.mp hq2).2
    obtain ⟨i, hi, rfl⟩ := List.getElem_of_mem hq
    rw [List.getElem_take, List.getElem_drop] at h1 ⊢
    rw [List.length_take, List.length_drop] at hi
    obtain ⟨_, b2⟩ := bisL_parts hs x
    refine decide_eq_true ?_
    have h2 : ¬ key row[a + i] < x := fun z => by
      have hm : row[a + i] ∈ row.filter fun q => decide (key q < x) := List.mem_filter.mpr ⟨List.getElem_mem _, decide_eq_true z⟩
      have hcount : (row.filter fun q => decide (key q < x)) = row.take a := e1
      have hd : ∀ q ∈ row.drop a, ¬ key q < x := fun q hq z => by
        have h5 : (row.filter fun q => decide (key q < x)).length = (row.take a).length + ((row.drop a).filter fun q => decide (key q < x)).length := by
          have e6 : row.filter (fun q => decide (key q < x)) = (row.take a).filter (fun q => decide (key q < x)) ++ (row.drop a).filter fun q => decide (key q < x) := by rw [← List.filter_append, List.take_append_drop]
          rw [e6, List.length_append]
          congr 1
          rw [← e1, List.filter_filter]
          simp
        rw [e1] at h5
        have : 0 < ((row.drop a).filter fun q => decide (key q < x)).length := List.length_pos_of_mem (List.mem_filter.mpr ⟨hq, decide_eq_true z⟩)
        omega
      exact hd row[a + i] (by rw [← List.getElem_drop (h := by rw [List.length_drop]; omega)]; exact List.getElem_mem _) z
    omega
  rw [← e3, ← e2, List.filter_filter]
  refine List.filter_congr fun q _ => ?_
  rw [Bool.eq_iff_iff, Bool.and_eq_true_iff, decide_eq_true_iff, decide_eq_true_iff]
  omega

noncomputable abbrev fRun (w : World) : FuncData := fnAt (KK w) 221
noncomputable def qRun : Str := Str.ofString "_law_run.<locals>.<lambda>"

theorem TabOk.sub {σ σ' : AH} {P : Addr} {q : Str} (h : TabOk σ P q) (k : Sub σ σ') : TabOk σ' P q := by
  obtain ⟨ts, h1, h2⟩ := h
  exact ⟨ts, k _ _ h1, fun t ht => ⟨k _ _ (h2 t ht).1, (h2 t ht).2⟩⟩
theorem TabOk.set {σ : AH} {P a : Addr} {q : Str} {o p : O} (h : TabOk σ P q) (ha : σ a = some o) (ho : o.isCode = false) : TabOk (σ.set a p) P q := by
  obtain ⟨ts, h1, h2⟩ := h
  have ne : ∀ b o', σ b = some o' → o'.isCode = true → b ≠ a := fun b o' e q z => by rw [z, ha] at e; cases e; rw [ho] at q; cases q
  exact ⟨ts, (AH.set_ne _ _ (ne _ _ h1 rfl)).trans h1, fun t ht => ⟨(AH.set_ne _ _ (ne _ _ (h2 t ht).1 rfl)).trans (h2 t ht).1, (h2 t ht).2⟩⟩

/-- what is known beside the sorter -/
structure RB (τ : AH) (cm cl ch : Addr) (σ₀ : AH) : Prop where
  sub : Sub τ σ₀
  m : ∃ ov, σ₀ cm = some (.cell ov)
  l : ∃ ov, σ₀ cl = some (.cell ov)
  h : ∃ ov, σ₀ ch = some (.cell ov)
  tab : TabOk σ₀ 218 qRun
section
variable {τ σ₀ σ σ'' : AH} {cm cl ch : Addr} {D : SD}
theorem RB.up {σ₁ : AH} (h : RB τ cm cl ch σ₀) (k : Sub σ₀ σ₁) : RB τ cm cl ch σ₁ :=
  ⟨h.sub.trans k, h.m.imp fun _ e => k _ _ e, h.l.imp fun _ e => k _ _ e, h.h.imp fun _ e => k _ _ e, h.tab.sub k⟩
theorem RB.setc (h : RB τ cm cl ch σ₀) {c : Addr} {ov : Option V} (hc : σ₀ c = some (.cell ov)) (hτ : τ c = none) (v : Option V) : RB τ cm cl ch (σ₀.set c (.cell v)) := by
  have key : ∀ a, (∃ ov, σ₀ a = some (.cell ov)) → ∃ ov, (σ₀.set c (.cell v)) a = some (.cell ov) := fun a ⟨ov, e⟩ => by
    by_cases q : a = c
    · subst q; exact ⟨_, AH.set_self ..⟩
    · exact ⟨ov, (AH.set_ne _ _ q).trans e⟩
  exact ⟨fun a o e => (AH.set_ne _ _ (AH.ne_of e hτ)).trans (h.sub _ _ e), key _ h.m, key _ h.l, key _ h.h, h.tab.set hc rfl⟩
theorem RB.lam (h : RB τ cm cl ch σ₀) (hτ : τ 218 = none) (hS : SOk σ₀ σ D) (hx : ExtP 218 σ σ'') (ht : TabOk σ'' 218 qRun) : RB τ cm cl ch (lamK σ₀ σ'') := by
  obtain ⟨ts, h1, _⟩ := h.tab
  have key : ∀ a, (∃ ov, σ₀ a = some (.cell ov)) → ∃ ov, (lamK σ₀ σ'') a = some (.cell ov) := fun a ⟨ov, e⟩ => ⟨ov, lamK_old hS hx (AH.ne_ob e h1 (by intro z; cases z)) e⟩
  exact ⟨fun a o e => lamK_old hS hx (AH.ne_of e hτ) (h.sub _ _ e), key _ h.m, key _ h.l, key _ h.h, lamK_tab ht⟩
end
end Mine

namespace Mine
open PySem PySem.W PyProof.Rows

/-- what the run is handed -/
structure RD where
  cm : Addr
  cl : Addr
  ch : Addr
  ct : Addr
  cf : Addr
  cr : Addr
  ce : Addr
  lb : Addr
  le : Addr
  lr : Addr
  lf : Addr
  ll : Addr
  lF : Addr
  begins : List Int
  ends : List Int
  row : List Int
  first : List Int
  last : List Int
  as : List Addr
  full : List (List Int)
  n : Nat
noncomputable abbrev RD.cs (R : RD) : List (Str × Addr) := [(Str.ofString "high", R.ch), (Str.ofString "low", R.cl), (Str.ofString "mark", R.cm), (Str.ofString "last", R.ct), (Str.ofString "first", R.cf), (Str.ofString "row", R.cr), (Str.ofString "ends", R.ce)]
noncomputable abbrev RD.fm (R : RD) : Int → Int := keyOf R.first
noncomputable abbrev RD.lm (R : RD) : Int → Int := keyOf R.last
structure RFix (R : RD) (τ : AH) (outer : List Env) : Prop where
  tt : τ 218 = none
  b : τ R.lb = some (.list (ivs R.begins))
  e : τ R.le = some (.list (ivs R.ends))
  r : τ R.lr = some (.list (ivs R.row))
  f : τ R.lf = some (.list (ivs R.first))
  l : τ R.ll = some (.list (ivs R.last))
  F : τ R.lF = some (.list (R.as.map V.ref))
  LL : LLi τ R.as R.full
  ce : τ R.ce = some (.cell (some (.ref R.le)))
  cr : τ R.cr = some (.cell (some (.ref R.lr)))
  cf : τ R.cf = some (.cell (some (.ref R.lf)))
  ct : τ R.ct = some (.cell (some (.ref R.ll)))
  fr : FrOk τ outer
/-- what holds of it -/
structure RPure (R : RD) : Prop where
  nb : R.begins.length = R.n
  ne : R.ends.length = R.n
  nf : R.first.length = R.n
  nl : R.last.length = R.n
  hn : R.n ≤ 60
  hr : R.row.length ≤ 60
  hF : R.full.length ≤ 60
  inr : ∀ y ∈ R.row, 0 ≤ y ∧ y < R.n
  run : RunOk R.fm R.lm R.row R.full.length
  prd : ∀ p ∈ R.row, R.row.take (bisR (R.row.map (keyOf R.ends)) (keyOf R.begins p)) = prd R.fm R.lm R.row p
  ful : ∀ (k : Nat) pts, k < R.full.length → pts.Pairwise (· ≤ ·) → pts.Nodup → (∀ x, x ∈ pts ↔ x ∈ R.row ∧ R.fm x ≤ k ∧ (k : Int) ≤ R.lm x) → R.full[k]? = some pts

noncomputable def forBody : Stmt → List Stmt
  | .For _ _ b _ _ => b
  | _ => []
noncomputable def sAt : List Stmt → Nat → Stmt
  | [], _ => .Pass ⟨0, 0, 0, 0⟩
  | s :: _, 0 => s
  | _ :: l, n + 1 => sAt l n

section
variable {w : World} {g : Heap} {A : Around} {σ σ₀ τ : AH} {R : RD} {outer : List Env} {L : Addr}

noncomputable abbrev envR (w : World) (L : Addr) (R : RD) : Env := envC (fRun w) L 221 R.cs

theorem stP_len {fm lm : Int → Int} {row : List Int} (i : Nat) : (stP fm lm row i).length ≤ row.length := by
  unfold stP; rw [List.length_map, List.length_take]; omega
theorem stP_keys {fm lm : Int → Int} {row : List Int} (i : Nat) : (stP fm lm row i).map (·.1) = row.take i := by
  unfold stP; rw [List.map_map]; exact List.map_id _

/-- the sorter is told the row -/
theorem run_tell (G : Gd (KK w) g) (C : CodeHd g 220 218) (hA : AOk A 8) (hP : RPure R) (hX : RFix R τ outer) {D : SD} (hS : SOk σ₀ σ D) (hB : RB τ R.cm R.cl R.ch σ₀) (h1 : D.ready = none) (h2 : D.po = 0) (h3 : D.fi = 0) (h4 : D.nodes = []) {Φ : F → Loc → AH → Prop}
    (hΦ : ∀ σ' σ₀' D', SOk σ₀' σ' D' → RB τ R.cm R.cl R.ch σ₀' → D'.x = D.x → D'.ready = none → D'.po = 0 → D'.fi = 0 → D'.p = stP R.fm R.lm R.row R.row.length → Φ .next [(Str.ofString "fullest", .ref R.lF), (Str.ofString "begins", .ref R.lb), (Str.ofString "sorter", .ref D.x)] σ') :
    AX PP w g A (envR w L R) (sAt (bodyOf (fRun w)) 1) [(Str.ofString "fullest", .ref R.lF), (Str.ofString "begins", .ref R.lb), (Str.ofString "sorter", .ref D.x)] σ Φ := by
  have hrow0 := fun {σ₀' σ' : AH} {D' : SD} (h : SOk σ₀' σ' D') (b : RB τ R.cm R.cl R.ch σ₀') => h.sub _ _ (b.sub _ _ hX.r)
  have hcr0 := fun {σ₀' σ' : AH} {D' : SD} (h : SOk σ₀' σ' D') (b : RB τ R.cm R.cl R.ch σ₀') => h.sub _ _ (b.sub _ _ hX.cr)
  have hlr := hP.hr
  refine X_For <| E_Cell (a := R.cr) rfl (hcr0 hS hB) ⟨ivs R.row, _, fun i m' σ' => m' = [(Str.ofString "fullest", .ref R.lF), (Str.ofString "begins", .ref R.lb), (Str.ofString "sorter", .ref D.x)] ∧ ∃ σ₀' D', SOk σ₀' σ' D' ∧ RB τ R.cm R.cl R.ch σ₀' ∧ D'.x = D.x ∧ D'.ready = none ∧ D'.po = 0 ∧ D'.fi = 0 ∧ D'.p = stP R.fm R.lm R.row i,
    iter_list hA.handled, ⟨rfl, σ₀, D, hS, hB, rfl, h1, h2, h3, ?_⟩, ?_, ?_, ?_⟩
  · unfold SD.p stP; rw [h4]; simp
  · rintro i m' σ' ⟨_, σ₀', D', h, b, _⟩; exact hrow0 h b
  · rintro i v m' σ' hv ⟨rfl, σ₀', D', hS, hB, ex, er, ep, ef, eP⟩
    obtain ⟨p, hp, rfl⟩ := ivs_at hv
    have hi : i < R.row.length := (List.getElem?_eq_some_iff.mp hp).1
    have hpr : p ∈ R.row := List.mem_of_getElem? hp
    obtain ⟨p0, pn⟩ := hP.inr p hpr
    refine asg_local ?_
    rw [← ex]
    refine AXs_cons <| X_Expr <| E_CallAttr (few := false) (by kernel_rfl!) <| E_Local rfl <| callee_bound G 123 hS.inst rfl fun q hq => ?_
    have hS1 := hS.fresh (o := .raw (methodObj (.ref 123) (.ref D'.x))) hq
    have hB1 := hB.up (Sub.set (p := .raw (methodObj (.ref 123) (.ref D'.x))) (hS.none0 hq))
    have hq1 : (σ'.set q (.raw (methodObj (.ref 123) (.ref D'.x)))) q = _ := AH.set_self ..
    generalize (σ'.set q (.raw (methodObj (.ref 123) (.ref D'.x)))) = σ1 at hS1 hq1 ⊢
    generalize (σ₀'.set q (.raw (methodObj (.ref 123) (.ref D'.x)))) = σ01 at hS1 hB1
    have ht1 := hB1.tab.sub hS1.sub
    refine Args_star <| E_Local rfl <| E_Slice <| E_Cell (a := R.cr) rfl (hcr0 hS1 hB1) <| part_none <| part_some <| E_Call <| E_Global G (by kernel_rfl!) (.ref 39) <| Args_cons <| E_Cell (a := R.cr) rfl (hcr0 hS1 hB1) <| Args_cons' <| E_Sub <| E_Local rfl <| E_Local rfl <| sub_keyI (hS1.sub _ _ (hB1.sub _ _ hX.b)) p0 (by rw [hP.nb]; exact pn) (by rw [hP.nb]; have := hP.hn; omega) <| Args_nil' <| Kws_cons <| E_Lambda (cl := [(Str.ofString "ends", R.ce)]) G (by kernel_rfl!) rfl C ht1 (fun σ2 f c' hx ht2 hf hc2 hfn => Kws_nil ?_) (by kernel_rfl!)
    have hS2 := hS1.lam hx ht1
    have hB2 := hB1.lam hX.tt hS1 hx ht2
    have hq2 : σ2 q = _ := hx _ _ (AH.ne_ob hq1 ht1.choose_spec.1 (by intro z; cases z)) hq1
    generalize lamK σ01 σ2 = σ02 at hS2 hB2
    have hk : KeyOk w g (.ref f) σ2 R.row (keyOf R.ends) := key_lam G hf hc2 (hS2.sub _ _ (hB2.sub _ _ hX.ce)) (hS2.sub _ _ (hB2.sub _ _ hX.e)) (by rw [hP.ne]; have := hP.hn; omega) (fun y hy => by rw [hP.ne]; exact hP.inr y hy) (by intro _ _ _; kernel_rfl!) (by kernel_rfl!) (by kernel_rfl!) (by kernel_rfl!) (by kernel_rfl!) (by kernel_rfl!) (by kernel_rfl!) (by kernel_rfl!) (by kernel_rfl!)
    refine bisR_callK G (hA.le (by decide)) (hrow0 hS2 hB2) (by omega) hk rfl rfl ⟨_, rfl, R.lr, ivs R.row, rfl, .inl (hrow0 hS2 hB2), by rw [ivs_length]; omega, _, pick_upto _, fun a ha => ⟨a, _, rfl, AH.set_self .., by rw [List.length_take, ivs_length]; omega, ?_⟩⟩
    have et : (ivs R.row).take (bisR (R.row.map (keyOf R.ends)) (keyOf R.begins p)) = ivs (prd R.fm R.lm R.row p) := by
      rw [← hP.prd p hpr]; unfold ivs; rw [List.map_take]
    rw [et]
    have hS3 := hS2.fresh (o := .list (ivs (prd R.fm R.lm R.row p))) ha
    have hB3 := hB2.up (Sub.set (p := .list (ivs (prd R.fm R.lm R.row p))) (hS2.none0 ha))
    have hq3 := AH.set_get (p := .list (ivs (prd R.fm R.lm R.row p))) hq2 ha
    generalize (σ2.set a (.list (ivs (prd R.fm R.lm R.row p)))) = σ3 at hS3 hq3 ⊢
    generalize (σ02.set a (.list (ivs (prd R.fm R.lm R.row p)))) = σ03 at hS3 hB3
    have hlen : D'.nodes.length ≤ 60 := by rw [← p_length, eP]; have := stP_len (fm := R.fm) (lm := R.lm) (row := R.row) i; omega
    refine call_bound G hq3 (by kernel_rfl!) <| add_code G (hA.le (by decide)) hS3 er ?_ ?_ (by omega) ?_ ?_ fun σ4 D4 hS4 same eP4 => AXs_nil <| Fgt.now' (m' := [(Str.ofString "fullest", .ref R.lF), (Str.ofString "begins", .ref R.lb), (Str.ofString "sorter", .ref D'.x)]) (LSub.pre [(_, _), (_, _), (_, _)] [(_, _)]) ⟨rfl, σ03, D4, hS4, hB3, same.x, same.ready.trans er, same.po.trans ep, same.fi.trans ef, ?_⟩
    · rw [eP, stP_keys]
      intro hm
      obtain ⟨k, hk, hkl, e2⟩ := mem_take_i hm
      have e3 : R.row[i] = p := (List.getElem?_eq_some_iff.mp hp).2
      rw [getD_of _ hkl] at e2
      have : k = i := (List.getElem_inj (h₀ := hkl) (h₁ := hi) hP.run.nd).mp (e2.trans e3.symm)
      omega
    · intro q hq
      rw [eP, stP_keys]
      have := List.mem_filter.mp hq
      exact hP.run.before i p q hp this.1 (of_decide_eq_true this.2)
    · exact Nat.le_trans (List.length_filter_le _ _) (by omega)
    · intro t ht
      rw [eP] at ht
      obtain ⟨d, hd, rfl⟩ := List.mem_map.mp ht
      exact Nat.le_trans (List.length_filter_le _ _) (by rw [List.length_take]; omega)
    · rw [eP4, eP]; exact stP_step hP.run.toRowOk hp
  · rintro m' σ' ⟨rfl, σ₀', D', hS, hB, ex, er, ep, ef, eP⟩
    rw [ivs_length] at eP
    exact AXs_nil (hΦ σ' σ₀' D' hS hB ex er ep ef eP)
end
end Mine

namespace Mine
open PySem PySem.W PyProof.Rows

theorem SOk.fresh' {σ₀ σ : AH} {D : SD} (h : SOk σ₀ σ D) {a : Addr} {o : O} (ha : σ a = none) : SOk σ₀ (σ.set a o) D := (h.fresh ha).less (Sub.set (h.none0 ha))

structure RX (R : RD) (τ : AH) (outer : List Env) (σ₀ : AH) : Prop where
  fix : RFix R τ outer
  B : RB τ R.cm R.cl R.ch σ₀
noncomputable def O.isTab : O → Bool
  | .tab _ => true
  | _ => false
theorem RFix.up {R : RD} {τ τ' : AH} {outer : List Env} (h : RFix R τ outer) (k : Sub τ τ') (hn : τ' 218 = none) : RFix R τ' outer :=
  ⟨hn, k _ _ h.b, k _ _ h.e, k _ _ h.r, k _ _ h.f, k _ _ h.l, k _ _ h.F, h.LL.sub k, k _ _ h.ce, k _ _ h.cr, k _ _ h.cf, k _ _ h.ct, h.fr.sub k⟩
theorem RX.up {R : RD} {τ σ₀ σ₁ : AH} {outer : List Env} (h : RX R τ outer σ₀) (k : Sub σ₀ σ₁) : RX R τ outer σ₁ := ⟨h.fix, h.B.up k⟩
theorem RX.know {R : RD} {τ σ₀ : AH} {outer : List Env} (h : RX R τ outer σ₀) {a : Addr} {o : O} (ha : σ₀ a = some o) (ho : o.isTab = false) : ∃ τ', RX R τ' outer σ₀ ∧ Sub τ τ' ∧ τ' a = some o ∧ ∀ b, b ≠ a → τ' b = τ b := by
  obtain ⟨ts, ht, _⟩ := h.B.tab
  have s : Sub τ (τ.set a o) := fun b p e => by
    by_cases q : b = a
    · have := h.B.sub _ _ e
      rw [q, ha] at this
      rw [q, AH.set_self]; exact this
    · exact (AH.set_ne _ _ q).trans e
  have n : (218 : Addr) ≠ a := fun z => by rw [← z, ht] at ha; cases ha; cases ho
  refine ⟨τ.set a o, ⟨h.fix.up s ((AH.set_ne _ _ n).trans h.fix.tt), ⟨fun b p e => ?_, h.B.m, h.B.l, h.B.h, h.B.tab⟩⟩, s, AH.set_self .., fun b hb => AH.set_ne _ _ hb⟩
  by_cases q : b = a
  · rw [q, AH.set_self] at e; rw [q, ha]; exact e
  · rw [AH.set_ne _ _ q] at e; exact h.B.sub _ _ e
theorem RX.setc {R : RD} {τ σ₀ : AH} {outer : List Env} (h : RX R τ outer σ₀) {c : Addr} {ov : Option V} (hc : σ₀ c = some (.cell ov)) (hτ : τ c = none) (v : Option V) : RX R τ outer (σ₀.set c (.cell v)) := ⟨h.fix, h.B.setc hc hτ v⟩
theorem RX.lam {R : RD} {τ σ₀ σ σ'' : AH} {D : SD} {outer : List Env} (h : RX R τ outer σ₀) (hS : SOk σ₀ σ D) (hx : ExtP 218 σ σ'') (ht : TabOk σ'' 218 qRun) : RX R τ outer (lamK σ₀ σ'') := ⟨h.fix, h.B.lam h.fix.tt hS hx ht⟩
theorem RX.g {R : RD} {τ σ₀ σ : AH} {D : SD} {outer : List Env} (h : RX R τ outer σ₀) (hS : SOk σ₀ σ D) {a : Addr} {o : O} (e : τ a = some o) : σ a = some o := hS.sub _ _ (h.B.sub _ _ e)
theorem RX.tab {R : RD} {τ σ₀ σ : AH} {D : SD} {outer : List Env} (h : RX R τ outer σ₀) (hS : SOk σ₀ σ D) : TabOk σ 218 qRun := h.B.tab.sub hS.sub
theorem RX.no {R : RD} {τ σ₀ : AH} {outer : List Env} (h : RX R τ outer σ₀) {a : Addr} (e : σ₀ a = none) : τ a = none := by
  cases z : τ a with
  | none => rfl
  | some o => rw [h.B.sub _ _ z] at e; cases e

theorem eqD (x y : Int) : (x == y) = decide (x = y) := by rw [Bool.eq_iff_iff]; simp

section
variable {w : World} {g : Heap} {A : Around} {σ σ₀ τ : AH} {R : RD} {outer : List Env} {L : Addr}

/-- the sorter's place ahead of the turn k -/
structure RS (R : RD) (k : Nat) (D : SD) (lr : Addr) (outl : List Int) : Prop where
  rdy : D.ready = some (lr, Rk R.fm R.row k)
  po : D.po = Fc R.fm R.row k
  fi : D.fi = Lc R.lm R.row k
  p : D.p = stQ R.fm R.lm R.row (npB R.fm R.lm R.row k)
  nd : outl.Nodup
  mem : ∀ x, x ∈ outl ↔ x ∈ R.row ∧ R.fm x < k ∧ (k : Int) ≤ R.lm x

theorem run_turn2 (G : Gd (KK w) g) (hA : AOk A 8) (hP : RPure R) {k : Nat} (hk : k < R.full.length) {D : SD} {lr lo t : Addr} {outl : List Int} {low high : Nat} (hS : SOk σ₀ σ D) (hX : RX R τ outer σ₀)
    (er : D.ready = some (lr, [])) (ep : D.po = (Fc R.fm R.row ((k : Int) + 1) : Nat)) (ef : D.fi = (Lc R.lm R.row k : Nat)) (eP : D.p = stQ R.fm R.lm R.row (npA R.fm R.lm R.row k 0)) (hnd : outl.Nodup) (hmem : ∀ x, x ∈ outl ↔ x ∈ R.row ∧ R.fm x ≤ k ∧ (k : Int) ≤ R.lm x)
    (hlo : τ lo = some (.list (ivs outl))) (hcm : τ R.cm = some (.cell (some (.int k)))) (hcl : τ R.cl = some (.cell (some (.int low)))) (hch : τ R.ch = some (.cell (some (.int high)))) (hle : low ≤ high) (hhi : high ≤ R.row.length)
    (eblk : ((ivs R.row).drop low).take (high - low) = ivs (Bk R.lm R.row k)) {Φ : F → Loc → AH → Prop}
    (hΦ : ∀ m' σ' σ₀' D' lr' lo' outl', SOk σ₀' σ' D' → RX R τ outer σ₀' → RS R (k + 1) D' lr' outl' → σ₀' lo' = some (.list (ivs outl')) → D'.x = D.x → m' = [(Str.ofString "fullest", .ref R.lF), (Str.ofString "begins", .ref R.lb), (Str.ofString "sorter", .ref D.x), (Str.ofString "out", .ref lo'), (Str.ofString "given", .ref t)] → Φ .next m' σ') :
    AXs PP w g A (envR w L R) ((forBody (sAt (bodyOf (fRun w)) 4)).drop 7) [(Str.ofString "fullest", .ref R.lF), (Str.ofString "begins", .ref R.lb), (Str.ofString "sorter", .ref D.x), (Str.ofString "out", .ref lo), (Str.ofString "given", .ref t)] σ Φ := by
  have hlr := hP.hr
  have hln := hP.hn
  have hrn : ∀ p ∈ R.row, 0 ≤ p ∧ p < R.n := hP.inr
  have hBk : (Bk R.lm R.row k).length ≤ 60 := Nat.le_trans (List.length_filter_le _ _) hlr
  refine AXs_cons <| X_If <| T_Compare1 <| E_Slice <| E_Cell (a := R.cr) rfl (hX.g hS hX.fix.cr) <| part_some <| E_Cell (a := R.cl) rfl (hX.g hS hcl) ⟨_, rfl, part_some <| E_Cell (a := R.ch) rfl (hX.g hS hch) ⟨_, rfl, R.lr, ivs R.row, rfl, .inl (hX.g hS hX.fix.r), by rw [ivs_length]; omega, _, pick_run low high (by rw [ivs_length]; exact hhi) hle, fun a ha => ?_⟩⟩
  rw [eblk]
  have hS1 := hS.fresh' (o := .list (ivs (Bk R.lm R.row k))) ha
  have ha1 : (σ.set a (.list (ivs (Bk R.lm R.row k)))) a = _ := AH.set_self ..
  generalize (σ.set a (.list (ivs (Bk R.lm R.row k)))) = σ1 at hS1 ha1 ⊢
  refine E_ListComp (cl := [(Str.ofString "mark", R.cm), (Str.ofString "last", R.ct)]) (by kernel_rfl!) (comp_pure (fun v => decide (keyOf R.last v.toI = k)) (fun v => v) <| E_Cell (a := R.cr) rfl (hX.g hS1 hX.fix.cr) ⟨ivs R.row, _, iter_list hA.handled, by rw [ivs_length]; omega, hX.g hS1 hX.fix.r, fun C i v hv => ?_, fun b hb => ?_⟩)
  · obtain ⟨p, hp, rfl⟩ := ivs_at hv
    obtain ⟨p0, pn⟩ := hrn p (List.mem_of_getElem? hp)
    refine tests_one <| T_Compare1 <| E_Sub <| E_Cell (a := R.ct) (by kernel_rfl!) (hX.g hS1 hX.fix.ct) <| E_Local rfl <| sub_keyI (hX.g hS1 hX.fix.l) p0 (by rw [hP.nl]; exact pn) (by rw [hP.nl]; omega) <| E_Cell (a := R.cm) (by kernel_rfl!) (hX.g hS1 hcm) <| eq_I <| tr_B ⟨eqD _ _, Sub.refl _, fun _ => E_Local rfl ⟨rfl, Sub.refl _⟩⟩
  rw [map_idV, filter_ivs _ _ (fun j => decide (keyOf R.last j = k)) (fun x => rfl)]
  have hS2 := hS1.fresh' (o := .list (ivs (Bk R.lm R.row k))) hb
  refine ne_LL hA.unitsOk (AH.set_get ha1 hb) (AH.set_self ..) <| tr_B ⟨fun hb => absurd hb (by simp [Bk]), fun _ => AXs_nil ?_⟩
  show AXs PP w g A (envR w L R) _ _ (σ1.set b (.list (ivs (Bk R.lm R.row k)))) _
  generalize (σ1.set b (.list (ivs (Bk R.lm R.row k)))) = σ2 at hS2 ⊢
  -- done
  refine AXs_cons <| X_If <| T_Compare1 <| E_CallAttr (few := false) (by kernel_rfl!) <| E_Local rfl <| callee_bound G 156 hS2.inst rfl fun q hq => ?_
  have hS3 := hS2.fresh' (o := .raw (methodObj (.ref 156) (.ref D.x))) hq
  have hq3 : (σ2.set q (.raw (methodObj (.ref 156) (.ref D.x)))) q = _ := AH.set_self ..
  generalize (σ2.set q (.raw (methodObj (.ref 156) (.ref D.x)))) = σ3 at hS3 hq3 ⊢
  refine Args_lone <| E_Slice <| E_Cell (a := R.cr) rfl (hX.g hS3 hX.fix.cr) <| part_some <| E_Cell (a := R.cl) rfl (hX.g hS3 hcl) ⟨_, rfl, part_some <| E_Cell (a := R.ch) rfl (hX.g hS3 hch) ⟨_, rfl, R.lr, ivs R.row, rfl, .inl (hX.g hS3 hX.fix.r), by rw [ivs_length]; omega, _, pick_run low high (by rw [ivs_length]; exact hhi) hle, fun a4 ha4 => ⟨a4, _, rfl, AH.set_self .., by rw [eblk, ivs_length]; omega, ?_⟩⟩⟩
  rw [eblk]
  have hS4 := hS3.fresh' (o := .list (ivs (Bk R.lm R.row k))) ha4
  have hq4 := AH.set_get (p := .list (ivs (Bk R.lm R.row k))) hq3 ha4
  generalize (σ3.set a4 (.list (ivs (Bk R.lm R.row k)))) = σ4 at hS4 hq4 ⊢
  have k0 : (0 : Int) ≤ k := Int.natCast_nonneg _
  have kl : (k : Int) < R.full.length := by omega
  have hJ : ∀ i, ((Bk R.lm R.row k).take i).foldl pDone (D.p, []) = (stQ R.fm R.lm R.row (npA R.fm R.lm R.row k (min i (Bk R.lm R.row k).length)), if (min i (Bk R.lm R.row k).length) = (Bk R.lm R.row k).length then Rk R.fm R.row ((k : Int) + 1) else []) := fun i => by
    have := hP.run.doneJ k0 kl (min i (Bk R.lm R.row k).length) (Nat.min_le_right _ _)
    rw [← eP] at this
    rw [← this]
    congr 1
    rw [← List.take_take, List.take_length]
  refine call_bound G hq4 (by kernel_rfl!) <| done_code G (hA.le (by decide)) hS4 er (by omega) (fun i => ?_) (fun i x hx => ?_) (fun x hx => ?_) (fun i x hx => ?_) (fun i x hx s hs => ?_) fun σ5 D5 hS5 dA => ?_
  · rw [hJ]
    dsimp only
    split
    · exact Nat.le_trans (List.length_filter_le _ _) (by omega)
    · exact Nat.zero_le _
  · have hxr : x ∈ R.row := (List.mem_filter.mp (List.mem_of_getElem? hx)).1
    rw [hJ]
    dsimp only
    rw [stQ_succ _ hxr]
    exact Nat.le_trans (List.length_filter_le _ _) (by omega)
  · rw [eP, stQ_keys]; exact (List.mem_filter.mp hx).1
  · have hxr : x ∈ R.row := (List.mem_filter.mp (List.mem_of_getElem? hx)).1
    have hi : i < (Bk R.lm R.row k).length := (List.getElem?_eq_some_iff.mp hx).1
    rw [hJ]
    dsimp only
    rw [stQ_np _ hxr, Nat.min_eq_left (by omega)]
    exact hP.run.out hx
  · have hxr : x ∈ R.row := (List.mem_filter.mp (List.mem_of_getElem? hx)).1
    rw [hJ] at hs
    dsimp only at hs
    rw [stQ_succ _ hxr] at hs
    rw [eP, stQ_keys]
    exact (List.mem_filter.mp hs).1
  have hall := hP.run.doneAll k0 kl
  rw [← eP] at hall
  have dx := dA.x
  have dpo := dA.po.trans ep
  have dfi := dA.fi
  have drd := dA.ready
  have dp := dA.p
  rw [hall] at drd dp
  rw [ef] at dfi
  replace dfi : D5.fi = (Lc R.lm R.row ((k : Int) + 1) : Nat) := by rw [dfi, Lc_succ]; push_cast; rfl
  refine E_None <| isNot_None rfl <| tr_B ⟨fun hb => absurd hb (by decide), fun _ => AXs_nil ?_⟩
  rw [← dx] at hΦ ⊢
  -- out
  have hol : outl.length ≤ R.row.length := nodup_len hnd fun x hx => ((hmem x).mp hx).1
  refine AXs_cons <| X_AssignComp (cl := [(Str.ofString "row", R.cr), (Str.ofString "low", R.cl), (Str.ofString "high", R.ch)]) (by kernel_rfl!) (comp_pure (fun v => !decide (v.toI ∈ Bk R.lm R.row k)) (fun v => v) <| E_Local rfl ⟨ivs outl, _, iter_list hA.handled, by rw [ivs_length]; omega, hX.g hS5 hlo, fun C i v hv => ?_, fun lo6 hlo6 => ?_⟩)
  · obtain ⟨p, hp, rfl⟩ := ivs_at hv
    refine tests_one <| T_Compare1 <| E_Local rfl <| E_Slice <| E_Cell (a := R.cr) (by kernel_rfl!) (hX.g hS5 hX.fix.cr) <| part_some <| E_Cell (a := R.cl) (by kernel_rfl!) (hX.g hS5 hcl) ⟨_, rfl, part_some <| E_Cell (a := R.ch) (by kernel_rfl!) (hX.g hS5 hch) ⟨_, rfl, R.lr, ivs R.row, rfl, .inl (hX.g hS5 hX.fix.r), by rw [ivs_length]; omega, _, pick_run low high (by rw [ivs_length]; exact hhi) hle, fun a6 ha6 => ?_⟩⟩
    rw [eblk]
    refine notIn_I (AH.set_self ..) <| tr_B ⟨rfl, Sub.set ha6, fun _ => E_Local rfl ⟨rfl, Sub.set ha6⟩⟩
  rw [map_idV, filter_ivs _ _ (fun j => !decide (j ∈ Bk R.lm R.row k)) (fun x => rfl)]
  have hS6 := hS5.fresh (o := .list (ivs (outl.filter fun j => !decide (j ∈ Bk R.lm R.row k)))) hlo6
  have hX6 := hX.up (Sub.set (p := .list (ivs (outl.filter fun j => !decide (j ∈ Bk R.lm R.row k)))) (hS5.none0 hlo6))
  refine AXs_nil <| hΦ _ _ _ D5 lr lo6 _ hS6 hX6 ⟨drd, dpo, dfi, dp, hnd.sublist List.filter_sublist, fun x => ?_⟩ (AH.set_self ..) rfl rfl
  rw [List.mem_filter, hmem x]
  have hb : x ∈ R.row → (x ∈ Bk R.lm R.row k ↔ R.lm x = k) := fun hx => by unfold Bk; rw [List.mem_filter, decide_eq_true_iff]; exact and_iff_right hx
  push_cast
  constructor
  · rintro ⟨⟨h1, h2, h3⟩, h4⟩
    have h5 : x ∉ Bk R.lm R.row k := by simpa using h4
    have h6 : R.lm x ≠ k := fun z => h5 ((hb h1).mpr z)
    exact ⟨h1, by omega, by omega⟩
  · rintro ⟨h1, h2, h3⟩
    have h5 : x ∉ Bk R.lm R.row k := fun z => by have := (hb h1).mp z; omega
    exact ⟨⟨h1, by omega, by omega⟩, by simpa using h5⟩
end
end Mine

namespace Mine
open PySem PySem.W PyProof.Rows
section
variable {w : World} {g : Heap} {A : Around} {σ σ₀ τ : AH} {R : RD} {outer : List Env} {L : Addr}

theorem RX.down {τ' : AH} (h : RX R τ' outer σ₀) (k : RFix R τ outer) (s : Sub τ τ') : RX R τ outer σ₀ := ⟨k, ⟨s.trans h.B.sub, h.B.m, h.B.l, h.B.h, h.B.tab⟩⟩

theorem run_turn (G : Gd (KK w) g) (C : CodeHd g 220 218) (hA : AOk A 8) (hP : RPure R) {k : Nat} (hk : k < R.full.length) {D : SD} {lr lo : Addr} {outl : List Int} (hS : SOk σ₀ σ D) (hX : RX R τ outer σ₀) (hR : RS R k D lr outl)
    (hlo : τ lo = some (.list (ivs outl))) (hcm : τ R.cm = some (.cell (some (.int k)))) (hcl : τ R.cl = none) (hch : τ R.ch = none) (hlh : R.cl ≠ R.ch) {Φ : F → Loc → AH → Prop}
    (hΦ : ∀ m' σ' σ₀' D' lr' lo' t' outl', SOk σ₀' σ' D' → RX R τ outer σ₀' → RS R (k + 1) D' lr' outl' → σ₀' lo' = some (.list (ivs outl')) → D'.x = D.x → m' = [(Str.ofString "fullest", .ref R.lF), (Str.ofString "begins", .ref R.lb), (Str.ofString "sorter", .ref D.x), (Str.ofString "out", .ref lo'), (Str.ofString "given", .ref t')] → Φ .next m' σ') :
    AXs PP w g A (envR w L R) (forBody (sAt (bodyOf (fRun w)) 4)) [(Str.ofString "fullest", .ref R.lF), (Str.ofString "begins", .ref R.lb), (Str.ofString "sorter", .ref D.x), (Str.ofString "out", .ref lo)] σ Φ := by
  have hlr := hP.hr
  have hln := hP.hn
  have hrn : ∀ p ∈ R.row, 0 ≤ p ∧ p < R.n := hP.inr
  have hRk : (Rk R.fm R.row k).length ≤ 60 := Nat.le_trans (List.length_filter_le _ _) hlr
  refine AXs_cons <| X_If <| T_Compare1 <| E_CallAttr (few := true) (by kernel_rfl!) <| E_Local rfl <| callee_meth G 142 hS.inst rfl <| Args_nil <| Kws_nil <| call_of_code (oc := .type "function") (od := none) (fd := fAct w) (osl := #[]) G (by kernel_rfl!) <| active_code G (hA.le (by decide)) hS hR.rdy (by omega) <| E_Bool <| isNot_Bool <| tr_B ⟨fun hb => absurd hb ?_, fun _ => AXs_nil ?_⟩
  · rw [hR.fi, hR.po, hP.run.active hk]; decide
  refine AXs_cons <| X_AssignLocal <| E_CallAttr (few := true) (by kernel_rfl!) <| E_Local rfl <| callee_meth G 135 hS.inst rfl <| Args_nil <| Kws_nil <| call_of_code (oc := .type "function") (od := none) (fd := fGet w) (osl := #[]) G (by kernel_rfl!) <| get_code G (hA.le (by decide)) hS hR.rdy (by omega) (fun x hx => ?_) fun t σ1 D1 ht0 hS1 ex1 er1 ep1 ef1 eP1 => ?_
  · rw [hR.p, stQ_keys]; exact (List.mem_filter.mp hx).1
  rw [hR.p] at eP1
  rw [hP.run.get] at eP1
  replace ep1 : D1.po = (Fc R.fm R.row ((k : Int) + 1) : Nat) := by rw [ep1, hR.po, Fc_succ]; push_cast; rfl
  rw [hR.fi] at ef1
  have hX1 := hX.up (Sub.set (p := .tuple (ivs (Rk R.fm R.row k))) ht0)
  obtain ⟨τ1, hX1, sub1, ht1, off1⟩ := hX1.know (AH.set_self ..) rfl
  have tne : ∀ c, (∃ ov, σ₀ c = some (.cell ov)) → c ≠ t := fun c ⟨ov, e⟩ => AH.ne_of e ht0
  have hcl1 : τ1 R.cl = none := (off1 _ (tne _ hX.B.l)).trans hcl
  have hch1 : τ1 R.ch = none := (off1 _ (tne _ hX.B.h)).trans hch
  have hlo1 := sub1 _ _ hlo
  have hcm1 := sub1 _ _ hcm
  generalize (σ₀.set t (.tuple (ivs (Rk R.fm R.row k)))) = σ01 at hS1 hX1
  rw [← ex1] at hΦ ⊢
  -- the tuple
  refine AXs_cons <| X_If <| T_Compare1 <| E_Local rfl <| E_Call <| E_Builtin G (by kernel_rfl!) boot_tuple (.typ _) <| Args_cons <| E_ListComp (cl := [(Str.ofString "mark", R.cm), (Str.ofString "first", R.cf)]) (by kernel_rfl!) (comp_pure (fun v => decide (keyOf R.first v.toI = k)) (fun v => v) <| E_Cell (a := R.cr) rfl (hX1.g hS1 hX1.fix.cr) ⟨ivs R.row, _, iter_list hA.handled, by rw [ivs_length]; omega, hX1.g hS1 hX1.fix.r, fun C i v hv => ?_, fun a ha => ?_⟩)
  · obtain ⟨p, hp, rfl⟩ := ivs_at hv
    obtain ⟨p0, pn⟩ := hrn p (List.mem_of_getElem? hp)
    refine tests_one <| T_Compare1 <| E_Sub <| E_Cell (a := R.cf) (by kernel_rfl!) (hX1.g hS1 hX1.fix.cf) <| E_Local rfl <| sub_keyI (hX1.g hS1 hX1.fix.f) p0 (by rw [hP.nf]; exact pn) (by rw [hP.nf]; omega) <| E_Cell (a := R.cm) (by kernel_rfl!) (hX1.g hS1 hcm1) <| eq_I <| tr_B ⟨eqD _ _, Sub.refl _, fun _ => E_Local rfl ⟨rfl, Sub.refl _⟩⟩
  rw [map_idV, filter_ivs _ _ (fun j => decide (keyOf R.first j = k)) (fun x => rfl)]
  have hS2 := hS1.fresh' (o := .list (ivs (Rk R.fm R.row k))) ha
  have ha2 : (σ1.set a (.list (ivs (Rk R.fm R.row k)))) a = _ := AH.set_self ..
  show AArgs PP w g A (envR w L R) _ _ (σ1.set a (.list (ivs (Rk R.fm R.row k)))) _
  generalize (σ1.set a (.list (ivs (Rk R.fm R.row k)))) = σ2 at hS2 ha2 ⊢
  refine Args_nil' <| Kws_nil <| call_tuple_of ha2 (by rw [ivs_length]; omega) fun t2 ht2 => ne_TT (by have := hA.units; omega) (AH.set_get (hX1.g hS2 ht1) ht2) (AH.set_self ..) <| tr_B ⟨fun hb => absurd hb (by simp), fun _ => AXs_nil ?_⟩
  have hS3 := hS2.fresh' (o := .tuple (ivs (Rk R.fm R.row k))) ht2
  generalize (σ2.set t2 (.tuple (ivs (Rk R.fm R.row k)))) = σ3 at hS3 ⊢
  -- out
  have hlen : outl.length + (Rk R.fm R.row k).length ≤ R.row.length := by
    have hnd : (outl ++ Rk R.fm R.row k).Nodup := List.nodup_append.mpr ⟨hR.nd, hP.run.nd.sublist List.filter_sublist, fun x hx y hy => by
      have h1 := ((hR.mem x).mp hx).2.1
      have h2 := of_decide_eq_true (List.mem_filter.mp hy).2
      intro z; rw [z] at h1; omega⟩
    have := nodup_len hnd (l' := R.row) fun x hx => by
      rcases List.mem_append.mp hx with hx | hx
      · exact ((hR.mem x).mp hx).1
      · exact (List.mem_filter.mp hx).1
    rwa [List.length_append] at this
  refine AXs_cons <| X_AssignLocal <| E_BinOp <| E_Local rfl <| E_Call <| E_Builtin G (by kernel_rfl!) boot_list (.typ _) <| Args_cons <| E_Local rfl <| Args_nil' <| Kws_nil <| call_list_of (hX1.g hS3 ht1) (by rw [ivs_length]; omega) fun l2 hl2 => add_LL (AH.set_get (hX1.g hS3 hlo1) hl2) (AH.set_self ..) (by rw [ivs_length, ivs_length]; omega) fun lo2 hlo2 => ?_
  have eo : ivs outl ++ ivs (Rk R.fm R.row k) = ivs (outl ++ Rk R.fm R.row k) := by unfold ivs; rw [List.map_append]
  rw [eo]
  have hS4 := (hS3.fresh' (o := .list (ivs (Rk R.fm R.row k))) hl2).fresh (o := .list (ivs (outl ++ Rk R.fm R.row k))) hlo2
  have hlo0 := (hS3.fresh' (o := .list (ivs (Rk R.fm R.row k))) hl2).none0 hlo2
  generalize ((σ3.set l2 (.list (ivs (Rk R.fm R.row k)))).set lo2 (.list (ivs (outl ++ Rk R.fm R.row k)))) = σ4 at hS4 ⊢
  obtain ⟨τ2, hX2, sub2, hlo2', off2⟩ := (hX1.up (Sub.set (p := .list (ivs (outl ++ Rk R.fm R.row k))) hlo0)).know (AH.set_self ..) rfl
  have lne : ∀ c, (∃ ov, σ01 c = some (.cell ov)) → c ≠ lo2 := fun c ⟨ov, e⟩ => AH.ne_of e hlo0
  have hcl2 : τ2 R.cl = none := (off2 _ (lne _ hX1.B.l)).trans hcl1
  have hch2 : τ2 R.ch = none := (off2 _ (lne _ hX1.B.h)).trans hch1
  have hcm2 := sub2 _ _ hcm1
  generalize (σ01.set lo2 (.list (ivs (outl ++ Rk R.fm R.row k)))) = σ02 at hS4 hX2
  -- the fullest set
  refine AXs_cons <| X_If <| T_Compare1 <| E_Call <| E_Builtin G (by kernel_rfl!) boot_sorted (.blt _) <| Args_cons <| E_Local rfl <| Args_nil' <| Kws_nil <| call_sortedI (hX2.g hS4 hlo2') (by rw [List.length_append]; omega) fun a3 ys ha3 hperm hsort => ?_
  have hynd : ys.Nodup := by
    · refine hperm.nodup_iff.mpr (List.nodup_append.mpr ⟨hR.nd, hP.run.nd.sublist List.filter_sublist, fun x hx y hy => ?_⟩)
      have h1 := ((hR.mem x).mp hx).2.1
      have h2 := of_decide_eq_true (List.mem_filter.mp hy).2
      intro z; rw [z] at h1; omega
  have hymem : ∀ x, x ∈ ys ↔ x ∈ R.row ∧ R.fm x ≤ k ∧ (k : Int) ≤ R.lm x := fun x => by
    · rw [hperm.mem_iff, List.mem_append, hR.mem x]
      unfold Rk
      rw [List.mem_filter, decide_eq_true_iff]
      constructor
      · rintro (⟨h1, h2, h3⟩ | ⟨h1, h2⟩)
        · exact ⟨h1, by omega, h3⟩
        · exact ⟨h1, by omega, by have := hP.run.own x h1; omega⟩
      · rintro ⟨h1, h2, h3⟩
        by_cases z : R.fm x = k
        · exact .inr ⟨h1, z⟩
        · exact .inl ⟨h1, by omega, h3⟩
  have hful : R.full[k]? = some ys := hP.ful k ys hk hsort hynd hymem
  obtain ⟨af, haf, hafl⟩ := hX2.fix.LL.get' hful
  have hS5 := hS4.fresh' (o := .list (ivs ys)) ha3
  have ha5 : (σ4.set a3 (.list (ivs ys))) a3 = _ := AH.set_self ..
  generalize (σ4.set a3 (.list (ivs ys))) = σ5 at hS5 ha5 ⊢
  refine E_Sub <| E_Local rfl <| E_Cell (a := R.cm) rfl (hX2.g hS5 hcm2) <| sub_listN (hX2.g hS5 hX2.fix.F) (by have := hP.hF; omega) (v := .ref af) (by rw [List.getElem?_map, haf]; rfl) <| ne_LL hA.unitsOk ha5 (hX2.g hS5 hafl) <| tr_B ⟨fun hb => absurd hb (by simp), fun _ => AXs_nil ?_⟩
  -- low
  have ht5 := hX2.tab hS5
  refine AXs_cons <| X_AssignCell (a := R.cl) rfl <| E_Call <| E_Global G (by kernel_rfl!) (.ref 57) <| Args_cons <| E_Cell (a := R.cr) rfl (hX2.g hS5 hX2.fix.cr) <| Args_cons' <| E_Cell (a := R.cm) rfl (hX2.g hS5 hcm2) <| Args_nil' <| Kws_cons <| E_Lambda (cl := [(Str.ofString "last", R.ct)]) G (by kernel_rfl!) rfl C ht5 (fun σ6 f c' hx ht6 hf hc6 hfn => Kws_nil ?_) (by kernel_rfl!)
  have hS6 := hS5.lam hx ht5
  have hX6 := hX2.lam hS5 hx ht6
  generalize lamK σ02 σ6 = σ06 at hS6 hX6
  have hk6 : KeyOk w g (.ref f) σ6 R.row (keyOf R.last) := key_lam G hf hc6 (hX6.g hS6 hX6.fix.ct) (hX6.g hS6 hX6.fix.l) (by rw [hP.nl]; omega) (fun y hy => by rw [hP.nl]; exact hrn y hy) (by intro _ _ _; kernel_rfl!) (by kernel_rfl!) (by kernel_rfl!) (by kernel_rfl!) (by kernel_rfl!) (by kernel_rfl!) (by kernel_rfl!) (by kernel_rfl!) (by kernel_rfl!)
  obtain ⟨ov6, hov6⟩ := hX6.B.l
  refine bisL_callK G (hA.le (by decide)) (hX6.g hS6 hX6.fix.r) (by omega) hk6 rfl rfl ⟨⟨ov6, hS6.sub _ _ hov6⟩, ?_⟩
  obtain ⟨hle, hblk⟩ := block_eq hP.run.lmono k
  have hbR := bisR_le (R.row.map (keyOf R.last)) k
  rw [List.length_map] at hbR
  generalize bisL (R.row.map (keyOf R.last)) k = low at hle hblk ⊢
  have hS7 := hS6.turn (o' := .cell (some (.int low))) hov6
  obtain ⟨τ3, hX3, sub3, hcl3, off3⟩ := (hX6.setc hov6 hcl2 (some (.int low))).know (AH.set_self ..) rfl
  have hch3 : τ3 R.ch = none := (off3 _ (Ne.symm hlh)).trans hch2
  have hcm3 := sub3 _ _ hcm2
  have hlo3 := sub3 _ _ hlo2'
  generalize (σ6.set R.cl (.cell (some (.int low)))) = σ7 at hS7 ⊢
  generalize (σ06.set R.cl (.cell (some (.int low)))) = σ07 at hS7 hX3
  -- high
  have ht7 := hX3.tab hS7
  refine AXs_cons <| X_AssignCell (a := R.ch) rfl <| E_Call <| E_Global G (by kernel_rfl!) (.ref 39) <| Args_cons <| E_Cell (a := R.cr) rfl (hX3.g hS7 hX3.fix.cr) <| Args_cons' <| E_Cell (a := R.cm) rfl (hX3.g hS7 hcm3) <| Args_nil' <| Kws_cons <| E_Lambda (cl := [(Str.ofString "last", R.ct)]) G (by kernel_rfl!) rfl C ht7 (fun σ8 f8 c8 hx8 ht8 hf8 hc8 hfn8 => Kws_nil ?_) (by kernel_rfl!)
  have hS8 := hS7.lam hx8 ht7
  have hX8 := hX3.lam hS7 hx8 ht8
  generalize lamK σ07 σ8 = σ08 at hS8 hX8
  have hk8 : KeyOk w g (.ref f8) σ8 R.row (keyOf R.last) := key_lam G hf8 hc8 (hX8.g hS8 hX8.fix.ct) (hX8.g hS8 hX8.fix.l) (by rw [hP.nl]; omega) (fun y hy => by rw [hP.nl]; exact hrn y hy) (by intro _ _ _; kernel_rfl!) (by kernel_rfl!) (by kernel_rfl!) (by kernel_rfl!) (by kernel_rfl!) (by kernel_rfl!) (by kernel_rfl!) (by kernel_rfl!) (by kernel_rfl!)
  obtain ⟨ov8, hov8⟩ := hX8.B.h
  refine bisR_callK G (hA.le (by decide)) (hX8.g hS8 hX8.fix.r) (by omega) hk8 rfl rfl ⟨⟨ov8, hS8.sub _ _ hov8⟩, ?_⟩
  generalize bisR (R.row.map (keyOf R.last)) k = high at hle hblk hbR ⊢
  have hS9 := hS8.turn (o' := .cell (some (.int high))) hov8
  obtain ⟨τ4, hX4, sub4, hch4, off4⟩ := (hX8.setc hov8 hch3 (some (.int high))).know (AH.set_self ..) rfl
  have hcm4 := sub4 _ _ hcm3
  have hlo4 := sub4 _ _ hlo3
  have hcl4 := sub4 _ _ hcl3
  generalize (σ8.set R.ch (.cell (some (.int high)))) = σ9 at hS9 ⊢
  generalize (σ08.set R.ch (.cell (some (.int high)))) = σ09 at hS9 hX4
  have eblk : ((ivs R.row).drop low).take (high - low) = ivs (Bk R.lm R.row k) := by
    show _ = ivs (R.row.filter fun q => decide (keyOf R.last q = k))
    rw [← hblk]; unfold ivs; rw [List.map_take, List.map_drop]
  have hBk : (Bk R.lm R.row k).length ≤ 60 := Nat.le_trans (List.length_filter_le _ _) hlr
  refine run_turn2 (t := t) G hA hP hk hS9 hX4 er1 ep1 ef1 eP1 (outl := outl ++ Rk R.fm R.row k) ?_ (fun x => ?_) hlo4 hcm4 hcl4 hch4 hle hbR eblk fun m' σ' σ₀' D' lr' lo' outl' hS' hX' hR' hlo' ex' em' => hΦ m' σ' σ₀' D' lr' lo' t outl' hS' (hX'.down hX.fix (sub1.trans (sub2.trans (sub3.trans sub4)))) hR' hlo' ex' em'
  · exact hperm.nodup_iff.mp hynd
  · rw [← hperm.mem_iff]; exact hymem x
end
end Mine

namespace Mine
open PySem PySem.W PyProof.Rows

theorem idx_of {row : List Int} (hn : row.Nodup) {i : Nat} {x : Int} (h : row[i]? = some x) : row.idxOf x = i := by
  obtain ⟨hi, e⟩ := List.getElem?_eq_some_iff.mp h
  have hm : x ∈ row := List.mem_of_getElem? h
  have hl : row.idxOf x < row.length := List.idxOf_lt_length_of_mem hm
  exact (List.getElem_inj (h₀ := hl) (h₁ := hi) hn).mp ((List.getElem_idxOf hl).trans e.symm)
theorem RowOk.idx {fm lm : Int → Int} {row : List Int} (h : RowOk fm lm row) {d s : Int} (hd : d ∈ row) (hs : s ∈ row) (hlt : lm d < fm s) : row.idxOf d < row.idxOf s := by
  obtain ⟨i, hi, rfl⟩ := List.getElem_of_mem hs
  have hi' : row[i]? = some row[i] := by simp [hi]
  rw [idx_of h.nd hi']
  obtain ⟨j, hj, hjl, e⟩ := mem_take_i (h.before i _ d hi' hd hlt)
  have : row[j]? = some d := by rw [← e, getD_of _ hjl]; simp [hjl]
  rw [idx_of h.nd this]
  exact hj

section
variable {w : World} {g : Heap} {A : Around} {σ σ₀ τ : AH} {R : RD} {outer : List Env} {L : Addr} {m : Loc}

theorem run_body (G : Gd (KK w) g) (C : CodeHd g 220 218) (hA : AOk A 8) (hP : RPure R) (hfr : A.frames = some (envR w L R :: outer)) (hX : RX R τ outer σ) (hcm : τ R.cm = none) (hcl : τ R.cl = none) (hch : τ R.ch = none) (hml : R.cm ≠ R.cl) (hmh : R.cm ≠ R.ch) (hlh : R.cl ≠ R.ch) {Φ : F → Loc → AH → Prop}
    (hΦ : ∀ m' σ', Sub τ σ' → TabOk σ' 218 qRun → Φ (.ret (.bool true)) m' σ') :
    AXs PP w g A (envR w L R) (bodyOf (fRun w)) [(Str.ofString "fullest", .ref R.lF), (Str.ofString "begins", .ref R.lb)] σ Φ := by
  have hlr := hP.hr
  have hln := hP.hn
  have hlF := hP.hF
  refine AXs_cons <| X_AssignLocal <| E_Call <| E_Global G (by kernel_rfl!) (.ref 173) <| Args_nil <| Kws_nil <| sorter_make G (hA.le (by decide)) fun D σ1 h1 h2 h3 h4 hS => ?_
  refine AXs_cons <| run_tell G C hA hP hX.fix hS hX.B h1 h2 h3 h4 fun σ2 σ02 D2 hS2 hB2 ex er epo efi eP => ?_
  have hX2 : RX R τ outer σ02 := ⟨hX.fix, hB2⟩
  rw [← ex]
  clear h1 h2 h3 h4 hS
  have hkeys : D2.p.map (·.1) = R.row := by rw [eP, stP_keys, List.take_length]
  have hnode : ∀ n ∈ D2.nodes, n.key ∈ R.row ∧ n.succ = scs R.fm R.lm R.row n.key := fun n hn => by
    have : Nd.p n ∈ D2.p := List.mem_map_of_mem hn
    rw [eP] at this
    obtain ⟨d, hd, e⟩ := List.mem_map.mp this
    rw [List.take_length] at hd e
    have e1 : d = n.key := congrArg (fun t => t.1) e
    have e2 : R.row.filter (fun s => decide (R.lm d < R.fm s)) = n.succ := congrArg (fun t => t.2.2) e
    subst e1
    exact ⟨hd, e2.symm⟩
  refine AXs_cons <| X_If <| T_Compare1 <| E_CallAttr (few := true) (by kernel_rfl!) <| E_Local rfl <| callee_meth G 128 hS2.inst rfl <| Args_nil <| Kws_nil <| call_of_code (oc := .type "function") (od := none) (fd := fPrep w) (osl := #[]) G (by kernel_rfl!) <| prepare_code G (hA.le (by decide)) hfr rfl (by rw [show (envR w L R).scope.kind = .function by kernel_rfl!]; decide) hS2 er (hX2.fix.fr.sub hX2.B.sub) ?_ (fun n hn => ?_) (fun n hn s hs => ?_) fun σ3 D3 lr3 hS3 ex3 ep3 ef3 eP3 er3 => E_None <| isNot_None rfl <| tr_B ⟨fun hb => absurd hb (by decide), fun _ => AXs_nil ?_⟩
  · rw [← p_length, eP]; have := stP_len (fm := R.fm) (lm := R.lm) (row := R.row) R.row.length; omega
  · rw [(hnode n hn).2]; exact Nat.le_trans (List.length_filter_le _ _) (by omega)
  · obtain ⟨hk, e⟩ := hnode n hn
    rw [e] at hs
    obtain ⟨hs1, hs2⟩ := List.mem_filter.mp hs
    rw [hkeys]
    exact ⟨hs1, hP.run.toRowOk.idx hk hs1 (of_decide_eq_true hs2)⟩
  obtain ⟨s1, s2⟩ := hP.run.start
  rw [eP, s2] at er3
  rw [eP, s1] at eP3
  rw [← ex3]
  have hL0 : Lc R.lm R.row ((0 : Nat) : Int) = 0 := by
    unfold Lc
    rw [List.filter_eq_nil_iff.mpr fun q hq => ?_]
    · rfl
    · have := hP.run.f0 q hq
      have := hP.run.own q hq
      simp; omega
  have hF0 : Fc R.fm R.row ((0 : Nat) : Int) = 0 := by
    unfold Fc
    rw [List.filter_eq_nil_iff.mpr fun q hq => ?_]
    · rfl
    · have := hP.run.f0 q hq
      simp; omega
  have hR0 : RS R 0 D3 lr3 [] := ⟨er3, by rw [ep3, epo, hF0]; rfl, by rw [ef3, efi, hL0]; rfl, eP3, List.nodup_nil, fun x => ⟨(fun h => nomatch h), fun ⟨h1, h2, _⟩ => by have := hP.run.f0 x h1; omega⟩⟩
  clear er3 eP3 ep3 ef3 ex3
  refine AXs_cons <| X_AssignLocal <| E_List <| Args_nil' ⟨by decide, fun lo hlo => ?_⟩
  have hS4 := hS3.fresh (o := .list []) hlo
  have hX4 := hX2.up (Sub.set (p := .list []) (hS3.none0 hlo))
  have hlo4 : (σ02.set lo (.list [])) lo = some (.list (ivs [])) := AH.set_self ..
  generalize (σ3.set lo (.list [])) = σ4 at hS4 ⊢
  generalize (σ02.set lo (.list [])) = σ04 at hS4 hX4 hlo4
  have hlen : R.as.length = R.full.length := hX.fix.LL.length
  refine AXs_cons <| X_For <| E_Call <| E_Builtin G (by kernel_rfl!) boot_range (.typ _) <| Args_cons <| E_Call <| E_Builtin G (by kernel_rfl!) boot_len (.blt _) <| Args_cons <| E_Local rfl <| Args_nil' <| Kws_nil <| call_len_list (hX4.g hS4 hX4.fix.F) (Args_nil' <| Kws_nil <| call_range1 fun ρ hρ => ?_) (by rw [List.length_map]; omega)
  rw [List.length_map, hlen]
  have hρ0 := hS4.none0 hρ
  have hS5 := hS4.fresh (o := .rng 0 R.full.length 1) hρ
  have hlo5 := AH.set_get (p := .rng 0 R.full.length 1) hlo4 hρ0
  obtain ⟨τ5, hX5, sub5, hρ5, off5⟩ := (hX4.up (Sub.set (p := .rng 0 R.full.length 1) hρ0)).know (AH.set_self ..) rfl
  have ρne : ∀ c, (∃ ov, σ04 c = some (.cell ov)) → c ≠ ρ := fun c ⟨ov, e⟩ => AH.ne_of e hρ0
  have hcm5 : τ5 R.cm = none := (off5 _ (ρne _ hX4.B.m)).trans hcm
  have hcl5 : τ5 R.cl = none := (off5 _ (ρne _ hX4.B.l)).trans hcl
  have hch5 : τ5 R.ch = none := (off5 _ (ρne _ hX4.B.h)).trans hch
  generalize (σ4.set ρ (.rng 0 R.full.length 1)) = σ5 at hS5 ⊢
  generalize (σ04.set ρ (.rng 0 R.full.length 1)) = σ05 at hS5 hX5 hlo5
  refine ⟨rngL 0 1 R.full.length, _, fun k m' σ' => ∃ σ₀' D' lr' lo' outl', m' = [(Str.ofString "fullest", .ref R.lF), (Str.ofString "begins", .ref R.lb), (Str.ofString "sorter", .ref D3.x), (Str.ofString "out", .ref lo')] ∧ SOk σ₀' σ' D' ∧ RX R τ5 outer σ₀' ∧ RS R k D' lr' outl' ∧ σ₀' lo' = some (.list (ivs outl')) ∧ D'.x = D3.x,
    iter_rng hA.handled (rng1 _ (by omega)).1 (rng1 _ (by omega)).2, ⟨σ05, D3, lr3, lo, [], rfl, hS5, hX5, hR0, hlo5, rfl⟩, ?_, ?_, ?_⟩
  · rintro k m' σ' ⟨σ₀', D', lr', lo', outl', _, hS', hX', _⟩; exact hX'.g hS' hρ5
  · rintro k v m' σ' hv ⟨σ₀', D', lr', lo', outl', rfl, hS', hX', hR', hlo', ex'⟩
    obtain ⟨hk, rfl⟩ := rngL_at hv
    obtain ⟨ov, hov⟩ := hX'.B.m
    refine asg_cell (c := R.cm) rfl (hS'.sub _ _ hov) ?_
    have hS6 := hS'.turn (o' := .cell (some (.int k))) hov
    obtain ⟨τ6, hX6, sub6, hcm6, off6⟩ := (hX'.setc hov hcm5 (some (.int k))).know (AH.set_self ..) rfl
    have hlo6 : (σ₀'.set R.cm (.cell (some (.int k)))) lo' = some (.list (ivs outl')) := (AH.set_ne _ _ (AH.ne_ob hlo' hov (by intro z; cases z))).trans hlo'
    obtain ⟨τ7, hX7, sub7, hlo7, off7⟩ := hX6.know hlo6 rfl
    have one : ∀ c, (∃ ov, (σ₀'.set R.cm (.cell (some (.int k)))) c = some (.cell ov)) → c ≠ lo' := fun c ⟨ov, e⟩ => AH.ne_ob e hlo6 (by intro z; cases z)
    rw [← ex']
    refine run_turn G C hA hP hk hS6 hX7 hR' hlo7 (sub7 _ _ hcm6) ((off7 _ (one _ hX6.B.l)).trans ((off6 _ (Ne.symm hml)).trans hcl5)) ((off7 _ (one _ hX6.B.h)).trans ((off6 _ (Ne.symm hmh)).trans hch5)) hlh fun m'' σ'' σ₀'' D'' lr'' lo'' t'' outl'' hS'' hX'' hR'' hlo'' ex'' em'' => ?_
    subst em''
    exact Fgt.now' (m' := [(Str.ofString "fullest", .ref R.lF), (Str.ofString "begins", .ref R.lb), (Str.ofString "sorter", .ref D'.x), (Str.ofString "out", .ref lo'')]) (LSub.pre [(_, _), (_, _), (_, _), (_, _)] [(_, _)]) ⟨σ₀'', D'', lr'', lo'', outl'', rfl, hS'', hX''.down hX'.fix (sub6.trans sub7), hR'', hlo'', ex''⟩
  · rintro m' σ' ⟨σ₀', D', lr', lo', outl', rfl, hS', hX', hR', hlo', ex'⟩
    rw [rngL_length] at hR'
    obtain ⟨n1, n2, n3⟩ := hP.run.end_
    have hrdy := hR'.rdy
    have hpo := hR'.po
    have hfi := hR'.fi
    rw [n3] at hrdy
    rw [n2] at hpo
    rw [n1] at hfi
    rw [← ex']
    refine AXs_nil <| AXs_cons <| X_Return <| E_And2 <| E_Compare1 <| E_CallAttr (few := true) (by kernel_rfl!) <| E_Local rfl <| callee_meth G 142 hS'.inst rfl <| Args_nil <| Kws_nil <| call_of_code (oc := .type "function") (od := none) (fd := fAct w) (osl := #[]) G (by kernel_rfl!) <| active_code G (hA.le (by decide)) hS' hrdy (by simp) <| E_Bool <| is_Bool <| tr_B ⟨fun hb => absurd hb ?_, fun _ => ?_⟩
    · rw [hfi, hpo]; simp
    refine E_Compare1 <| E_CallAttr (few := true) (by kernel_rfl!) <| E_Local rfl <| callee_meth G 135 hS'.inst rfl <| Args_nil <| Kws_nil <| call_of_code (oc := .type "function") (od := none) (fd := fGet w) (osl := #[]) G (by kernel_rfl!) <| get_code G (hA.le (by decide)) hS' hrdy (by simp) (fun x hx => nomatch hx) fun t σ6 D6 ht0 hS6 _ _ _ _ _ => ?_
    refine E_Tuple <| Args_nil' ⟨by decide, fun t2 ht2 => eq_TT (xs := []) (ys := []) (by have := hA.units; omega) (AH.set_get (hS6.sub _ _ (AH.set_self ..)) ht2) (AH.set_self ..) ?_⟩
    refine hΦ _ _ (fun a o e => ?_) (hX'.B.tab.sub ((Sub.set ht0).trans (hS6.sub.trans (Sub.set ht2))))
    exact AH.set_get (hS6.sub _ _ (Sub.set ht0 _ _ (hX'.B.sub _ _ (sub5 _ _ e)))) ht2
end
end Mine

namespace Mine
open PySem PySem.W PyProof.Rows
section
variable {w : World} {g : Heap} {A : Around} {σ : AH} {outer : List Env} {L : Addr} {m : Loc}

theorem run_call (G : Gd (KK w) g) (C : CodeHd g 220 218) (hA : AOk A 9) {ep : Env} (hfr : A.frames = some (ep :: outer)) (hep : ep.frame = some L) (hek : ep.scope.kind ≠ .module) (hF : FrOk σ outer) (ht : TabOk σ 218 qRun)
    {lb le lr lf ll lF : Addr} {begins ends row first last : List Int} {as : List Addr} {full : List (List Int)} {n : Nat}
    (hb : σ lb = some (.list (ivs begins))) (he : σ le = some (.list (ivs ends))) (hr : σ lr = some (.list (ivs row))) (hf : σ lf = some (.list (ivs first))) (hl : σ ll = some (.list (ivs last))) (hFu : σ lF = some (.list (as.map V.ref))) (hLL : LLi σ as full)
    (hP : ∀ cm cl ch ct cf cr ce, RPure ⟨cm, cl, ch, ct, cf, cr, ce, lb, le, lr, lf, ll, lF, begins, ends, row, first, last, as, full, n⟩) {Φ : V → Loc → AH → Prop}
    (hΦ : ∀ σ'', ExtP 218 σ σ'' → TabOk σ'' 218 qRun → Φ (.bool true) m σ'') :
    ACall PP w g A L (.ref 221) [.ref lb, .ref le, .ref lr, .ref lf, .ref ll, .ref lF] [] m σ Φ := by
  refine call_defCF (fd := fRun w) (oc := .type "function") (od := none) (osl := #[]) (binds := [(Str.ofString "begins", .ref lb), (Str.ofString "ends", .ref le), (Str.ofString "row", .ref lr), (Str.ofString "first", .ref lf), (Str.ofString "last", .ref ll), (Str.ofString "fullest", .ref lF)]) G hA.room (by kernel_rfl!) (by kernel_rfl!) (by kernel_rfl!) (fun pos' rs => ?_) (by kernel_rfl!) (by kernel_rfl!) (by kernel_rfl!) (fun L' cs σ₁ oF hL hoF hcs hap hoff hsub hLF hcell => ?_) (by kernel_rfl!) (by kernel_rfl!) (by kernel_rfl!)
  · obtain ⟨_, _, rfl, r0, rs⟩ := rs.c
    obtain ⟨_, _, rfl, r1, rs⟩ := rs.c
    obtain ⟨_, _, rfl, r2, rs⟩ := rs.c
    obtain ⟨_, _, rfl, r3, rs⟩ := rs.c
    obtain ⟨_, _, rfl, r4, rs⟩ := rs.c
    obtain ⟨_, _, rfl, r5, rs⟩ := rs.c
    obtain rfl := rs.n
    exact ⟨[(Str.ofString "begins", _), (Str.ofString "ends", _), (Str.ofString "row", _), (Str.ofString "first", _), (Str.ofString "last", _), (Str.ofString "fullest", _)], by kernel_rfl!, .cons r0 (.cons r1 (.cons r2 (.cons r3 (.cons r4 (.cons r5 .nil)))))⟩
  replace hcs := hcs.trans (c := [Str.ofString "high", Str.ofString "low", Str.ofString "mark", Str.ofString "last", Str.ofString "first", Str.ofString "row", Str.ofString "ends"]) (by kernel_rfl!)
  obtain ⟨c1, cs1, rfl, hcs1⟩ := cells_cons hcs
  obtain ⟨c2, cs2, rfl, hcs2⟩ := cells_cons hcs1
  obtain ⟨c3, cs3, rfl, hcs3⟩ := cells_cons hcs2
  obtain ⟨c4, cs4, rfl, hcs4⟩ := cells_cons hcs3
  obtain ⟨c5, cs5, rfl, hcs5⟩ := cells_cons hcs4
  obtain ⟨c6, cs6, rfl, hcs6⟩ := cells_cons hcs5
  obtain ⟨c7, cs7, rfl, hcs7⟩ := cells_cons hcs6
  obtain rfl := cells_nil hcs7
  have m1 : (Str.ofString "high", c1) ∈ [(Str.ofString "high", c1), (Str.ofString "low", c2), (Str.ofString "mark", c3), (Str.ofString "last", c4), (Str.ofString "first", c5), (Str.ofString "row", c6), (Str.ofString "ends", c7)] := .head _
  have m2 : (Str.ofString "low", c2) ∈ [(Str.ofString "high", c1), (Str.ofString "low", c2), (Str.ofString "mark", c3), (Str.ofString "last", c4), (Str.ofString "first", c5), (Str.ofString "row", c6), (Str.ofString "ends", c7)] := .tail _ (.head _)
  have m3 : (Str.ofString "mark", c3) ∈ [(Str.ofString "high", c1), (Str.ofString "low", c2), (Str.ofString "mark", c3), (Str.ofString "last", c4), (Str.ofString "first", c5), (Str.ofString "row", c6), (Str.ofString "ends", c7)] := .tail _ (.tail _ (.head _))
  have m4 : (Str.ofString "last", c4) ∈ [(Str.ofString "high", c1), (Str.ofString "low", c2), (Str.ofString "mark", c3), (Str.ofString "last", c4), (Str.ofString "first", c5), (Str.ofString "row", c6), (Str.ofString "ends", c7)] := .tail _ (.tail _ (.tail _ (.head _)))
  have m5 : (Str.ofString "first", c5) ∈ [(Str.ofString "high", c1), (Str.ofString "low", c2), (Str.ofString "mark", c3), (Str.ofString "last", c4), (Str.ofString "first", c5), (Str.ofString "row", c6), (Str.ofString "ends", c7)] := .tail _ (.tail _ (.tail _ (.tail _ (.head _))))
  have m6 : (Str.ofString "row", c6) ∈ [(Str.ofString "high", c1), (Str.ofString "low", c2), (Str.ofString "mark", c3), (Str.ofString "last", c4), (Str.ofString "first", c5), (Str.ofString "row", c6), (Str.ofString "ends", c7)] := .tail _ (.tail _ (.tail _ (.tail _ (.tail _ (.head _)))))
  have m7 : (Str.ofString "ends", c7) ∈ [(Str.ofString "high", c1), (Str.ofString "low", c2), (Str.ofString "mark", c3), (Str.ofString "last", c4), (Str.ofString "first", c5), (Str.ofString "row", c6), (Str.ofString "ends", c7)] := .tail _ (.tail _ (.tail _ (.tail _ (.tail _ (.tail _ (.head _))))))
  have e1 : σ₁ c1 = some (.cell none) := hcell _ m1
  have e2 : σ₁ c2 = some (.cell none) := hcell _ m2
  have e3 : σ₁ c3 = some (.cell none) := hcell _ m3
  have e4 : σ₁ c4 = some (.cell (some (.ref ll))) := hcell _ m4
  have e5 : σ₁ c5 = some (.cell (some (.ref lf))) := hcell _ m5
  have e6 : σ₁ c6 = some (.cell (some (.ref lr))) := hcell _ m6
  have e7 : σ₁ c7 = some (.cell (some (.ref le))) := hcell _ m7
  have a1 := (List.pairwise_cons.mp hap).1
  have hap2 := (List.pairwise_cons.mp hap).2
  have a2 := (List.pairwise_cons.mp hap2).1
  have hap3 := (List.pairwise_cons.mp hap2).2
  have a3 := (List.pairwise_cons.mp hap3).1
  have c12 : c1 ≠ c2 := a1 (Str.ofString "low", c2) (.head _)
  have c13 : c1 ≠ c3 := a1 (Str.ofString "mark", c3) (.tail _ (.head _))
  have c14 : c1 ≠ c4 := a1 (Str.ofString "last", c4) (.tail _ (.tail _ (.head _)))
  have c15 : c1 ≠ c5 := a1 (Str.ofString "first", c5) (.tail _ (.tail _ (.tail _ (.head _))))
  have c16 : c1 ≠ c6 := a1 (Str.ofString "row", c6) (.tail _ (.tail _ (.tail _ (.tail _ (.head _)))))
  have c17 : c1 ≠ c7 := a1 (Str.ofString "ends", c7) (.tail _ (.tail _ (.tail _ (.tail _ (.tail _ (.head _))))))
  have c23 : c2 ≠ c3 := a2 (Str.ofString "mark", c3) (.head _)
  have c24 : c2 ≠ c4 := a2 (Str.ofString "last", c4) (.tail _ (.head _))
  have c25 : c2 ≠ c5 := a2 (Str.ofString "first", c5) (.tail _ (.tail _ (.head _)))
  have c26 : c2 ≠ c6 := a2 (Str.ofString "row", c6) (.tail _ (.tail _ (.tail _ (.head _))))
  have c27 : c2 ≠ c7 := a2 (Str.ofString "ends", c7) (.tail _ (.tail _ (.tail _ (.tail _ (.head _)))))
  have c34 : c3 ≠ c4 := a3 (Str.ofString "last", c4) (.head _)
  have c35 : c3 ≠ c5 := a3 (Str.ofString "first", c5) (.tail _ (.head _))
  have c36 : c3 ≠ c6 := a3 (Str.ofString "row", c6) (.tail _ (.tail _ (.head _)))
  have c37 : c3 ≠ c7 := a3 (Str.ofString "ends", c7) (.tail _ (.tail _ (.tail _ (.head _))))
  have hA' := hA.deeper (envR w L' ⟨c3, c2, c1, c4, c5, c6, c7, lb, le, lr, lf, ll, lF, begins, ends, row, first, last, as, full, n⟩)
  obtain ⟨ts, htab, _⟩ := id ht
  have htab1 := hsub _ _ htab
  -- what stands still
  let τ : AH := (((σ₁.del c1).del c2).del c3).del 218
  have τk : ∀ a o, σ₁ a = some o → a ≠ c1 → a ≠ c2 → a ≠ c3 → a ≠ 218 → τ a = some o := fun a o e h1 h2 h3 h4 => by
    show ((((σ₁.del c1).del c2).del c3).del 218) a = _
    rw [AH.del_ne h4, AH.del_ne h3, AH.del_ne h2, AH.del_ne h1]; exact e
  have τs : Sub τ σ₁ := fun a o e => AH.del_sub _ _ _ _ (AH.del_sub _ _ _ _ (AH.del_sub _ _ _ _ (AH.del_sub _ _ _ _ e)))
  have τl : ∀ a o, σ₁ a = some o → (∀ v, o ≠ .cell v) → (∀ t, o ≠ .tab t) → τ a = some o := fun a o e h1 h2 => τk a o e (AH.ne_ob e e1 (h1 _)) (AH.ne_ob e e2 (h1 _)) (AH.ne_ob e e3 (h1 _)) (AH.ne_ob e htab1 (h2 _))
  have c218 : ∀ c v, σ₁ c = some (.cell v) → c ≠ 218 := fun c v e => AH.ne_ob e htab1 (by intro z; cases z)
  have τ1 : τ c1 = none := by
    show ((((σ₁.del c1).del c2).del c3).del 218) c1 = none
    rw [AH.del_ne (c218 _ _ e1), AH.del_ne c13, AH.del_ne c12]; exact if_pos rfl
  have τ2 : τ c2 = none := by
    show ((((σ₁.del c1).del c2).del c3).del 218) c2 = none
    rw [AH.del_ne (c218 _ _ e2), AH.del_ne c23]; exact if_pos rfl
  have τ3 : τ c3 = none := by
    show ((((σ₁.del c1).del c2).del c3).del 218) c3 = none
    rw [AH.del_ne (c218 _ _ e3)]; exact if_pos rfl
  have τt : τ 218 = none := if_pos rfl
  obtain ⟨fc, fd, fes, fn, rfl⟩ := hoF
  have τL := τl _ _ hLF (by intro v z; cases z) (by intro v z; cases z)
  have lists : ∀ a xs, σ a = some (.list xs) → τ a = some (.list xs) := fun a xs e => τl _ _ (hsub _ _ e) (by intro v z; cases z) (by intro v z; cases z)
  have hX : RX ⟨c3, c2, c1, c4, c5, c6, c7, lb, le, lr, lf, ll, lF, begins, ends, row, first, last, as, full, n⟩ τ (ep :: outer) σ₁ := by
    refine ⟨⟨τt, lists _ _ hb, lists _ _ he, lists _ _ hr, lists _ _ hf, lists _ _ hl, lists _ _ hFu, hLL.mono fun a xs _ e => lists _ _ e, τk _ _ e7 (Ne.symm c17) (Ne.symm c27) (Ne.symm c37) (c218 _ _ e7), τk _ _ e6 (Ne.symm c16) (Ne.symm c26) (Ne.symm c36) (c218 _ _ e6), τk _ _ e5 (Ne.symm c15) (Ne.symm c25) (Ne.symm c35) (c218 _ _ e5), τk _ _ e4 (Ne.symm c14) (Ne.symm c24) (Ne.symm c34) (c218 _ _ e4), fun e hm => ?_⟩, ⟨τs, ⟨_, e3⟩, ⟨_, e2⟩, ⟨_, e1⟩, ht.sub hsub⟩⟩
    rcases List.mem_cons.mp hm with rfl | hm
    · exact ⟨hek, L, fc, fd, fes, fn, hep, τL⟩
    · obtain ⟨h1, Lf, c, d, es, n, h2, h3⟩ := hF e hm
      exact ⟨h1, Lf, c, d, es, n, h2, τl _ _ (hsub _ _ h3) (by intro v z; cases z) (by intro v z; cases z)⟩
  clear_value τ
  refine run_body (R := ⟨c3, c2, c1, c4, c5, c6, c7, lb, le, lr, lf, ll, lF, begins, ends, row, first, last, as, full, n⟩) (outer := ep :: outer) G C hA' (hP ..) ?_ hX τ3 τ2 τ1 (Ne.symm c23) (Ne.symm c13) (Ne.symm c12) fun m' σ' hs htb => ?_
  · show A.frames.map _ = _
    rw [hfr]; rfl
  · refine ⟨hs _ _ τL, σ'.del L, AH.del_sub _ _, if_pos rfl, hΦ _ (fun a o ha e => ?_) ?_⟩
    · rw [AH.del_ne (AH.ne_of e hL)]
      refine hs _ _ (τk a o (hsub _ _ e) ?_ ?_ ?_ ha)
      · exact AH.ne_of e (hoff _ m1).1
      · exact AH.ne_of e (hoff _ m2).1
      · exact AH.ne_of e (hoff _ m3).1
    · obtain ⟨ts', h1, h2⟩ := htb
      have hL' := hs _ _ τL
      exact ⟨ts', (AH.del_ne (AH.ne_ob h1 hL' (by intro z; cases z))).trans h1, fun t ht => ⟨(AH.del_ne (AH.ne_ob (h2 t ht).1 hL' (by intro z; cases z))).trans (h2 t ht).1, (h2 t ht).2⟩⟩
end
end Mine

namespace Mine

theorem list_range (xs : List Int) : (List.range xs.length).map (fun i => xs.getD i 0) = xs := by
  refine List.ext_getElem (by simp) fun i h1 h2 => ?_
  rw [List.getElem_map, List.getElem_range]
  exact getD_of _ h2
theorem count_range (xs : List Int) {n : Nat} (hn : xs.length = n) (p : Int → Bool) : (xs.filter p).length = ((List.range n).filter fun j => p (xs.getD j 0)).length := by
  subst hn
  have e := list_range xs
  have : xs.filter p = ((List.range xs.length).filter fun j => p (xs.getD j 0)).map fun i => xs.getD i 0 := by
    have z := List.filter_map (p := p) (f := fun i => xs.getD i 0) (l := List.range xs.length)
    rw [e] at z
    exact z
  rw [this, List.length_map]
theorem count_not {α : Type} (l : List α) (p : α → Bool) : (l.filter p).length + (l.filter fun x => !p x).length = l.length := by
  induction l with
  | nil => rfl
  | cons x l ih =>
    cases h : p x
    · rw [List.filter_cons_of_neg (by simp [h]), List.filter_cons_of_pos (p := fun x => !p x) (by simp [h])]; simp; omega
    · rw [List.filter_cons_of_pos h, List.filter_cons_of_neg (p := fun x => !p x) (by simp [h])]; simp; omega
theorem ext_getD {xs ys : List Int} {n : Nat} (hx : xs.length = n) (hy : ys.length = n) (h : ∀ i, i < n → xs.getD i 0 = ys.getD i 0) : xs = ys := by
  refine List.ext_getElem (hx.trans hy.symm) fun i h1 h2 => ?_
  have := h i (by omega)
  rwa [getD_of _ h1, getD_of _ h2] at this
theorem getD_map {f : Int → Int} {xs : List Int} {i : Nat} (h : i < xs.length) : (xs.map f).getD i 0 = f (xs.getD i 0) := by
  rw [getD_of _ (by simpa using h), getD_of _ h]; simp
theorem beforeL_length (b e : List Int) : (beforeL b e).length = b.length := by simp [beforeL]
theorem behindL_length (b e : List Int) : (behindL b e).length = e.length := by simp [behindL]
theorem marksL_length (c : List Int) : (marksL c).length = c.length := by simp [marksL]

section
variable {n : Nat} {begins ends : List Int}
theorem before_getD (nb : begins.length = n) (ne : ends.length = n) {i : Nat} (hi : i < n) : (beforeL begins ends).getD i 0 = cF n (bOf begins) (bOf ends) i := by
  unfold beforeL cF
  rw [getD_map (by omega), bisR_count (kept_spec ends).1, ((kept_spec ends).2.filter _).length_eq, count_range ends ne]
theorem behind_getD (nb : begins.length = n) (ne : ends.length = n) {i : Nat} (hi : i < n) : (behindL begins ends).getD i 0 = cG n (bOf begins) (bOf ends) i := by
  unfold behindL cG
  rw [getD_map (by omega), bisL_count (kept_spec begins).1]
  have h1 := count_not (keptL begins) fun y => decide (y < ends.getD i 0)
  have h2 : ((keptL begins).filter fun y => !decide (y < ends.getD i 0)).length = ((List.range n).filter fun j => decide (bOf ends i ≤ bOf begins j)).length := by
    rw [((kept_spec begins).2.filter _).length_eq, count_range begins nb]
    congr 1
    refine List.filter_congr fun j _ => ?_
    show (!decide (begins.getD j 0 < ends.getD i 0)) = decide (ends.getD i 0 ≤ begins.getD j 0)
    rw [Bool.eq_iff_iff, Bool.not_eq_true', decide_eq_false_iff_not, decide_eq_true_iff, Int.not_lt]
  omega

/-- the lists of the law -/
structure PL (n : Nat) (begins ends : List Int) : Prop where
  nb : begins.length = n
  ne : ends.length = n
  pos : ∀ i, i < n → bOf begins i < bOf ends i
noncomputable abbrev negL (begins ends : List Int) : List Int := (behindL begins ends).map fun c => -c
noncomputable abbrev uFL (begins ends : List Int) : List Int := unlikeL (beforeL begins ends)
noncomputable abbrev uGL (begins ends : List Int) : List Int := unlikeL (negL begins ends)
noncomputable abbrev fsL (begins ends : List Int) : List Int := marksL (beforeL begins ends)
noncomputable abbrev lsL (begins ends : List Int) : List Int := marksL (negL begins ends)
theorem PL.bef (h : PL n begins ends) {i : Nat} (hi : i < n) : (beforeL begins ends).getD i 0 = cF n (bOf begins) (bOf ends) i := before_getD h.nb h.ne hi
theorem PL.neg (h : PL n begins ends) {i : Nat} (hi : i < n) : (negL begins ends).getD i 0 = -cG n (bOf begins) (bOf ends) i := by
  unfold negL
  rw [getD_map (by rw [behindL_length, h.ne]; exact hi), behind_getD h.nb h.ne hi]
theorem PL.lb (h : PL n begins ends) : (beforeL begins ends).length = n := (beforeL_length ..).trans h.nb
theorem PL.ln (h : PL n begins ends) : (negL begins ends).length = n := by unfold negL; rw [List.length_map, behindL_length, h.ne]
theorem PL.lf (h : PL n begins ends) : (fsL begins ends).length = n := (marksL_length _).trans h.lb
theorem PL.ll (h : PL n begins ends) : (lsL begins ends).length = n := (marksL_length _).trans h.ln
theorem PL.iv (h : PL n begins ends) : Iv n (bOf begins) (bOf ends) (uFL begins ends) (uGL begins ends) := by
  refine ⟨h.pos, (unlike_spec _).1, (unlike_spec _).1, fun c => ?_, fun c => ?_⟩
  · refine ((unlike_spec _).2 c).trans ⟨fun hc => ?_, ?_⟩
    · obtain ⟨i, hi, rfl⟩ := List.getElem_of_mem hc
      have hi' : i < n := by have := h.lb; omega
      exact ⟨i, hi', by rw [← getD_of _ hi]; exact h.bef hi'⟩
    · rintro ⟨i, hi, rfl⟩
      have hl : i < (beforeL begins ends).length := by rw [h.lb]; exact hi
      have := h.bef hi
      rw [getD_of _ hl] at this
      rw [show (((List.range n).filter fun j => decide (bOf ends j ≤ bOf begins i)).length : Int) = cF n (bOf begins) (bOf ends) i from rfl, ← this]
      exact List.getElem_mem _
  · refine ((unlike_spec _).2 c).trans ⟨fun hc => ?_, ?_⟩
    · obtain ⟨i, hi, rfl⟩ := List.getElem_of_mem hc
      have hi' : i < n := by have := h.ln; omega
      exact ⟨i, hi', by rw [← getD_of _ hi]; exact h.neg hi'⟩
    · rintro ⟨i, hi, rfl⟩
      have hl : i < (negL begins ends).length := by rw [h.ln]; exact hi
      have := h.neg hi
      rw [getD_of _ hl] at this
      rw [show -(((List.range n).filter fun j => decide (bOf ends i ≤ bOf begins j)).length : Int) = -cG n (bOf begins) (bOf ends) i from rfl, ← this]
      exact List.getElem_mem _
theorem PL.fs (h : PL n begins ends) {i : Nat} (hi : i < n) : keyOf (fsL begins ends) i = (mf n (bOf begins) (bOf ends) (uFL begins ends) i : Nat) := by
  rw [keyOf_nat]
  unfold fsL marksL mf
  rw [getD_map (by rw [h.lb]; exact hi), h.bef hi]
theorem PL.ls (h : PL n begins ends) {i : Nat} (hi : i < n) : keyOf (lsL begins ends) i = (ml n (bOf begins) (bOf ends) (uGL begins ends) i : Nat) := by
  rw [keyOf_nat]
  unfold lsL marksL ml
  rw [getD_map (by rw [h.ln]; exact hi), h.neg hi]
theorem PL.ahead (h : PL n begins ends) {i j : Nat} (hi : i < n) (hj : j < n) : keyOf ends j ≤ keyOf begins i ↔ keyOf (lsL begins ends) j < keyOf (fsL begins ends) i := by
  rw [h.fs hi, h.ls hj, keyOf_nat, keyOf_nat]
  have : ends.getD j 0 ≤ begins.getD i 0 ↔ _ := h.iv.ahead hi hj
  rw [this]
  omega

theorem nats_count (n : Nat) (p : Int → Bool) : ((nats n).filter p).length = ((List.range n).filter fun (j : Nat) => p (j : Int)).length := by
  unfold nats
  rw [List.filter_map, List.length_map]
  rfl
theorem PL.pairs (h : PL n begins ends) (i : Nat) (hi : i < n) : keyOf (beforeL begins ends) i = (((nats n).filter fun j => decide (keyOf ends j ≤ keyOf begins i)).length : Int) ∧ keyOf (behindL begins ends) i = (((nats n).filter fun j => decide (keyOf ends i ≤ keyOf begins j)).length : Int) ∧
      (nats n).filter (fun j => decide (keyOf ends j ≤ keyOf begins i)) = (nats n).filter fun j => decide (keyOf (lsL begins ends) j < keyOf (fsL begins ends) i) := by
  refine ⟨?_, ?_, ?_⟩
  · rw [keyOf_nat, h.bef hi, nats_count]
    unfold cF
    simp only [keyOf_nat]
  · rw [keyOf_nat, behind_getD h.nb h.ne hi, nats_count]
    unfold cG
    simp only [keyOf_nat]
  · refine filter_ext_mem fun x hx => ?_
    obtain ⟨j, hj, rfl⟩ := mem_nats hx
    rw [decide_eq_true_iff, decide_eq_true_iff]
    exact h.ahead hi hj
/-- the marks, taken as stretches, tell the same counts -/
theorem PL.again (h : PL n begins ends) : beforeL (fsL begins ends) ((lsL begins ends).map fun x => x + 1) = beforeL begins ends ∧ behindL (fsL begins ends) ((lsL begins ends).map fun x => x + 1) = behindL begins ends := by
  have n1 : ((lsL begins ends).map fun x => x + 1).length = n := by rw [List.length_map]; exact h.ll
  have key : ∀ i j, i < n → j < n → (bOf ((lsL begins ends).map fun x => x + 1) j ≤ bOf (fsL begins ends) i ↔ bOf ends j ≤ bOf begins i) := fun i j hi hj => by
    have := h.ahead hi hj
    simp only [keyOf_nat] at this
    unfold bOf
    rw [this, getD_map (by rw [h.ll]; exact hj)]
    omega
  constructor
  · refine ext_getD (n := n) (by rw [beforeL_length, h.lf]) h.lb fun i hi => ?_
    rw [before_getD h.lf n1 hi, h.bef hi]
    unfold cF
    congr 2
    refine List.filter_congr fun j hj => decide_eq_decide.mpr (key i j hi (List.mem_range.mp hj))
  · refine ext_getD (n := n) (by rw [behindL_length]; exact n1) (by rw [behindL_length, h.ne]) fun i hi => ?_
    rw [behind_getD h.lf n1 hi, behind_getD h.nb h.ne hi]
    unfold cG
    congr 2
    refine List.filter_congr fun j hj => decide_eq_decide.mpr (key j i (List.mem_range.mp hj) hi)
end
end Mine

namespace Mine

theorem nats_lt (n : Nat) : (nats n).Pairwise (· < ·) := by
  unfold nats
  rw [List.pairwise_map]
  exact List.pairwise_lt_range.imp fun h => Int.ofNat_lt.mpr h
theorem nats_nodup (n : Nat) : (nats n).Nodup := (nats_lt n).imp fun h => Int.ne_of_lt h
theorem bisR_cut {row : List Int} {key : Int → Int} (h : row.Pairwise fun a b => key a ≤ key b) (x : Int) : row.filter (fun q => decide (key q ≤ x)) = row.take (bisR (row.map key) x) := by
  have hs : Srt (row.map key) := by unfold Srt; rw [List.pairwise_map]; exact h
  have hk := bisR_le (row.map key) x
  rw [List.length_map] at hk
  obtain ⟨b1, b2⟩ := bisR_parts hs x
  refine filter_cut (xs := row) (p := fun q => decide (key q ≤ x)) hk (fun i hi => ?_) fun i hi hl => ?_
  · have := b1 i hi
    rw [getD_of _ (by simp; omega)] at this
    rw [getD_of _ (by omega)]
    exact decide_eq_true (by simpa using this)
  · have := b2 i hi (by simpa using hl)
    rw [getD_of _ (by simpa using hl)] at this
    rw [getD_of _ hl]
    exact decide_eq_false (by simp at this; omega)

section
variable {n : Nat} {begins ends : List Int}
theorem PL.rowp (h : PL n begins ends) : (rowL ends).Perm (nats n) := by have := (row_spec ends).2; rwa [h.ne] at this
theorem PL.rowm (h : PL n begins ends) {p : Int} (hp : p ∈ rowL ends) : ∃ k : Nat, k < n ∧ p = k := mem_nats (h.rowp.mem_iff.mp hp)
theorem PL.run (h : PL n begins ends) : RunOk (keyOf (fsL begins ends)) (keyOf (lsL begins ends)) (rowL ends) (uFL begins ends).length := by
  have hnd : (rowL ends).Nodup := h.rowp.nodup_iff.mpr (nats_nodup n)
  have hLx := (row_spec ends).1
  refine ⟨⟨hnd, fun i p q hp hq hlt => ?_, fun p hp => ?_⟩, ?_, fun p hp => ?_, fun p hp => ?_, fun k hk => ?_⟩
  · obtain ⟨a, ha, rfl⟩ := h.rowm (List.mem_of_getElem? hp)
    obtain ⟨b, hb, rfl⟩ := h.rowm hq
    have h1 := (h.ahead ha hb).mpr hlt
    have h2 := h.pos a ha
    rw [keyOf_nat, keyOf_nat] at h1
    unfold bOf at h2
    obtain ⟨hi, ei⟩ := List.getElem?_eq_some_iff.mp hp
    obtain ⟨j, hj, ej⟩ := List.getElem_of_mem hq
    by_cases z : j < i
    · rw [← ej]
      exact List.mem_iff_getElem.mpr ⟨j, by rw [List.length_take]; omega, by simp⟩
    · exfalso
      by_cases z2 : i = j
      · subst z2
        rw [ei] at ej
        have : a = b := by omega
        subst this
        omega
      · have hl := List.pairwise_iff_getElem.mp hLx i j hi hj (by omega)
        rw [ei, ej] at hl
        unfold Lx at hl
        rw [keyOf_nat, keyOf_nat] at hl
        rcases hl with hl | hl <;> omega
  · obtain ⟨a, ha, rfl⟩ := h.rowm hp
    rw [h.fs ha, h.ls ha]
    have := h.iv.fl ha
    omega
  · refine hLx.imp_of_mem fun {a b} ma mb hab => ?_
    obtain ⟨a, ha, rfl⟩ := h.rowm ma
    obtain ⟨b, hb, rfl⟩ := h.rowm mb
    rw [h.ls ha, h.ls hb]
    have := h.iv.l_mono ha hb (by
      unfold Lx at hab
      rw [keyOf_nat, keyOf_nat] at hab
      unfold bOf
      omega)
    omega
  · obtain ⟨a, ha, rfl⟩ := h.rowm hp
    rw [h.fs ha]
    omega
  · obtain ⟨a, ha, rfl⟩ := h.rowm hp
    rw [h.ls ha]
    have := h.iv.l_lt ha
    have := h.iv.same
    omega
  · obtain ⟨j, hj, e⟩ := h.iv.l_onto (k := k) (by rw [← h.iv.same]; exact hk)
    refine ⟨(j : Int), h.rowp.mem_iff.mpr (mem_nats_iff.mpr ⟨j, hj, rfl⟩), ?_⟩
    rw [h.ls hj, e]
theorem PL.prd (h : PL n begins ends) {p : Int} (hp : p ∈ rowL ends) : (rowL ends).take (bisR ((rowL ends).map (keyOf ends)) (keyOf begins p)) = prd (keyOf (fsL begins ends)) (keyOf (lsL begins ends)) (rowL ends) p := by
  rw [← bisR_cut ((row_spec ends).1.imp fun {a b} hab => by unfold Lx at hab; omega)]
  unfold Mine.prd
  refine filter_ext_mem fun q hq => ?_
  obtain ⟨a, ha, rfl⟩ := h.rowm hp
  obtain ⟨b, hb, rfl⟩ := h.rowm hq
  rw [decide_eq_true_iff, decide_eq_true_iff]
  exact h.ahead ha hb
theorem PL.ful (h : PL n begins ends) {k : Nat} (hk : k < (uFL begins ends).length) {pts : List Int} (hs : pts.Pairwise (· ≤ ·)) (hnd : pts.Nodup) (hm : ∀ x, x ∈ pts ↔ x ∈ rowL ends ∧ keyOf (fsL begins ends) x ≤ k ∧ (k : Int) ≤ keyOf (lsL begins ends) x) :
    ((List.range (uFL begins ends).length).map (Cq n begins ends (uFL begins ends) (uGL begins ends)))[k]? = some pts := by
  rw [List.getElem?_map, List.getElem?_range hk]
  show some (Cq n begins ends (uFL begins ends) (uGL begins ends) k) = some pts
  congr 1
  have hC : (Cq n begins ends (uFL begins ends) (uGL begins ends) k).Pairwise (· < ·) := (nats_lt n).sublist List.filter_sublist
  refine List.Perm.eq_of_pairwise (le := fun a b => a ≤ b) (fun a b _ _ h1 h2 => Int.le_antisymm h1 h2) (hC.imp fun h => Int.le_of_lt h) hs ?_
  refine (List.perm_ext_iff_of_nodup (hC.imp fun h => Int.ne_of_lt h) hnd).mpr fun x => ?_
  rw [hm x, h.rowp.mem_iff]
  constructor
  · intro hx
    obtain ⟨j, rfl⟩ := clq_mem_nat hx
    obtain ⟨hj, h1, h2⟩ := mem_clq.mp hx
    rw [h.fs hj, h.ls hj]
    exact ⟨mem_nats_iff.mpr ⟨j, hj, rfl⟩, by omega, by omega⟩
  · rintro ⟨hx, h1, h2⟩
    obtain ⟨j, hj, rfl⟩ := mem_nats hx
    rw [h.fs hj] at h1
    rw [h.ls hj] at h2
    exact mem_clq.mpr ⟨hj, by omega, by omega⟩
theorem PL.rpure (h : PL n begins ends) (hn : n ≤ 60) {full : List (List Int)} (hf : full = (List.range (uFL begins ends).length).map (Cq n begins ends (uFL begins ends) (uGL begins ends))) (cm cl ch ct cf cr ce lb le lr lf ll lF : PySem.Addr) (as : List PySem.Addr) :
    RPure ⟨cm, cl, ch, ct, cf, cr, ce, lb, le, lr, lf, ll, lF, begins, ends, rowL ends, fsL begins ends, lsL begins ends, as, full, n⟩ := by
  have hlen : full.length = (uFL begins ends).length := by rw [hf, List.length_map, List.length_range]
  have hlu : (uFL begins ends).length ≤ n := by have := unlikeL_length (beforeL begins ends); rw [h.lb] at this; exact this
  refine ⟨h.nb, h.ne, h.lf, h.ll, hn, ?_, ?_, fun y hy => ?_, ?_, fun p hp => h.prd hp, fun k pts hk hs hnd hm => ?_⟩
  · show (rowL ends).length ≤ 60
    rw [h.rowp.length_eq, nats_length]; exact hn
  · show full.length ≤ 60
    omega
  · obtain ⟨k, hk, rfl⟩ := h.rowm hy
    show (0 : Int) ≤ k ∧ (k : Int) < n
    omega
  · show RunOk _ _ _ full.length
    rw [hlen]; exact h.run
  · show full[k]? = some pts
    have hk : k < full.length := hk
    rw [hf]
    exact h.ful (by omega) hs hnd hm
/-- the row is the sorted row -/
theorem PL.sorted (h : PL n begins ends) {q : Array Nat} {ps : List (Int × Int)} (hps : ps = (List.range n).map fun (i : Nat) => (ends.getD i 0, (i : Int))) (hq : Pm ps.length q) (hi : Inc (rkP ps) q ps.length) : q.toList.map (fun (i : Nat) => (i : Int)) = rowL ends := by
  have hl : ps.length = n := by rw [hps]; simp
  rw [hl] at hq hi
  have hqn : q.size = n := by
    have := hq.length_eq
    simpa using this
  refine List.Perm.eq_of_pairwise (le := Lx ends) (fun a b _ _ h1 h2 => ?_) ?_ (row_spec ends).1 ?_
  · unfold Lx at h1 h2
    omega
  · rw [List.pairwise_map, List.pairwise_iff_getElem]
    intro i j h1 h2 hij
    have h1' : i < q.size := by simpa using h1
    have h2' : j < q.size := by simpa using h2
    have := hi i j hij (by omega)
    unfold kK at this
    have g1 : q.getD i 0 = q.toList[i] := by simp [Array.getD, h1']
    have g2 : q.getD j 0 = q.toList[j] := by simp [Array.getD, h2']
    rw [g1, g2] at this
    have b1 : q.toList[i] < n := List.mem_range.mp (hq.mem_iff.mp (List.getElem_mem h1))
    have b2 : q.toList[j] < n := List.mem_range.mp (hq.mem_iff.mp (List.getElem_mem h2))
    generalize q.toList[i] = a at this b1
    generalize q.toList[j] = b at this b2
    have hd := rkP_lt ps (i := a) (j := b) (by omega) (by omega)
    rw [decide_eq_true this] at hd
    have p1 : (ps.getD a (0, 0)).1 = ends.getD a 0 := by rw [hps]; simp [b1]
    have p2 : (ps.getD b (0, 0)).1 = ends.getD b 0 := by rw [hps]; simp [b2]
    rw [p1, p2] at hd
    unfold Lx
    rw [keyOf_nat, keyOf_nat]
    by_cases z : ends.getD a 0 = ends.getD b 0
    · rw [if_pos z] at hd
      have := of_decide_eq_true hd.symm
      exact .inr ⟨z, by omega⟩
    · rw [if_neg z] at hd
      exact .inl (of_decide_eq_true hd.symm)
  · refine List.Perm.trans ?_ h.rowp.symm
    unfold nats
    exact hq.map _
end
end Mine

namespace Mine
open PySem PySem.W PyProof.Rows

noncomputable abbrev fLaw (w : World) : FuncData := fnAt (KK w) 226
noncomputable abbrev envL (w : World) (L c : Addr) : Env := envC (fLaw w) L 226 [(Str.ofString "ends", c)]

theorem ExtP.get {P : Addr} {σ σ' : AH} {ts : List (Nat × Nat × Addr)} (h : ExtP P σ σ') (hP : σ P = some (.tab ts)) {a : Addr} {o : O} (e : σ a = some o) (ho : ∀ t, o ≠ .tab t) : σ' a = some o := h _ _ (AH.ne_ob e hP (ho _)) e

section
variable {w : World} {g : Heap} {A : Around} {σ : AH} {L : Addr} {m : Loc} {env : Env}

theorem comp_pureE {elt iter : Expr} {x : Str} {ifs : List Expr} {scope : Scope} {cl : List (Str × Addr)} {Φ : V → Loc → AH → Prop}
    (h : AE PP w g A env iter m σ fun v m₁ σ₁ => ∃ (p : V → Bool) (f : V → V) (xs : List V) (D : AH → Prop), AIter PP w g A v xs D ∧ xs.length ≤ 1000 ∧ D σ₁ ∧
      (∀ (C : Addr) (i : Nat) (v : V), xs[i]? = some v → ATests PP w g A (compEnvC scope cl C env) ifs [(x, v)] σ₁ fun b m₂ σ₂ => b = p v ∧ Sub σ₁ σ₂ ∧ (b = true → AE PP w g A (compEnvC scope cl C env) elt m₂ σ₂ fun y _ σ₃ => y = f v ∧ Sub σ₁ σ₃)) ∧
      ∀ Da, σ₁ Da = none → Φ (.ref Da) m₁ (σ₁.set Da (.list ((xs.filter p).map f)))) : CompP PP w g A env elt iter x ifs scope cl m σ Φ := by
  refine AW.mono h ?_
  rintro v m₁ σ₁ ⟨p, f, xs, D, hit, hz, hD, turn, fin⟩
  refine ⟨xs, D, fun i ys σ => σ = σ₁ ∧ ys = ((xs.take i).filter p).map f, hit, by have := sizeLine_eq; omega, ⟨rfl, by simp⟩, ?_, ?_, ?_⟩
  · rintro i ys σ ⟨rfl, rfl⟩
    refine ⟨hD, ?_⟩
    rw [List.length_map]
    exact Nat.le_trans (List.length_filter_le _ _) (by rw [List.length_take]; omega)
  · rintro C i v ys σ hv ⟨rfl, rfl⟩
    refine AW.mono (turn C i v hv) ?_
    rintro b m₂ σ₂ ⟨rfl, hs, k⟩
    have e : xs.take (i + 1) = xs.take i ++ [v] := by rw [List.take_add_one, hv]; rfl
    refine ⟨fun hb => ?_, fun hb => ⟨σ, hs, rfl, ?_⟩⟩
    · refine AW.mono (k hb) ?_
      rintro y m₃ σ₃ ⟨rfl, hs'⟩
      refine ⟨σ, hs', rfl, ?_⟩
      rw [e, List.filter_append, List.filter_cons_of_pos (by simpa using hb)]
      simp
    · rw [e, List.filter_append, List.filter_cons_of_neg (by simpa using hb)]
      simp
  · rintro ys σ' Da ⟨rfl, rfl⟩ hDa
    rw [List.take_length]
    exact fin Da hDa

noncomputable def epL (ends : List Int) (n : Nat) : List (Int × Int) := (List.range n).map fun (i : Nat) => (ends.getD i 0, (i : Int))
theorem epL_at {ends : List Int} {n i : Nat} (h : i < n) : (epL ends n)[i]? = some (ends.getD i 0, (i : Int)) := by
  unfold epL; rw [List.getElem?_map, List.getElem?_range h]; rfl

theorem law_tail (G : Gd (KK w) g) (C2 : CodeHd g 220 218) (hA : AOk A 9) {c ls r lb le lr lc lF1 lL lFu a5 b5 f6 l8 : Addr} {asF : List Addr} (hfr : A.frames = some [envL w L c]) {begins ends : List Int} {n : Nat} (hPL : PL n begins ends) (ln14 : n ≤ 14) (ln6 : 6 ≤ n)
    (hc : σ c = some (.cell (some (.ref le)))) (he : σ le = some (.list (ivs ends))) (hb : σ lb = some (.list (ivs begins))) (hr : σ lr = some (.list (ivs (rowL ends)))) (t1 : TabOk σ 191 qRow) (t2 : TabOk σ 218 qRun)
    (hlc : σ lc = some (.tuple [.ref a5, .ref b5])) (hbe : σ a5 = some (.list (ivs (beforeL begins ends)))) (hbh : σ b5 = some (.list (ivs (behindL begins ends))))
    (hlF : σ lF1 = some (.tuple [.int (uFL begins ends).length, .ref f6])) (hf : σ f6 = some (.list (ivs (fsL begins ends)))) (hlL : σ lL = some (.tuple [.int (uGL begins ends).length, .ref l8])) (hl : σ l8 = some (.list (ivs (lsL begins ends))))
    (hFu : σ lFu = some (.list (asF.map V.ref))) (hLL : LLi σ asF ((List.range (uFL begins ends).length).map (Cq n begins ends (uFL begins ends) (uGL begins ends)))) {Φ : F → Loc → AH → Prop}
    (hΦ : ∀ m' σ' ts1 ts2, σ' 191 = some (.tab ts1) → σ' 218 = some (.tab ts2) → Φ (.ret (.bool true)) m' σ') :
    AXs PP w g A (envL w L c) ((bodyOf (fLaw w)).drop 8) [(Str.ofString "script", .ref ls), (Str.ofString "stretches", .ref r), (Str.ofString "begins", .ref lb), (Str.ofString "row", .ref lr), (Str.ofString "counts", .ref lc), (Str.ofString "firsts", .ref lF1), (Str.ofString "lasts", .ref lL), (Str.ofString "fullest", .ref lFu)] σ Φ := by
  have nb := hPL.nb
  have ne := hPL.ne
  have elen : (epL ends n).length = n := by unfold epL; simp
  -- the row is sorted
  refine AXs_cons <| X_If <| T_Compare1 <| E_Local rfl <| E_ListComp (cl := []) (by kernel_rfl!) <| comp_pureE <| E_Call <| E_Builtin G (by kernel_rfl!) boot_sorted (.blt _) <| Args_cons <| E_ListComp (cl := [(Str.ofString "ends", c)]) (by kernel_rfl!) <| E_Call <| E_Builtin G (by kernel_rfl!) boot_range (.typ _) <| Args_cons <| E_Call <| E_Builtin G (by kernel_rfl!) boot_len (.blt _) <| Args_cons <| E_Cell (a := c) rfl hc <| Args_nil' <| Kws_nil <| call_len_list he (Args_nil' <| Kws_nil <| call_range1 fun ρ hρ => ?_) (by rw [ivs_length]; omega)
  rw [ivs_length, ne]
  have s1 := Sub.set (p := .rng 0 n 1) hρ
  have hρ1 : (σ.set ρ (.rng 0 n 1)) ρ = _ := AH.set_self ..
  generalize (σ.set ρ (.rng 0 n 1)) = σ1 at s1 hρ1 ⊢
  refine ⟨rngL 0 1 n, _, fun i ys σ' => ∃ as, ys = as.map V.ref ∧ as.length = i ∧ TTi σ' as ((epL ends n).take i) ∧ Sub σ1 σ', iter_rng hA.handled (rng1 n (by omega)).1 (rng1 n (by omega)).2, by rw [rngL_length]; have := sizeLine_eq; omega, ⟨[], rfl, rfl, .nil, Sub.refl _⟩, ?_, ?_, ?_⟩
  · rintro i ys σ' ⟨as, rfl, hlen, _, k⟩; exact ⟨k _ _ hρ1, by rw [List.length_map]; omega⟩
  · rintro C i v ys σ' hv ⟨as, rfl, hlen, ht, k⟩
    obtain ⟨hi, rfl⟩ := rngL_at hv
    refine tests_none ⟨fun _ => ?_, fun e => absurd e (by decide)⟩
    refine E_Tuple <| Args_cons' <| E_Sub <| E_Cell (a := c) (by kernel_rfl!) (k _ _ (s1 _ _ hc)) <| E_Local rfl <| sub_key (k _ _ (s1 _ _ he)) (by omega) (by omega) <| Args_cons' <| E_Local rfl <| Args_nil' ⟨by simp, fun t ht' => ⟨_, Sub.refl _, as ++ [t], by rw [List.map_append]; rfl, by simp [hlen], ?_, k.trans (Sub.set ht')⟩⟩
    have e : (epL ends n).take (i + 1) = (epL ends n).take i ++ [(keyOf ends (i : Int), (i : Int))] := by
      rw [List.take_add_one, epL_at hi, keyOf_nat]; rfl
    rw [e]
    exact (ht.sub (Sub.set ht')).snoc (AH.set_self ..)
  rintro ys σ2 Da ⟨as, rfl, hlen, ht, k⟩ hDa
  rw [rngL_length] at hlen ht
  rw [List.take_of_length_le (by rw [elen]; exact Nat.le_refl _)] at ht
  have s3 := Sub.set (p := .list (as.map V.ref)) hDa
  have hD3 : (σ2.set Da (.list (as.map V.ref))) Da = _ := AH.set_self ..
  generalize (σ2.set Da (.list (as.map V.ref))) = σ3 at s3 hD3 ⊢
  have ht3 := ht.sub s3
  refine Args_nil' <| Kws_nil <| call_sortedT hD3 ht3 (by rw [elen]; omega) (by rw [elen]; omega) (fun i p hp => ?_) fun a4 q ha4 hq hinc => ?_
  · have hi : i < n := by rw [← elen]; exact (List.getElem?_eq_some_iff.mp hp).1
    rw [epL_at hi] at hp
    cases hp; rfl
  have hrow := hPL.sorted (ps := epL ends n) rfl hq hinc
  rw [elen] at hq
  have s4 := Sub.set (p := .list ((q.toList.map fun i => as.getD i 0).map V.ref)) ha4
  have h4 : (σ3.set a4 (.list ((q.toList.map fun i => as.getD i 0).map V.ref))) a4 = _ := AH.set_self ..
  generalize (σ3.set a4 (.list ((q.toList.map fun i => as.getD i 0).map V.ref))) = σ4 at s4 h4 ⊢
  have ht4 := ht3.sub s4
  have hql : q.toList.length = n := by rw [hq.length_eq]; simp
  have tup : ∀ i, i < n → σ4 (as.getD i 0) = some (.tuple [.int (ends.getD i 0), .int (i : Int)]) := fun i hi => by
    have e : as[i]? = some (as.getD i 0) := by simp [show i < as.length by omega]
    obtain ⟨p, hp, hpa⟩ := ht4.get e
    rw [epL_at hi] at hp
    cases hp
    exact hpa
  refine ⟨fun _ => true, fun v => .int (v.tp σ4).2, (q.toList.map fun i => as.getD i 0).map V.ref, _, iter_list hA.handled, by rw [List.length_map, List.length_map, hql]; omega, h4, fun C i v hv => ?_, fun a5' ha5' => ?_⟩
  · obtain ⟨b, hb', rfl⟩ := refs_at hv
    obtain ⟨j, hj, rfl⟩ := List.mem_map.mp (List.mem_of_getElem? hb')
    have hjn : j < n := List.mem_range.mp (hq.mem_iff.mp hj)
    have hpa := tup j hjn
    refine tests_none ⟨rfl, Sub.refl _, fun _ => ?_⟩
    refine E_Sub <| E_Local rfl <| E_Int <| sub_tuple (k := 1) hpa (by decide) rfl ⟨?_, Sub.refl _⟩
    show V.int (j : Int) = V.int ((V.ref (as.getD j 0)).tp σ4).2
    rw [tp_of (p := (ends.getD j 0, (j : Int))) hpa]
  have el : (((q.toList.map fun i => as.getD i 0).map V.ref).filter fun _ => true).map (fun v => V.int (v.tp σ4).2) = ivs (rowL ends) := by
    rw [filter_true, ← hrow]
    unfold ivs
    rw [List.map_map, List.map_map, List.map_map]
    refine List.map_congr_left fun j hj => ?_
    have hjn : j < n := List.mem_range.mp (hq.mem_iff.mp hj)
    show V.int ((V.ref (as.getD j 0)).tp σ4).2 = V.int (j : Int)
    rw [tp_of (p := (ends.getD j 0, (j : Int))) (tup j hjn)]
  rw [el]
  have s5 := s1.trans (k.trans (s3.trans (s4.trans (Sub.set (p := .list (ivs (rowL ends))) ha5'))))
  refine ne_LL hA.unitsOk (s5 _ _ hr) (AH.set_self ..) <| tr_B ⟨fun hb => absurd hb (by simp), fun _ => AXs_nil ?_⟩
  generalize (σ4.set a5' (.list (ivs (rowL ends)))) = σ5 at s5 ⊢
  replace hc := s5 _ _ hc
  replace he := s5 _ _ he
  replace hb := s5 _ _ hb
  replace hr := s5 _ _ hr
  replace t1 := t1.sub s5
  replace t2 := t2.sub s5
  replace hlc := s5 _ _ hlc
  replace hbe := s5 _ _ hbe
  replace hbh := s5 _ _ hbh
  replace hlF := s5 _ _ hlF
  replace hf := s5 _ _ hf
  replace hlL := s5 _ _ hlL
  replace hl := s5 _ _ hl
  replace hFu := s5 _ _ hFu
  replace hLL := hLL.sub s5
  clear s5 s4 s3 k s1 ht4 ht3 ht tup el hρ1 h4 hD3
  -- as many
  have hfl : asF.length = (uFL begins ends).length := by rw [hLL.length, List.length_map, List.length_range]
  have hlu : (uFL begins ends).length ≤ n := by have := unlikeL_length (beforeL begins ends); rw [hPL.lb] at this; exact this
  refine AXs_cons <| X_If <| T_BoolOp <| all_Or <| T_Compare1 <| E_Sub <| E_Local rfl <| E_Int <| sub_tuple (k := 0) hlF (by decide) rfl <| E_Call <| E_Builtin G (by kernel_rfl!) boot_len (.blt _) <| Args_cons <| E_Local rfl <| Args_nil' <| Kws_nil <| call_len_list hFu (ne_I <| tr_B ⟨fun hb => ?_, fun _ => ?_⟩) (by rw [List.length_map]; omega)
  · rw [List.length_map, hfl] at hb; simp at hb
  refine all_Or <| T_Compare1 <| E_Sub <| E_Local rfl <| E_Int <| sub_tuple (k := 0) hlL (by decide) rfl <| E_Call <| E_Builtin G (by kernel_rfl!) boot_len (.blt _) <| Args_cons <| E_Local rfl <| Args_nil' <| Kws_nil <| call_len_list hFu (ne_I <| tr_B ⟨fun hb => ?_, fun _ => ?_⟩) (by rw [List.length_map]; omega)
  · rw [List.length_map, hfl, hPL.iv.same] at hb; simp at hb
  refine all_Or_nil ⟨fun hb => absurd hb (by decide), fun _ => AXs_nil ?_⟩
  -- pairs
  refine AXs_cons <| X_If <| T_Not <| T_Value <| E_Call <| E_Global G (by kernel_rfl!) (.ref 211) <| Args_cons <| E_Local rfl <| Args_cons' <| E_Cell (a := c) rfl hc <| Args_cons' <| E_Sub <| E_Local rfl <| E_Int <| sub_tuple (k := 0) hlc (by decide) rfl <| Args_cons' <| E_Sub <| E_Local rfl <| E_Int <| sub_tuple (k := 1) hlc (by decide) rfl <| Args_cons' <| E_Sub <| E_Local rfl <| E_Int <| sub_tuple (k := 1) hlF (by decide) rfl <| Args_cons' <| E_Sub <| E_Local rfl <| E_Int <| sub_tuple (k := 1) hlL (by decide) rfl <| Args_nil' <| Kws_nil <|
    pairs_call G (hA.le (by decide)) n hb he hbe hbh hf hl nb ne hPL.lb (by rw [behindL_length]; exact ne) hPL.lf hPL.ll (by omega) hPL.pairs fun σ6 s6 => tr_B ⟨fun hb => absurd hb (by decide), fun _ => AXs_nil ?_⟩
  replace hc := s6 _ _ hc
  replace he := s6 _ _ he
  replace hb := s6 _ _ hb
  replace hr := s6 _ _ hr
  replace t1 := t1.sub s6
  replace t2 := t2.sub s6
  replace hlc := s6 _ _ hlc
  replace hbe := s6 _ _ hbe
  replace hbh := s6 _ _ hbh
  replace hlF := s6 _ _ hlF
  replace hf := s6 _ _ hf
  replace hlL := s6 _ _ hlL
  replace hl := s6 _ _ hl
  replace hFu := s6 _ _ hFu
  replace hLL := hLL.sub s6
  clear s6
  -- the marks as stretches
  refine AXs_cons <| X_If <| T_Compare1 <| E_Call <| E_Global G (by kernel_rfl!) (.ref 201) <| Args_cons <| E_Sub <| E_Local rfl <| E_Int <| sub_tuple (k := 1) hlF (by decide) rfl <| Args_cons' <| E_ListComp (cl := []) (by kernel_rfl!) (comp_pure (fun _ => true) (fun v => .int (v.toI + 1)) <| E_Sub <| E_Local rfl <| E_Int <| sub_tuple (k := 1) hlL (by decide) rfl ⟨ivs (lsL begins ends), _, iter_list hA.handled, by rw [ivs_length, hPL.ll]; omega, hl, fun C i v hv => ?_, fun d7 hd7 => ?_⟩)
  · obtain ⟨x, hx, rfl⟩ := ivs_at hv
    exact tests_none ⟨rfl, Sub.refl _, fun _ => E_BinOp <| E_Local rfl <| E_Int <| add_I ⟨rfl, Sub.refl _⟩⟩
  rw [filter_true, ivs_map (lsL begins ends) _ (fun x => x + 1) (fun x => rfl)]
  have s7 := Sub.set (p := .list (ivs ((lsL begins ends).map fun x => x + 1))) hd7
  refine Args_nil' <| Kws_nil <| counts_call G (hA.le (by decide)) (s7 _ _ hf) (AH.set_self ..) (by rw [hPL.lf]; omega) (by rw [List.length_map, hPL.ll]; omega) fun t8 a8 b8 σ8 s8 ht8 ha8 hb8 => ?_
  replace s8 := s7.trans s8
  refine E_Local rfl <| ne_PP (by have := hA.units; omega) ht8 (s8 _ _ hlc) ha8 hb8 (s8 _ _ hbe) (s8 _ _ hbh) <| tr_B ⟨fun hb => absurd hb ?_, fun _ => AXs_nil ?_⟩
  · rw [hPL.again.1, hPL.again.2]; simp
  replace hc := s8 _ _ hc
  replace he := s8 _ _ he
  replace hb := s8 _ _ hb
  replace hr := s8 _ _ hr
  replace t1 := t1.sub s8
  replace t2 := t2.sub s8
  replace hlF := s8 _ _ hlF
  replace hf := s8 _ _ hf
  replace hlL := s8 _ _ hlL
  replace hl := s8 _ _ hl
  replace hFu := s8 _ _ hFu
  replace hLL := hLL.sub s8
  clear s8 s7 hlc hbe hbh ht8 ha8 hb8
  -- the run
  refine AXs_cons <| X_Return <| E_Call <| E_Global G (by kernel_rfl!) (.ref 221) <| Args_cons <| E_Local rfl <| Args_cons' <| E_Cell (a := c) rfl hc <| Args_cons' <| E_Local rfl <| Args_cons' <| E_Sub <| E_Local rfl <| E_Int <| sub_tuple (k := 1) hlF (by decide) rfl <| Args_cons' <| E_Sub <| E_Local rfl <| E_Int <| sub_tuple (k := 1) hlL (by decide) rfl <| Args_cons' <| E_Local rfl <| Args_nil' <| Kws_nil <|
    run_call (n := n) G C2 hA hfr rfl (by rw [show (envL w L c).scope.kind = .function by kernel_rfl!]; decide) (fun e he => nomatch he) t2 hb he hr hf hl hFu hLL (fun cm cl ch ct cf cr ce => hPL.rpure (by omega) rfl cm cl ch ct cf cr ce _ _ _ _ _ _ _) fun σ9 hx t9 => ?_
  obtain ⟨ts1, h1, _⟩ := t1
  obtain ⟨ts2, h2, _⟩ := t9
  exact hΦ _ _ ts1 ts2 (hx _ _ (by decide) h1) h2
end
end Mine

namespace Mine
open PySem PySem.W PyProof.Rows

section
variable {w : World} {g : Heap} {A : Around} {σ : AH} {L : Addr} {m : Loc}

theorem TabOk.ext {P Q : Addr} {q q' : Str} {σ' : AH} (h : TabOk σ Q q) (hx : ExtP P σ σ') (hP : TabOk σ P q') (hne : Q ≠ P) : TabOk σ' Q q := by
  obtain ⟨ts, h1, h2⟩ := h
  obtain ⟨tp, hp, _⟩ := hP
  exact ⟨ts, hx _ _ hne h1, fun t ht => ⟨hx.get hp (h2 t ht).1 (by intro t z; cases z), (h2 t ht).2⟩⟩
theorem getD_fst {ps : List (Int × Int)} {i : Nat} (h : i < ps.length) : (ps.map fun p => p.1).getD i 0 = ps[i].1 := by
  rw [getD_of _ (by simpa using h)]; simp
theorem getD_snd {ps : List (Int × Int)} {i : Nat} (h : i < ps.length) : (ps.map fun p => p.2).getD i 0 = ps[i].2 := by
  rw [getD_of _ (by simpa using h)]; simp

theorem law_body (G : Gd (KK w) g) (C1 : CodeHd g 195 191) (C2 : CodeHd g 220 218) (hA : AOk A 9) {c ls : Addr} (hfr : A.frames = some [envL w L c]) {ns : List Int} (hz : ns.length ≤ 63) (hl : HasL g σ ls (ivs ns)) (hc : ∃ ov, σ c = some (.cell ov)) (ht1 : TabOk σ 191 qRow) (ht2 : TabOk σ 218 qRun) {Φ : F → Loc → AH → Prop}
    (hΦ : ∀ m' σ' ts1 ts2, σ' 191 = some (.tab ts1) → σ' 218 = some (.tab ts2) → Φ (.ret (.bool true)) m' σ') :
    AXs PP w g A (envL w L c) (bodyOf (fLaw w)) [(Str.ofString "script", .ref ls)] σ Φ := by
  refine AXs_cons <| X_AssignLocal <| E_Call <| E_Global G (by kernel_rfl!) (.ref 182) <| Args_cons <| E_Local rfl <| Args_nil' <| Kws_nil <| stretches_call G (hA.le (by decide)) hl hz fun r as σ1 s1 hr1 htt => ?_
  have hlen : as.length = (stretchL (numbersL ns)).length := htt.length
  have hlen2 : (stretchL (numbersL ns)).length ≤ 14 ∧ 6 ≤ (stretchL (numbersL ns)).length := by
    unfold stretchL numbersL
    rw [List.length_map, List.length_range, List.length_append, List.length_take]
    simp only [List.length_cons, List.length_nil]
    omega
  have hpos : ∀ p ∈ stretchL (numbersL ns), p.1 < p.2 := fun p hp => by
    unfold stretchL at hp
    obtain ⟨i, _, rfl⟩ := List.mem_map.mp hp
    dsimp only
    omega
  generalize stretchL (numbersL ns) = ps at htt hlen hlen2 hpos
  obtain ⟨ov, hov⟩ := hc
  have hov1 := s1 _ _ hov
  have t11 := ht1.sub s1
  have t21 := ht2.sub s1
  -- begins
  refine AXs_cons <| X_AssignComp (cl := []) (by kernel_rfl!) (comp_pure (fun _ => true) (fun v => .int (v.tp σ1).1) <| E_Local rfl ⟨as.map V.ref, _, iter_list hA.handled, by rw [List.length_map]; omega, hr1, fun C i v hv => ?_, fun lb hlb => ?_⟩)
  · obtain ⟨a, ha, rfl⟩ := refs_at hv
    obtain ⟨p, hp, hpa⟩ := htt.get ha
    refine tests_none ⟨rfl, Sub.refl _, fun _ => ?_⟩
    refine E_Sub <| E_Local rfl <| E_Int <| sub_tuple (k := 0) hpa (by decide) rfl ⟨?_, Sub.refl _⟩
    rw [tp_of hpa]
  rw [filter_true, htt.map fun p => p.1]
  generalize hB : ps.map (fun p => p.1) = begins
  have s2 := Sub.set (p := .list (ivs begins)) hlb
  have hb2 : (σ1.set lb (.list (ivs begins))) lb = _ := AH.set_self ..
  generalize (σ1.set lb (.list (ivs begins))) = σ2 at s2 hb2 ⊢
  -- ends
  refine AXs_cons <| X_AssignCell (a := c) rfl <| E_ListComp (cl := []) (by kernel_rfl!) (comp_pure (fun _ => true) (fun v => .int (v.tp σ2).2) <| E_Local rfl ⟨as.map V.ref, _, iter_list hA.handled, by rw [List.length_map]; omega, s2 _ _ hr1, fun C i v hv => ?_, fun le hle => ?_⟩)
  · obtain ⟨a, ha, rfl⟩ := refs_at hv
    obtain ⟨p, hp, hpa⟩ := (htt.sub s2).get ha
    refine tests_none ⟨rfl, Sub.refl _, fun _ => ?_⟩
    refine E_Sub <| E_Local rfl <| E_Int <| sub_tuple (k := 1) hpa (by decide) rfl ⟨?_, Sub.refl _⟩
    rw [tp_of hpa]
  rw [filter_true, (htt.sub s2).map fun p => p.2]
  generalize hE : ps.map (fun p => p.2) = ends
  have hPL : PL ps.length begins ends := by
    subst hB hE
    refine ⟨by simp, by simp, fun i hi => ?_⟩
    show (ps.map fun p => p.1).getD i 0 < (ps.map fun p => p.2).getD i 0
    rw [getD_fst hi, getD_snd hi]
    exact hpos _ (List.getElem_mem hi)
  refine ⟨⟨ov, AH.set_get (s2 _ _ hov1) hle⟩, ?_⟩
  have hcle : c ≠ le := AH.ne_of (s2 _ _ hov1) hle
  have h3 : ∀ a o, σ2 a = some o → a ≠ c → ((σ2.set le (.list (ivs ends))).set c (.cell (some (.ref le)))) a = some o := fun a o e ha => (AH.set_ne _ _ ha).trans (AH.set_get e hle)
  have hc3 : ((σ2.set le (.list (ivs ends))).set c (.cell (some (.ref le)))) c = some (.cell (some (.ref le))) := AH.set_self ..
  have he3 : ((σ2.set le (.list (ivs ends))).set c (.cell (some (.ref le)))) le = some (.list (ivs ends)) := (AH.set_ne _ _ (Ne.symm hcle)).trans (AH.set_self ..)
  have hb3 := h3 _ _ hb2 (AH.ne_ob hb2 (s2 _ _ hov1) (by intro z; cases z))
  have t13 : TabOk ((σ2.set le (.list (ivs ends))).set c (.cell (some (.ref le)))) 191 qRow := ((t11.sub s2).sub (Sub.set hle)).set (AH.set_get (s2 _ _ hov1) hle) rfl
  have t23 : TabOk ((σ2.set le (.list (ivs ends))).set c (.cell (some (.ref le)))) 218 qRun := ((t21.sub s2).sub (Sub.set hle)).set (AH.set_get (s2 _ _ hov1) hle) rfl
  generalize ((σ2.set le (.list (ivs ends))).set c (.cell (some (.ref le)))) = σ3 at h3 hc3 he3 hb3 t13 t23 ⊢
  clear h3 hB hE hpos htt hr1 s2 s1 hov1 hov t11 t21 hb2 hlb hle
  obtain ⟨ln6, ln14⟩ := hlen2
  generalize ps.length = n at hPL ln6 ln14 hlen
  have nb := hPL.nb
  have ne := hPL.ne
  -- row
  have l191 : le ≠ 191 := let ⟨ts, h, _⟩ := t13; AH.ne_ob he3 h (by intro z; cases z)
  refine AXs_cons <| X_AssignLocal <| E_Call <| E_Global G (by kernel_rfl!) (.ref 196) <| Args_cons <| E_Cell (a := c) rfl hc3 <| Args_nil' <| Kws_nil <| row_call G C1 (hA.le (by decide)) he3 (by omega) t13 l191 fun lr σ4 hlr hr4 hx t14 => ?_
  have t24 := t23.ext hx t13 (by decide)
  obtain ⟨ts0, hts0, _⟩ := id t13
  have hc4 := hx.get hts0 hc3 (by intro t z; cases z)
  have he4 := hx.get hts0 he3 (by intro t z; cases z)
  have hb4 := hx.get hts0 hb3 (by intro t z; cases z)
  clear hx hlr
  -- counts
  refine AXs_cons <| X_AssignLocal <| E_Call <| E_Global G (by kernel_rfl!) (.ref 201) <| Args_cons <| E_Local rfl <| Args_cons' <| E_Cell (a := c) rfl hc4 <| Args_nil' <| Kws_nil <| counts_call G (hA.le (by decide)) hb4 he4 (by omega) (by omega) fun lc a5 b5 σ5 s5 hlc5 ha5 hb5 => ?_
  -- firsts
  refine AXs_cons <| X_AssignLocal <| E_Call <| E_Global G (by kernel_rfl!) (.ref 206) <| Args_cons <| E_Sub <| E_Local rfl <| E_Int <| sub_tuple (k := 0) hlc5 (by decide) rfl <| Args_nil' <| Kws_nil <| marks_call G (hA.le (by decide)) ha5 (by rw [hPL.lb]; omega) fun lF1 f6 σ6 s6 hlF6 hf6 => ?_
  -- lasts
  refine AXs_cons <| X_AssignLocal <| E_Call <| E_Global G (by kernel_rfl!) (.ref 206) <| Args_cons <| E_ListComp (cl := []) (by kernel_rfl!) (comp_pure (fun _ => true) (fun v => .int (-v.toI)) <| E_Sub <| E_Local rfl <| E_Int <| sub_tuple (k := 1) (s6 _ _ hlc5) (by decide) rfl ⟨ivs (behindL begins ends), _, iter_list hA.handled, by rw [ivs_length, behindL_length]; omega, s6 _ _ hb5, fun C i v hv => ?_, fun d7 hd7 => ?_⟩)
  · obtain ⟨x, hx, rfl⟩ := ivs_at hv
    exact tests_none ⟨rfl, Sub.refl _, fun _ => E_Neg <| E_Local rfl ⟨x, rfl, rfl, Sub.refl _⟩⟩
  rw [filter_true, ivs_map (behindL begins ends) _ (fun x => -x) (fun x => rfl)]
  have s7 := Sub.set (p := .list (ivs (negL begins ends))) hd7
  refine Args_nil' <| Kws_nil <| marks_call G (hA.le (by decide)) (AH.set_self ..) (by rw [hPL.ln]; omega) fun lL8 l8 σ8 s8 hlL8 hl8 => ?_
  replace s8 := s7.trans s8
  clear s7 hd7
  -- fullest
  have s48 := s5.trans (s6.trans s8)
  refine AXs_cons <| X_AssignLocal <| E_Call <| E_Global G (by kernel_rfl!) (.ref 216) <| Args_cons <| E_Local rfl <| Args_cons' <| E_Cell (a := c) rfl (s48 _ _ hc4) <| Args_nil' <| Kws_nil <| fullest_call G (hA.le (by decide)) n (s48 _ _ hb4) (s48 _ _ he4) nb ne (by omega) fun lFu asF pts σ9 s9 hperm hsort hFu9 hLL9 => ?_
  rw [full_spec hPL.iv nb hperm hsort] at hLL9
  have s49 := s48.trans s9
  have hc9 := s49 _ _ hc4
  have he9 := s49 _ _ he4
  have hb9 := s49 _ _ hb4
  have hr9 := s49 _ _ hr4
  have t19 := t14.sub s49
  have t29 := t24.sub s49
  have hlc9 := (s6.trans (s8.trans s9)) _ _ hlc5
  have hbe9 := (s6.trans (s8.trans s9)) _ _ ha5
  have hbh9 := (s6.trans (s8.trans s9)) _ _ hb5
  have hlF9 := (s8.trans s9) _ _ hlF6
  have hf9 := (s8.trans s9) _ _ hf6
  have hlL9 := s9 _ _ hlL8
  have hl9 := s9 _ _ hl8
  clear s5 s6 s8 s9 s48 s49 hc4 he4 hb4 hr4 t14 t24 hlc5 ha5 hb5 hlF6 hf6 hlL8 hl8
  exact law_tail G C2 hA hfr hPL ln6 ln14 hc9 he9 hb9 hr9 t19 t29 hlc9 hbe9 hbh9 hlF9 hf9 hlL9 hl9 hFu9 hLL9 hΦ
end
end Mine

namespace Mine
open PySem PySem.W PyProof.Rows

noncomputable def goneObj : Obj := { cls := .none, data := .freed }
/-- a heap without what stands at P -/
noncomputable def cutAt (h : Heap) (P : Addr) : Heap := { h with objs := h.objs.setIfInBounds P goneObj }
theorem cut_get (h : Heap) (P b : Addr) : (cutAt h P).get? b = if b = P then none else h.get? b := by
  unfold cutAt Heap.get?
  dsimp only
  rw [Array.getElem?_setIfInBounds]
  by_cases e : P = b
  · rw [if_pos e, if_pos e.symm]
    by_cases q : P < h.objs.size
    · rw [if_pos q]; rfl
    · rw [if_neg q]
  · rw [if_neg e, if_neg (fun z => e z.symm)]
theorem cut_sub {h : Heap} {P b : Addr} {o : Obj} (e : (cutAt h P).get? b = some o) : h.get? b = some o := by
  rw [cut_get] at e
  split at e
  · cases e
  · exact e
theorem cut_keep {h : Heap} {P b : Addr} {o : Obj} (e : h.get? b = some o) (hb : b ≠ P) : (cutAt h P).get? b = some o := by
  rw [cut_get, if_neg hb]; exact e

theorem AOk_caller : AOk callerA 10 := ⟨rfl, by show 1 + claimMargin + 3 * 10 < recursionLimit; decide +kernel, by show 4 + 20 * 10 + 20 < cLine; decide +kernel⟩

section
variable {w : World} {s : Shared} {mg mb : Str → Option Value}

theorem law_top (X : (KK w).In s.heap) (hT : ∀ P ∈ [(218 : Addr), 191], s.heap.get? P = some (tabObj #[])) (hg : s.heap.Ns mainGlobals mg) (hb : s.heap.Ns builtinsNs mb) (hbb : ∀ x : Str, x ≠ "__name__" → mb x = bootBuiltins x) (hlim : s.heap.NoLimit)
    (hbm : ∃ bm ob, mg "__builtins__" = some (.ref bm) ∧ bm ≠ builtinsNs ∧ s.heap.get? bm = some ob ∧ ob.cls = .type "module" ∧ ob.dict = some builtinsNs ∧ ob.data = .plain)
    {ls : Addr} {vs : List Value} {ns : List Int} (hl : s.heap.IsList ls vs.toArray) (hI : IntsAre vs ns) (hz : ns.length ≤ 63) {Q : Value → Shared → Prop} {E : Value → Shared → Prop}
    (hQ : ∀ h' tk, OldK s.heap h' → Q (.bool true) { s with heap := h', toks := tk }) : wpAny (model PP w) callerA (call (.ref 226) [.ref ls]) Q E s := by
  have h218 : s.heap.get? 218 = some (tabObj #[]) := hT 218 (by simp)
  have h191 : s.heap.get? 191 = some (tabObj #[]) := hT 191 (by simp)
  let g : Heap := cutAt (cutAt s.heap 191) 218
  have gs : ∀ b o, g.get? b = some o → s.heap.get? b = some o := fun b o e => cut_sub (cut_sub e)
  have gk : ∀ b o, s.heap.get? b = some o → b ≠ 191 → b ≠ 218 → g.get? b = some o := fun b o e h1 h2 => cut_keep (cut_keep e h1) h2
  have g191 : g.get? 191 = none := by
    show (cutAt (cutAt s.heap 191) 218).get? 191 = none
    rw [cut_get, if_neg (by decide), cut_get, if_pos rfl]
  have g218 : g.get? 218 = none := by
    show (cutAt (cutAt s.heap 191) 218).get? 218 = none
    rw [cut_get, if_pos rfl]
  have gd : ∀ b o, s.heap.get? b = some o → o.data ≠ .fields #[] → g.get? b = some o := fun b o e h => gk b o e (fun z => by rw [z, h191] at e; cases e; exact h rfl) (fun z => by rw [z, h218] at e; cases e; exact h rfl)
  clear_value g
  have nsK : ∀ {a : Addr} {m : Str → Option Value}, s.heap.Ns a m → g.Ns a m := fun {a m} x => by
    obtain ⟨o, es, ep, e, hd, r⟩ := x
    exact ⟨o, es, ep, gd _ _ e (by rw [hd]; intro z; cases z), hd, r⟩
  have k191 : (KK w).lookup 191 = none := by kernel_rfl!
  have k218 : (KK w).lookup 218 = none := by kernel_rfl!
  have G : Gd (KK w) g := by
    refine ⟨?_, ⟨mg, nsK hg, ?_⟩, ⟨mb, nsK hb, hbb⟩, ?_⟩
    · exact fun a o e => gk _ _ (X a o e) (fun z => by rw [z, k191] at e; cases e) (fun z => by rw [z, k218] at e; cases e)
    · obtain ⟨bm, ob, h1, h2, h3, h4, h5, h6⟩ := hbm
      exact ⟨bm, ob, h1, h2, gd _ _ h3 (by rw [h6]; intro z; cases z), h4, h5, h6⟩
    · obtain ⟨mc, h1, h2⟩ := hlim
      exact ⟨mc, nsK h1, h2⟩
  have C1 : CodeHd g 195 191 := codeHd_of_K G.inK (by kernel_rfl!)
  have C2 : CodeHd g 220 218 := codeHd_of_K G.inK (by kernel_rfl!)
  have ho : (KK w).lookup 226 = some ⟨.type "function", none, .func (fLaw w), #[]⟩ := by kernel_rfl!
  have lsz191 : (191 : Nat) < s.heap.objs.size := Heap.lt_size h191
  have lsz218 : (218 : Nat) < s.heap.objs.size := Heap.lt_size h218
  have gnone : ∀ a, s.heap.get? a = none → g.get? a = none := fun a e => by
    cases q : g.get? a with
    | none => rfl
    | some o => rw [gs _ _ q] at e; cases e
  refine wpAny_call (codeAny_call_cells (fd := fLaw w) (body := bodyOf (fLaw w)) (binds := [(Str.ofString "script", .ref ls)]) AOk_caller.room (X _ _ ho) rfl hlim (codeRec_of X (by kernel_rfl!)) (by kernel_rfl!) (by kernel_rfl!) (by kernel_rfl!) ?_ (fun s₁ ic => ?_) (by kernel_rfl!) (by kernel_rfl!) (by kernel_rfl!))
  · intro x hx
    rw [List.mem_singleton.mp hx]
    exact .inl (by kernel_rfl!)
  have nm := cells_names (fLaw w).scope.names (s.heap.objs.size + 1) 0 [] [] rfl
  have henv : callEnvC (fLaw w) s.heap.objs.size 226 = envC (fLaw w) s.heap.objs.size 226 (cellsFrom (s.heap.objs.size + 1) (fLaw w).scope.names []) := rfl
  have hcs : (callEnvC (fLaw w) s.heap.objs.size 226).cells = cellsFrom (s.heap.objs.size + 1) (fLaw w).scope.names [] := rfl
  have hkn : ∀ x, (callEnvC (fLaw w) s.heap.objs.size 226).kindOf x = (fLaw w).scope.names.lookup x := fun x => rfl
  obtain ⟨⟨⟨h₁, tk₁, rfl⟩, hns, hk₁, _⟩, hcell, hap, hab⟩ := ic
  rw [hcs] at hcell hap hab
  rw [henv]
  generalize hcc : cellsFrom (s.heap.objs.size + 1) (fLaw w).scope.names [] = cs at nm hcell hap hab ⊢
  replace nm := nm.trans (c := [Str.ofString "ends"]) (by kernel_rfl!)
  obtain ⟨c, cs1, rfl, nm1⟩ := cells_cons nm
  obtain rfl := cells_nil nm1
  have hcab : s.heap.objs.size < c := hab _ _ (List.mem_singleton.mpr rfl)
  have hcN : s.heap.get? c = none := by
    cases q : s.heap.get? c with
    | none => rfl
    | some o => exact absurd (Heap.lt_size q) (Nat.not_lt.mpr (Nat.le_of_lt hcab))
  have hLN : s.heap.get? s.heap.objs.size = none := size_none _
  have hcc' : h₁.IsCell c none := by
    have := hcell (Str.ofString "ends") c (by rw [List.lookup_cons, beq_self_eq_true])
    rw [bindC_eq hkn, Option.or_none] at this
    exact this
  have c191 : c ≠ 191 := fun z => by rw [z, h191] at hcN; cases hcN
  have c218 : c ≠ 218 := fun z => by rw [z, h218] at hcN; cases hcN
  have L191 : s.heap.objs.size ≠ 191 := Nat.ne_of_gt lsz191
  have L218 : s.heap.objs.size ≠ 218 := Nat.ne_of_gt lsz218
  have Lc' : s.heap.objs.size ≠ c := Nat.ne_of_lt hcab
  let σ₁ : AH := fun a => if a = 191 then some (.tab []) else if a = 218 then some (.tab []) else if a = c then some (.cell none) else none
  have e191 : σ₁ 191 = some (.tab []) := if_pos rfl
  have e218 : σ₁ 218 = some (.tab []) := (if_neg (by decide)).trans (if_pos rfl)
  have ec : σ₁ c = some (.cell none) := (if_neg c191).trans ((if_neg c218).trans (if_pos rfl))
  have en : ∀ a, a ≠ 191 → a ≠ 218 → a ≠ c → σ₁ a = none := fun a h1 h2 h3 => (if_neg h1).trans ((if_neg h2).trans (if_neg h3))
  clear_value σ₁
  have S₁ : Sim g s.heap.objs.size [(Str.ofString "script", .ref ls)] σ₁ h₁ := by
    refine ⟨fun b o e => hk₁ _ _ (gs b o e), gnone _ hLN, en _ L191 L218 Lc', fun a e => ?_, ⟨_, hns, fun x v e => ?_⟩, fun a o e => ?_⟩
    · by_cases z1 : a = 191
      · rw [z1]; exact g191
      · by_cases z2 : a = 218
        · rw [z2]; exact g218
        · by_cases z3 : a = c
          · rw [z3]; exact gnone _ hcN
          · exact absurd (en a z1 z2 z3) e
    · rw [bindL_eq hkn, Option.or_none]
      have rb : KRs [(Str.ofString "script", .ref ls)] [(Str.ofString "script", .ref ls)] := .cons (.ref _) .nil
      refine (rb.filter fun x => isLoc (fLaw w).scope.names x).reverse.lookup x v ?_
      exact e
    · by_cases z1 : a = 191
      · rw [z1, e191] at e; cases e
        rw [z1]; exact ⟨_, hk₁ _ _ h191, rfl⟩
      · by_cases z2 : a = 218
        · rw [z2, e218] at e; cases e
          rw [z2]; exact ⟨_, hk₁ _ _ h218, rfl⟩
        · by_cases z3 : a = c
          · rw [z3, ec] at e; cases e
            obtain ⟨ob, hob, hd⟩ := hcc'
            rw [z3]; exact ⟨ob, hob, _, hd, .none⟩
          · rw [en a z1 z2 z3] at e; cases e
  have hA' : AOk (callerA.deeper (envL w s.heap.objs.size c)) 9 := AOk_caller.deeper _
  have hl' : HasL g σ₁ ls (ivs ns) := by
    obtain ⟨o, h1, h2, n, h3⟩ := hl
    refine .inr ⟨vs.toArray, ⟨o, gd _ _ h1 (by rw [h3]; intro z; cases z), h2, n, h3⟩, ?_⟩
    exact ints_are' hI
  refine law_body (L := s.heap.objs.size) (c := c) G C1 C2 hA' rfl hz hl' ⟨_, ec⟩ ⟨[], e191, fun t ht => nomatch ht⟩ ⟨[], e218, fun t ht => nomatch ht⟩ (Φ := fun fl m' σ' => fl = .ret (.bool true) ∧ ∃ ts1 ts2, σ' 191 = some (.tab ts1) ∧ σ' 218 = some (.tab ts2)) (fun m' σ' ts1 ts2 h1 h2 => ⟨rfl, ts1, ts2, h1, h2⟩) { s with heap := h₁, toks := tk₁ } _ _ S₁ fun fl fl' m' σ' h' tk p r S' T' => ?_
  obtain ⟨rfl, ts1, ts2, p1, p2⟩ := p
  cases r with
  | ret r =>
    obtain rfl := r.b
    have tabF : ∀ (P : Addr) (ts : List (Nat × Nat × Addr)), σ' P = some (.tab ts) → h'.get? P = some (tabObj (tabL ts).toArray) := fun P ts e => by
      obtain ⟨ob, h1, h2⟩ := S'.fit _ _ e
      rw [h1, h2]
    have codeT : ∀ (k P : Addr), CodeHd g k P → isCodeTable s.heap P := fun k P x => by
      obtain ⟨o, vs, file, tf, flags, tg, inF, text, tt, e1, e2, e3, e4, _⟩ := x
      exact ⟨k, o, vs, gs _ _ e1, e2, e3, e4⟩
    have keep : ∀ b o, s.heap.get? b = some o → b ≠ 191 → b ≠ 218 → h'.get? b = some o := fun b o e h1 h2 => T'.keep b o (hk₁ _ _ e) (en b h1 h2 (fun z => by rw [z, hcN] at e; cases e)) (fun z => by
      have z : b = s.heap.objs.size := z
      rw [z, hLN] at e; cases e)
    refine hQ h' tk ⟨fun b o e => ?_, fun b o e => ?_⟩
    · by_cases z1 : b = 191
      · subst z1
        rw [h191] at e; cases e
        exact .inr (.inl ⟨codeT _ _ C1, rfl, #[], (tabL ts1).toArray, rfl, by rw [tabF _ _ p1, Array.empty_append]⟩)
      · by_cases z2 : b = 218
        · subst z2
          rw [h218] at e; cases e
          exact .inr (.inl ⟨codeT _ _ C2, rfl, #[], (tabL ts2).toArray, rfl, by rw [tabF _ _ p2, Array.empty_append]⟩)
        · exact .inl (keep b o e z1 z2)
    · by_cases z1 : b = 191
      · subst z1; exact ⟨_, tabF _ _ p1⟩
      · by_cases z2 : b = 218
        · subst z2; exact ⟨_, tabF _ _ p2⟩
        · exact ⟨o, keep b o e z1 z2⟩
end

theorem cw_law : PySem.Challenge.rw_mr0338_01.Holds := by
  refine hd ?_
  intro w s₀ s₁ mg mb Gr Y fa o pm cd doc dV kV ho hdd hcd hD hmg hg args vals as hpre hlay hrd hwl hlo
  have T := Gr.T
  have X := km_in_of Y
  have hT := km_tabs_of Y
  replace hmg : mg (Str.ofString "law") = some (.ref fa) := hmg
  have h226 : mg (Str.ofString "law") = some (.ref 226) := mg_of X T.g (by kernel_rfl!)
  rw [hmg] at h226
  cases h226
  clear hdd hcd hD Y Gr hmg
  wrow_args hpre hlay hrd hwl hlo
  rename_i ns _ _ _ _ _ _ _ ls vs _ hL _ _ _ hI _ hlen _
  refine law_top (mg := mg) (mb := mb) X hT T.g T.b T.builtins T.nolimit T.bmain hL hI (by omega) fun h' tk hK => ?_
  exact ⟨.inl ⟨_, .bool true, [], rfl, fun cls => rfl, .bool true, by kernel_rfl!, fun _ => ⟨List.nodup_nil, fun a ha => nomatch ha⟩⟩, hK, rfl, .of_eq hg⟩
end Mine

theorem PySem.Challenge.cw_mr0338_01_holds : PySem.Challenge.rw_mr0338_01.Holds :=
  Mine.cw_law
