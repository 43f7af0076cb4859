import PyProof.Rows.All
import Wide.All
import OpenK.AllK
import Wide.FinOn
import KE.KStar
import KE.KSetInts
import OpenK.ZGo
import Lean
import PySem.Challenge.RW_dn0048_09
set_option Elab.async false
set_option linter.unusedVariables false
set_option linter.unusedSectionVars false
set_option linter.unusedSimpArgs false
set_option maxRecDepth 100000
set_option compiler.extract_closed false
section
set_option Elab.async false
set_option linter.unusedVariables false
set_option linter.unusedSectionVars false
set_option linter.unusedSimpArgs false
set_option maxRecDepth 100000
section
open PySem PySem.W PyProof.Rows
set_option Elab.async false
set_option linter.unusedVariables false
namespace Mine

theorem runs_toks {M : Model} {Γ : Ctx} {p : Pos} {t : Sem PySem.Fin} {fs : List Frame} {s : Shared} {e : End} {s' : Shared} (h : Runs M Γ p t fs s e s') : s.toks ≤ s'.toks := by
  induction h <;> first
    | exact Nat.le_refl _
    | assumption
    | (rename_i h1 h2; exact Nat.le_trans h1 h2)
    | (simp only [setGen_toks] at *; omega)
    | (rename_i h1; exact Nat.le_trans (Nat.le_succ _) h1)
theorem wakes_toks {M : Model} {Γ : Ctx} {p : Pos} {g : Nat} {r : Resume} {s : Shared} {res : GenResult} {s' : Shared} (h : Wakes M Γ p g r s res s') : s.toks ≤ s'.toks := by
  unfold Wakes at h
  split at h
  · exact h.elim
  · split at h
    · obtain ⟨e₁, s₁, h1, _, _, rfl⟩ := h; have := runs_toks h1; exact this
    · obtain ⟨_, rfl⟩ := h; exact Nat.le_refl _
    · obtain ⟨_, rfl⟩ := h; exact Nat.le_refl _
  · obtain ⟨e₁, s₁, h1, _, _, rfl⟩ := h; have := runs_toks h1; exact this
  · obtain ⟨_, rfl⟩ := h; exact Nat.le_refl _
  · obtain ⟨_, rfl⟩ := h; exact Nat.le_refl _
theorem wp_toks {α : Type} (M : Model) (Γ : Ctx) (n : Nat) : ∀ (t : Sem α) (Q : α → Pos → Shared → Prop) (E : Value → Pos → Shared → Prop) (p : Pos) (s : Shared), n ≤ s.toks → Sem.wp M Γ t Q E p s →
    Sem.wp M Γ t (fun a p' s' => Q a p' s' ∧ n ≤ s'.toks) (fun e p' s' => E e p' s' ∧ n ≤ s'.toks) p s := by
  intro t
  induction t with
  | pure a => intro Q E p s hn h; rw [Sem.wp] at h ⊢; exact ⟨h, hn⟩
  | raise e => intro Q E p s hn h; rw [Sem.wp] at h ⊢; exact ⟨h, hn⟩
  | unsupported w => intro Q E p s hn h; rw [Sem.wp] at h; exact h.elim
  | finish w => intro Q E p s hn h; rw [Sem.wp] at h; exact h.elim
  | rule tag k ih => intro Q E p s hn h; rw [Sem.wp] at h ⊢; exact ih _ _ _ _ _ hn h
  | «at» tag k ih => intro Q E p s hn h; rw [Sem.wp] at h ⊢; exact ih _ _ _ _ _ hn h
  | load a part k ih => intro Q E p s hn h; rw [Sem.wp] at h ⊢; obtain ⟨o, ho, h⟩ := h; exact ⟨o, ho, ih _ _ _ _ _ hn h⟩
  | update a part f k ih => intro Q E p s hn h; rw [Sem.wp] at h ⊢; exact ⟨h.1, ih _ _ _ _ _ hn h.2⟩
  | alloc o k ih => intro Q E p s hn h; rw [Sem.wp] at h ⊢; exact ih _ _ _ _ _ hn h
  | loadIfAlive a k ih => intro Q E p s hn h; rw [Sem.wp] at h ⊢; exact ih _ _ _ _ _ hn h
  | point l k ih => intro Q E p s hn h; rw [Sem.wp] at h ⊢; exact ih _ _ _ _ _ hn h
  | register a k ih => intro Q E p s hn h; rw [Sem.wp] at h; exact h.elim
  | fresh k ih => intro Q E p s hn h; rw [Sem.wp] at h ⊢; exact ih _ _ _ _ _ (Nat.le_succ_of_le hn) h
  | ask k ih => intro Q E p s hn h; rw [Sem.wp] at h ⊢; exact ih _ _ _ _ _ hn h
  | choose src n k ih => intro Q E p s hn h; rw [Sem.wp] at h ⊢; exact ⟨h.1, ih _ _ _ _ _ hn h.2⟩
  | os q l k ih => intro Q E p s hn h; rw [Sem.wp] at h ⊢; exact ih _ _ _ _ _ hn h
  | call c hd g l k ih =>
    intro Q E p s hn h; rw [Sem.wp] at h ⊢
    obtain ⟨r, s', hr, h⟩ := h
    exact ⟨r, s', hr, ih _ _ _ _ _ (Nat.le_trans hn (runs_toks hr)) h⟩
  | handled own k ih => intro Q E p s hn h; rw [Sem.wp] at h ⊢; exact ih _ _ _ _ _ hn h
  | newGen c k ih => intro Q E p s hn h; rw [Sem.wp] at h ⊢; exact ih _ _ _ _ _ hn h
  | genState g k ih => intro Q E p s hn h; rw [Sem.wp] at h ⊢; obtain ⟨st, hst, h⟩ := h; exact ⟨st, hst, ih _ _ _ _ _ hn h⟩
  | resume g r l k ih => intro Q E p s hn h; rw [Sem.wp] at h ⊢; obtain ⟨res, s', hw, h⟩ := h; exact ⟨res, s', hw, ih _ _ _ _ _ (Nat.le_trans hn (wakes_toks hw)) h⟩
  | yield v g l k ih => intro Q E p s hn h; rw [Sem.wp] at h; exact h.elim
  | stack k ih => intro Q E p s hn h; rw [Sem.wp] at h ⊢; exact ih _ _ _ _ _ hn h
  | fork c k ih => intro Q E p s hn h; rw [Sem.wp] at h; exact h.elim
  | thread k ih => intro Q E p s hn h; rw [Sem.wp] at h ⊢; exact ih _ _ _ _ _ hn h
  | await a tk d l k ih => intro Q E p s hn h; rw [Sem.wp] at h; exact h.elim
theorem wpAny_toks {α : Type} {M : Model} {A : Around} {t : Sem α} {Q : α → Shared → Prop} {E : Value → Shared → Prop} {s : Shared} (h : wpAny M A t Q E s) :
    wpAny M A t (fun a s' => Q a s' ∧ s.toks ≤ s'.toks) (fun e s' => E e s' ∧ s.toks ≤ s'.toks) s := fun Γ p hΓ => wp_toks M Γ s.toks t _ _ p s (Nat.le_refl _) (h Γ p hΓ)
theorem newFunctionEnv_cells_toks {M : Model} {A : Around} {E : Value → Shared → Prop} {s : Shared} {scope : Scope} {globals : Addr} {binds : List (Str × Value)} {qual : Str} {func : Option Addr} {code : Value} {builtins : Addr} {Q : Env → Shared → Prop}
    (hk : scope.kind = .function)
    (hkind : ∀ x ∈ binds, scope.names.lookup x.1 = some .local ∨ (scope.names.lookup x.1 = some .cell ∧ ((cellsFrom (s.heap.objs.size + 1) scope.names []).lookup x.1).isSome = true))
    (hQ : ∀ env, env = newEnv scope s.heap.objs.size globals (cellsFrom (s.heap.objs.size + 1) scope.names []) qual func code none builtins →
      ∀ s', InCallC s env.locals (bindL env.kindOf binds fun _ => none) env.cells (bindC env.kindOf binds fun _ => none) s' → s.toks ≤ s'.toks → Q env s') :
    wpAny M A (newFunctionEnv scope globals [] binds qual func code none builtins) Q E s :=
  wpAny_mono (wpAny_toks (E := E) (Q := fun env s' => env = newEnv scope s.heap.objs.size globals (cellsFrom (s.heap.objs.size + 1) scope.names []) qual func code none builtins ∧ InCallC s env.locals (bindL env.kindOf binds fun _ => none) env.cells (bindC env.kindOf binds fun _ => none) s')
    (wpAny_newFunctionEnv_cells hk hkind fun env he s' hin => ⟨he, hin⟩)) (fun env s' h => hQ env h.1.1 s' h.1.2 h.2) fun _ _ x => x.1
end Mine
end
section
open PySem PySem.W PyProof.Rows
set_option Elab.async false
set_option linter.unusedVariables false
namespace Mine

/-- plain values -/
inductive PV where
  | none | bool (b : Bool) | int (i : Int) | str (s : Str) (t : Tok) | ref (a : Addr) | ty (n : String) | bi (n : String) | tup (l : List PV)
  deriving Inhabited

/-- a plain list, a plain tuple -/
noncomputable def LI (h : Heap) (a : Addr) (vs : List Value) : Prop := ∃ n, h.get? a = some { cls := .type "list", dict := none, data := .seq vs.toArray n, slots := #[] }
noncomputable def TU (h : Heap) (a : Addr) (vs : List Value) : Prop := ∃ n, h.get? a = some { cls := .type "tuple", dict := none, data := .seq vs.toArray n, slots := #[] }

mutual
noncomputable def VRep (h : Heap) : PV → Value → Prop
  | .none, v => v = .none
  | .bool b, v => v = .bool b
  | .int i, v => ∃ t, v = .int i t
  | .str x t, v => v = .str x t
  | .ref a, v => v = .ref a
  | .ty n, v => v = .type n
  | .bi n, v => v = .builtin n
  | .tup l, v => ∃ a vs, v = .ref a ∧ TU h a vs ∧ VReps h l vs
noncomputable def VReps (h : Heap) : List PV → List Value → Prop
  | [], vs => vs = []
  | p :: ps, vs => ∃ v r, vs = v :: r ∧ VRep h p v ∧ VReps h ps r
end

noncomputable def Keeps (h h' : Heap) : Prop := ∀ a vs, TU h a vs → TU h' a vs
theorem Keeps.refl (h : Heap) : Keeps h h := fun _ _ x => x
theorem Keeps.trans {h₁ h₂ h₃ : Heap} (x : Keeps h₁ h₂) (y : Keeps h₂ h₃) : Keeps h₁ h₃ := fun a vs e => y a vs (x a vs e)

mutual
theorem VRep.mono {h h' : Heap} (k : Keeps h h') : ∀ {p : PV} {v : Value}, VRep h p v → VRep h' p v
  | .none, _, x | .bool _, _, x | .int _, _, x | .str _ _, _, x | .ref _, _, x | .ty _, _, x | .bi _, _, x => by simpa only [VRep] using x
  | .tup l, v, x => by
    simp only [VRep] at x ⊢
    obtain ⟨a, vs, e, ht, hr⟩ := x
    exact ⟨a, vs, e, k _ _ ht, VReps.mono k hr⟩
theorem VReps.mono {h h' : Heap} (k : Keeps h h') : ∀ {ps : List PV} {vs : List Value}, VReps h ps vs → VReps h' ps vs
  | [], _, x => by simpa only [VReps] using x
  | p :: ps, vs, x => by
    simp only [VReps] at x ⊢
    obtain ⟨v, r, e, h1, h2⟩ := x
    exact ⟨v, r, e, VRep.mono k h1, VReps.mono k h2⟩
end

theorem VReps.nil {h : Heap} : VReps h [] [] := by simp only [VReps]
theorem VReps.cons {h : Heap} {p ps v vs} (a : VRep h p v) (b : VReps h ps vs) : VReps h (p :: ps) (v :: vs) := by
  simp only [VReps]; exact ⟨v, vs, rfl, a, b⟩
theorem VReps.nil_inv {h : Heap} {vs} (x : VReps h [] vs) : vs = [] := by simpa only [VReps] using x
theorem VReps.cons_inv {h : Heap} {p ps vs} (x : VReps h (p :: ps) vs) : ∃ v r, vs = v :: r ∧ VRep h p v ∧ VReps h ps r := by simpa only [VReps] using x
theorem VReps.length {h : Heap} : ∀ {ps vs}, VReps h ps vs → vs.length = ps.length
  | [], _, x => by rw [x.nil_inv]; rfl
  | p :: ps, vs, x => by obtain ⟨v, r, rfl, _, h2⟩ := x.cons_inv; simp [h2.length]
theorem VReps.get {h : Heap} : ∀ {ps vs}, VReps h ps vs → ∀ (i : Nat) (p : PV), ps[i]? = some p → ∃ v, vs[i]? = some v ∧ VRep h p v
  | [], _, _, i, p, e => by simp at e
  | q :: ps, vs, x, i, p, e => by
    obtain ⟨v, r, rfl, h1, h2⟩ := x.cons_inv
    cases i with
    | zero => simp at e; subst e; exact ⟨v, by simp, h1⟩
    | succ j => simp at e; obtain ⟨v', a, b⟩ := h2.get j p e; exact ⟨v', by simpa using a, b⟩
theorem VReps.append {h : Heap} : ∀ {ps vs qs ws}, VReps h ps vs → VReps h qs ws → VReps h (ps ++ qs) (vs ++ ws)
  | [], _, _, _, x, y => by rw [x.nil_inv]; exact y
  | p :: ps, vs, _, _, x, y => by obtain ⟨v, r, rfl, h1, h2⟩ := x.cons_inv; exact .cons h1 (h2.append y)
theorem VReps.take {h : Heap} : ∀ {ps vs} (n : Nat), VReps h ps vs → VReps h (ps.take n) (vs.take n)
  | [], _, n, x => by rw [x.nil_inv]; simpa using VReps.nil
  | p :: ps, vs, n, x => by
    obtain ⟨v, r, rfl, h1, h2⟩ := x.cons_inv
    cases n with
    | zero => simpa using VReps.nil
    | succ n => exact .cons h1 (h2.take n)
theorem VReps.drop {h : Heap} : ∀ {ps vs} (n : Nat), VReps h ps vs → VReps h (ps.drop n) (vs.drop n)
  | [], _, n, x => by rw [x.nil_inv]; simpa using VReps.nil
  | p :: ps, vs, n, x => by
    obtain ⟨v, r, rfl, h1, h2⟩ := x.cons_inv
    cases n with
    | zero => exact .cons h1 h2
    | succ n => exact h2.drop n
theorem VReps.set {h : Heap} : ∀ {ps vs} (n : Nat) {p v}, VReps h ps vs → VRep h p v → VReps h (ps.set n p) (vs.set n v)
  | [], _, n, _, _, x, _ => by rw [x.nil_inv]; simpa using VReps.nil
  | q :: ps, vs, n, p, v, x, y => by
    obtain ⟨v', r, rfl, h1, h2⟩ := x.cons_inv
    cases n with
    | zero => exact .cons y h2
    | succ n => exact .cons h1 (h2.set n y)
theorem VReps.of_forall {h : Heap} : ∀ {ps : List PV} {vs : List Value}, vs.length = ps.length → (∀ (i : Nat) p v, ps[i]? = some p → vs[i]? = some v → VRep h p v) → VReps h ps vs
  | [], vs, hl, _ => by rw [List.length_eq_zero_iff.mp hl]; exact .nil
  | p :: ps, [], hl, _ => by simp at hl
  | p :: ps, v :: vs, hl, f => .cons (f 0 p v (by simp) (by simp)) (.of_forall (by simpa using hl) fun i q w a b => f (i + 1) q w (by simpa using a) (by simpa using b))

/-- what a thing told by a relation is -/
inductive Lab where
  | no
  | attrs (l : List (Str × PV))
  | slots (C : Addr) (l : List PV)
  | idict (l : List (Int × PV))
  | iset (l : List Int)
/-- a thing told of by what holds of its object; more may come to the heap -/
structure ORel where
  R : Heap → Obj → Prop
  mono : ∀ h h' o, Keeps h h' → R h o → R h' o
  nt : ∀ h o, R h o → ∀ vs n, o ≠ { cls := .type "tuple", dict := none, data := .seq vs n, slots := #[] }
  lab : Lab := .no
/-- things that the call has made -/
inductive AObj where
  | list (l : List PV)
  | rlist (l : List PV)
  | cell (v : Option PV)
  | range (a b c : Int)
  | raw (o : Obj)
  | own (r : ORel)

noncomputable def OptRep (h : Heap) : Option PV → Option Value → Prop
  | none, v => v = none
  | some p, v => ∃ x, v = some x ∧ VRep h p x

noncomputable def ORep (base h : Heap) (a : Addr) : AObj → Prop
  | .list l => base.get? a = none ∧ ∃ vs, LI h a vs ∧ VReps h l vs
  | .rlist l => ∃ vs, LI h a vs ∧ VReps h l vs
  | .cell v => base.get? a = none ∧ ∃ x, h.IsCell a x ∧ OptRep h v x
  | .range x y z => base.get? a = none ∧ ∃ t u v, IsRange h a x y z t u v
  | .raw o => base.get? a = none ∧ h.get? a = some o ∧ o.cls ≠ .type "tuple"
  | .own r => base.get? a = none ∧ ∃ o, h.get? a = some o ∧ r.R h o

noncomputable abbrev AHeap := Addr → Option AObj
noncomputable def AHeap.set (σ : AHeap) (a : Addr) (o : AObj) : AHeap := fun b => if b = a then some o else σ b
noncomputable def AHeap.del (σ : AHeap) (a : Addr) : AHeap := fun b => if b = a then none else σ b
@[simp] theorem AHeap.set_same (σ : AHeap) (a : Addr) (o : AObj) : (σ.set a o) a = some o := by simp [AHeap.set]
theorem AHeap.set_ne (σ : AHeap) {a b : Addr} (o : AObj) (h : b ≠ a) : (σ.set a o) b = σ b := by simp [AHeap.set, h]
@[simp] theorem AHeap.set_set (σ : AHeap) (a : Addr) (o o' : AObj) : (σ.set a o).set a o' = σ.set a o' := by
  funext b; simp only [AHeap.set]; split <;> rfl
theorem AHeap.set_comm (σ : AHeap) {a b : Addr} (o o' : AObj) (h : a ≠ b) : (σ.set a o).set b o' = (σ.set b o').set a o := by
  funext c; simp only [AHeap.set]; split <;> split <;> first | rfl | (subst_vars; exact absurd rfl h)
theorem AHeap.set_self (σ : AHeap) {a : Addr} {o : AObj} (h : σ a = some o) : σ.set a o = σ := by
  funext b; simp only [AHeap.set]; split
  · subst_vars; exact h.symm
  · rfl
noncomputable def AHeap.Sub (σ σ' : AHeap) : Prop := ∀ a o, σ a = some o → σ' a = some o
theorem AHeap.Sub.refl (σ : AHeap) : σ.Sub σ := fun _ _ x => x
theorem AHeap.sub_set {σ : AHeap} {a : Addr} (o : AObj) (h : σ a = none) : σ.Sub (σ.set a o) := fun b o' e => by
  rw [AHeap.set_ne]; exact e
  intro q; subst q; rw [h] at e; cases e

noncomputable abbrev Locals := List (Str × PV)
noncomputable def setL (x : Str) (p : PV) : Locals → Locals
  | [] => [(x, p)]
  | (y, q) :: r => if x = y then (x, p) :: r else (y, q) :: setL x p r
theorem lookup_setL (x y : Str) (p : PV) : ∀ μ : Locals, (setL x p μ).lookup y = if y = x then some p else μ.lookup y
  | [] => by
    simp only [setL, List.lookup_cons, List.lookup_nil]
    by_cases h : y = x
    · simp [h]
    · have : (y == x) = false := beq_eq_false_iff_ne.mpr h
      simp [this, h]
  | (z, q) :: r => by
    unfold setL
    by_cases hz : x = z
    · subst hz
      simp only [if_true, List.lookup_cons]
      by_cases h : y = x
      · simp [h]
      · have : (y == x) = false := beq_eq_false_iff_ne.mpr h
        simp [this, h]
    · simp only [hz, if_false, List.lookup_cons]
      by_cases h : y = z
      · subst h
        have hn : ¬ y = x := fun e => hz e.symm
        simp [hn]
      · have : (y == z) = false := beq_eq_false_iff_ne.mpr h
        simp only [this]
        exact lookup_setL x y p r

noncomputable abbrev St := Locals × AHeap

structure FrameOk (base h : Heap) (L : Addr) (μ : Locals) : Prop where
  new : base.get? L = none
  ns : ∃ m, h.Ns L m ∧ ∀ x p, μ.lookup x = some p → ∃ v, m x = some v ∧ VRep h p v

structure Rep (base : Heap) (os₀ : OsState) (hs : List (Addr × Obj)) (stk : List (Addr × Locals)) (σ : AHeap) (s : Shared) : Prop where
  stays : base.StaysIn s.heap
  gens : s.gens = #[]
  os : s.os = os₀
  hid : ∀ p ∈ hs, s.heap.get? p.1 = some p.2 ∧ base.get? p.1 = none ∧ σ p.1 = none ∧ p.1 ∉ stk.map (·.1) ∧ True
  frames : ∀ f ∈ stk, FrameOk base s.heap f.1 f.2 ∧ σ f.1 = none
  nodup : (stk.map (·.1)).Nodup
  hnd : (hs.map (·.1)).Nodup
  heap : ∀ a o, σ a = some o → ORep base s.heap a o
  tk : 0 < s.toks

theorem ORep.there {base h : Heap} {a : Addr} {o : AObj} (x : ORep base h a o) : ∃ ob, h.get? a = some ob ∧ True ∨ (∃ v, h.IsCell a v) := by
  cases o with
  | list l => obtain ⟨_, vs, ⟨n, h1⟩, _⟩ := x; exact ⟨_, .inl ⟨h1, trivial⟩⟩
  | rlist l => obtain ⟨vs, ⟨n, h1⟩, _⟩ := x; exact ⟨_, .inl ⟨h1, trivial⟩⟩
  | cell v => obtain ⟨_, x, h1, _⟩ := x; exact ⟨default, .inr ⟨x, h1⟩⟩
  | range x y z => obtain ⟨_, t, u, v, h1⟩ := x; exact ⟨_, .inl ⟨h1, trivial⟩⟩
  | raw o => exact ⟨o, .inl ⟨x.2.1, trivial⟩⟩
  | own r => obtain ⟨_, o, h1, h2⟩ := x; exact ⟨o, .inl ⟨h1, trivial⟩⟩
theorem ORep.lt {base h : Heap} {a : Addr} {o : AObj} (x : ORep base h a o) : a < h.objs.size := by
  obtain ⟨ob, h1 | ⟨v, ob, h1, _⟩⟩ := x.there
  · exact Heap.lt_size h1.1
  · exact Heap.lt_size h1

/-- h' keeps what h holds, but for a -/
theorem OptRep.mono {h h' : Heap} (k : Keeps h h') {o : Option PV} {v : Option Value} (x : OptRep h o v) : OptRep h' o v := by
  cases o with
  | none => exact x
  | some p => obtain ⟨y, e, r⟩ := x; exact ⟨y, e, r.mono k⟩
theorem ORep.mono {base h h' : Heap} {a : Addr} {o : AObj} (x : ORep base h a o) (k : Keeps h h') (hk : ∀ ob, h.get? a = some ob → h'.get? a = some ob) : ORep base h' a o := by
  cases o with
  | list l => obtain ⟨h0, vs, ⟨n, h1⟩, h3⟩ := x; exact ⟨h0, vs, ⟨n, hk _ h1⟩, h3.mono k⟩
  | rlist l => obtain ⟨vs, ⟨n, h1⟩, h3⟩ := x; exact ⟨vs, ⟨n, hk _ h1⟩, h3.mono k⟩
  | cell v => obtain ⟨h0, y, ⟨ob, h1, h2⟩, h3⟩ := x; exact ⟨h0, y, ⟨ob, hk _ h1, h2⟩, h3.mono k⟩
  | range x y z => obtain ⟨h0, t, u, v, h1⟩ := x; exact ⟨h0, t, u, v, hk _ h1⟩
  | raw o => exact ⟨x.1, hk _ x.2.1, x.2.2⟩
  | own r => obtain ⟨h0, o, h1, h2⟩ := x; exact ⟨h0, o, hk _ h1, r.mono _ _ _ k h2⟩
theorem FrameOk.mono {base h h' : Heap} {L : Addr} {μ : Locals} (x : FrameOk base h L μ) (k : Keeps h h') (hk : ∀ ob, h.get? L = some ob → h'.get? L = some ob) : FrameOk base h' L μ := by
  obtain ⟨h0, m, ⟨ob, es, ep, h1, h2⟩, h3⟩ := x
  exact ⟨h0, m, ⟨ob, es, ep, hk _ h1, h2⟩, fun x p e => let ⟨v, a, b⟩ := h3 x p e; ⟨v, a, b.mono k⟩⟩
theorem FrameOk.lt {base h : Heap} {L : Addr} {μ : Locals} (x : FrameOk base h L μ) : L < h.objs.size := by
  obtain ⟨_, m, hn, _⟩ := x; exact hn.lt

section
variable {base : Heap} {os₀ : OsState} {hid : List (Addr × Obj)} {stk : List (Addr × Locals)} {σ : AHeap} {s : Shared}

/-- nothing that stood has changed -/
theorem Rep.grow (R : Rep base os₀ hid stk σ s) {s' : Shared} (hk : ∀ b o, s.heap.get? b = some o → s'.heap.get? b = some o) (hg : s'.gens = s.gens) (ho : s'.os = s.os) (ht : s.toks ≤ s'.toks := by first | exact Nat.le_refl _ | exact Nat.le_succ _ | assumption | (simp only; omega)) : Rep base os₀ hid stk σ s' := by
  have k : Keeps s.heap s'.heap := fun a vs ⟨n, h1⟩ => ⟨n, hk _ _ h1⟩
  exact ⟨fun b o e => hk _ _ (R.stays b o e), hg.trans R.gens, ho.trans R.os, fun p hp => let ⟨a, b⟩ := R.hid p hp; ⟨hk _ _ a, b⟩,
    fun f hf => ⟨(R.frames f hf).1.mono k fun _ => hk _ _, (R.frames f hf).2⟩, R.nodup, R.hnd, fun a o e => (R.heap a o e).mono k fun _ => hk _ _, Nat.lt_of_lt_of_le R.tk ht⟩

theorem Rep.weaken (R : Rep base os₀ hid stk σ s) {σ' : AHeap} (h : σ'.Sub σ) : Rep base os₀ hid stk σ' s := by
  have hn : ∀ a, σ a = none → σ' a = none := fun a e => by
    cases q : σ' a with
    | none => rfl
    | some o => rw [h _ _ q] at e; cases e
  exact ⟨R.stays, R.gens, R.os, fun p hp => let ⟨a, b, c, d⟩ := R.hid p hp; ⟨a, b, hn _ c, d⟩, fun f hf => ⟨(R.frames f hf).1, hn _ (R.frames f hf).2⟩, R.nodup, R.hnd, fun a o e => R.heap a o (h a o e), R.tk⟩

theorem Rep.locals {L : Addr} {μ μ' : Locals} (R : Rep base os₀ hid ((L, μ) :: stk) σ s) (h : ∀ x p, μ'.lookup x = some p → μ.lookup x = some p) : Rep base os₀ hid ((L, μ') :: stk) σ s := by
  refine ⟨R.stays, R.gens, R.os, R.hid, fun f hf => ?_, R.nodup, R.hnd, R.heap, R.tk⟩
  rcases List.mem_cons.mp hf with rfl | hf
  · obtain ⟨⟨h0, m, hn, h3⟩, h4⟩ := R.frames (L, μ) (List.mem_cons_self ..)
    exact ⟨⟨h0, m, hn, fun x p e => h3 x p (h x p e)⟩, h4⟩
  · exact R.frames f (List.mem_cons_of_mem _ hf)

/-- an address at which nothing told stands but σ's own -/
theorem Rep.put (R : Rep base os₀ hid stk σ s) {s' : Shared} {a : Addr} {o : AObj} (hk : ∀ b ob, b ≠ a → s.heap.get? b = some ob → s'.heap.get? b = some ob)
    (hnt : ∀ vs, ¬ TU s.heap a vs) (hb : base.get? a = none) (hh : ∀ p ∈ hid, p.1 ≠ a) (hs : ∀ f ∈ stk, f.1 ≠ a)
    (hn : ORep base s'.heap a o) (hg : s'.gens = s.gens) (ho : s'.os = s.os) (ht : s.toks ≤ s'.toks := by first | exact Nat.le_refl _ | exact Nat.le_succ _ | assumption | (simp only; omega)) : Rep base os₀ hid stk (σ.set a o) s' := by
  have k : Keeps s.heap s'.heap := fun b vs ⟨n, h1⟩ => ⟨n, hk _ _ (fun e => hnt vs (e ▸ ⟨n, h1⟩)) h1⟩
  refine ⟨fun b ob e => hk _ _ (fun q => ?_) (R.stays b ob e), hg.trans R.gens, ho.trans R.os, fun p hp => ?_, fun f hf => ?_, R.nodup, R.hnd, fun b ob e => ?_, Nat.lt_of_lt_of_le R.tk ht⟩
  · subst q; rw [hb] at e; cases e
  · obtain ⟨a1, b1, c1, d1⟩ := R.hid p hp
    exact ⟨hk _ _ (hh p hp) a1, b1, by rw [AHeap.set_ne _ _ (hh p hp)]; exact c1, d1⟩
  · exact ⟨(R.frames f hf).1.mono k fun _ => hk _ _ (hs f hf), by rw [AHeap.set_ne _ _ (hs f hf)]; exact (R.frames f hf).2⟩
  · by_cases q : b = a
    · subst q; rw [AHeap.set_same] at e; cases e; exact hn
    · rw [AHeap.set_ne _ _ q] at e; exact (R.heap b ob e).mono k fun _ => hk _ _ q

theorem Rep.hid_ne (R : Rep base os₀ hid stk σ s) {a : Addr} {o : AObj} (h : σ a = some o) : ∀ p ∈ hid, p.1 ≠ a := fun p hp q => by
  have := (R.hid p hp).2.2.1; rw [q, h] at this; cases this
theorem Rep.stk_ne (R : Rep base os₀ hid stk σ s) {a : Addr} {o : AObj} (h : σ a = some o) : ∀ f ∈ stk, f.1 ≠ a := fun p hp q => by
  have := (R.frames p hp).2; rw [q, h] at this; cases this

theorem Rep.fresh_hid (R : Rep base os₀ hid stk σ s) : ∀ p ∈ hid, p.1 ≠ s.heap.objs.size := fun p hp => Nat.ne_of_lt (Heap.lt_size (R.hid p hp).1)
theorem Rep.fresh_stk (R : Rep base os₀ hid stk σ s) : ∀ f ∈ stk, f.1 ≠ s.heap.objs.size := fun p hp => Nat.ne_of_lt (R.frames p hp).1.lt
theorem Rep.fresh_σ (R : Rep base os₀ hid stk σ s) : σ s.heap.objs.size = none := by
  cases q : σ s.heap.objs.size with
  | none => rfl
  | some o => exact absurd (R.heap _ _ q).lt (Nat.lt_irrefl _)
theorem Rep.fresh_base (R : Rep base os₀ hid stk σ s) : base.get? s.heap.objs.size = none := R.stays.fresh

/-- a new object -/
theorem Rep.alloc (R : Rep base os₀ hid stk σ s) {ob : Obj} {o : AObj} (hn : ORep base (s.heap.push ob) s.heap.objs.size o) :
    Rep base os₀ hid stk (σ.set s.heap.objs.size o) { s with heap := s.heap.push ob } :=
  R.put (fun b ob' _ e => Heap.get?_push_of_some _ e) (fun vs ⟨_, h1⟩ => absurd (Heap.lt_size h1) (Nat.lt_irrefl _)) R.fresh_base R.fresh_hid R.fresh_stk hn rfl rfl

theorem Keeps.push (h : Heap) (o : Obj) : Keeps h (h.push o) := fun _ _ ⟨n, x⟩ => ⟨n, Heap.get?_push_of_some o x⟩

/-- a name stored -/
theorem Rep.store {L : Addr} {μ : Locals} (R : Rep base os₀ hid ((L, μ) :: stk) σ s) {x : Str} {p : PV} {v : Value} {h' : Heap} {tk : Nat} {m : Str → Option Value} (hm : s.heap.Ns L m)
    (hmm : ∀ x p, μ.lookup x = some p → ∃ v, m x = some v ∧ VRep s.heap p v)
    (hn : h'.Ns L (fun y => if y = x then some v else m y)) (hs : Heap.SameBut L s.heap h') (hv : VRep s.heap p v) (ht : s.toks ≤ tk := by first | exact Nat.le_refl _ | exact Nat.le_succ _) :
    Rep base os₀ hid ((L, setL x p μ) :: stk) σ { s with heap := h', toks := tk } ∧ Keeps s.heap h' := by
  have hnt : ∀ vs, ¬ TU s.heap L vs := fun vs ⟨n, h1⟩ => by
    obtain ⟨o', es, ep, h3, h4, _⟩ := hm
    rw [h1] at h3; cases h3; cases h4
  have hk : ∀ b ob, b ≠ L → s.heap.get? b = some ob → h'.get? b = some ob := fun b ob hb e => (hs.2 b hb).trans e
  have k : Keeps s.heap h' := fun b vs ⟨n, h1⟩ => ⟨n, hk _ _ (fun e => hnt vs (e ▸ ⟨n, h1⟩)) h1⟩
  have hLf := R.frames (L, μ) (List.mem_cons_self ..)
  refine ⟨⟨fun b ob e => hk _ _ (fun q => ?_) (R.stays b ob e), R.gens, R.os, fun p hp => ?_, fun f hf => ?_, R.nodup, R.hnd, fun b ob e => ?_, Nat.lt_of_lt_of_le R.tk ht⟩, k⟩
  · subst q; rw [hLf.1.new] at e; cases e
  · obtain ⟨a1, b1, c1, d1, e1⟩ := R.hid p hp
    exact ⟨hk _ _ (fun q => d1 (by simp [q])) a1, b1, c1, by simpa using d1, e1⟩
  · rcases List.mem_cons.mp hf with rfl | hf
    · refine ⟨⟨hLf.1.new, _, hn, fun y q e => ?_⟩, hLf.2⟩
      simp only [lookup_setL] at e
      by_cases hy : y = x
      · simp only [hy, if_true] at e ⊢; cases e; exact ⟨v, rfl, hv.mono k⟩
      · simp only [hy, if_false] at e ⊢
        obtain ⟨v', a, b⟩ := hmm y q e
        exact ⟨v', a, b.mono k⟩
    · have hne : f.1 ≠ L := fun q => by
        have := R.nodup; simp only [List.map_cons, List.nodup_cons] at this
        exact this.1 (q ▸ List.mem_map_of_mem hf)
      exact ⟨(R.frames f (List.mem_cons_of_mem _ hf)).1.mono k fun _ => hk _ _ hne, (R.frames f (List.mem_cons_of_mem _ hf)).2⟩
  · have hne : b ≠ L := fun q => by rw [q, hLf.2] at e; cases e
    exact (R.heap b ob e).mono k fun _ => hk _ _ hne
end
end Mine
end
section
open PySem PySem.W PyProof.Rows
set_option Elab.async false
set_option linter.unusedVariables false
namespace Mine

structure Lv where
  d : Nat
  calm : Bool

structure AOk (lv : Lv) (A : Around) (frs : List Env) (ls : List Addr) : Prop where
  frames : A.frames = some frs
  frs : ∀ e ∈ frs, e.scope.kind ≠ .module ∧ ∃ L, e.frame = some L ∧ L ∈ ls
  calm : lv.calm = true → A.handled = none
  depth : A.depth + lv.d ≤ 900
  units : A.units + 20 * lv.d ≤ 9000

structure COk (lv : Lv) (A : Around) (env : Env) (ls : List Addr) : Prop where
  ok : ∃ e₀ rest, AOk lv A (e₀ :: rest) (env.locals :: ls) ∧ e₀.frame = env.frame
  kind : env.scope.kind = .function
  globals : env.globals = mainGlobals
  builtins : env.builtins = builtinsNs

noncomputable def Apart (base : Heap) (hid : List (Addr × Obj)) (σ : AHeap) (a : Addr) : Prop := base.get? a = none ∧ σ a = none ∧ ∀ p ∈ hid, p.1 ≠ a

/-- an exception under way -/
structure ExcAt (base : Heap) (hid : List (Addr × Obj)) (σ : AHeap) (h : Heap) (x : Addr) (cls : String) : Prop where
  apart : Apart base hid σ x
  there : ∃ ob vs, h.get? x = some ob ∧ ob.cls = .type cls ∧ ob.cls ≠ .type "tuple" ∧ ob.data = .fields vs ∧
    (vs[1]? = some .none ∨ ∃ T oT ts, vs[1]? = some (.ref T) ∧ h.get? T = some oT ∧ oT.cls ≠ .type "tuple" ∧ oT.data = .fields ts ∧ 3 < ts.size ∧ T ≠ x ∧ Apart base hid σ T)
/-- an exception that bears a traceback -/
structure ExcNoted (base : Heap) (hid : List (Addr × Obj)) (σ : AHeap) (h : Heap) (x : Addr) (cls : String) : Prop where
  apart : Apart base hid σ x
  there : ∃ ob vs T oT ts, h.get? x = some ob ∧ ob.cls = .type cls ∧ ob.cls ≠ .type "tuple" ∧ ob.data = .fields vs ∧ vs[1]? = some (.ref T) ∧ h.get? T = some oT ∧ oT.cls ≠ .type "tuple" ∧ oT.data = .fields ts ∧ 3 < ts.size ∧ T ≠ x ∧ Apart base hid σ T
section
variable {base : Heap} {os₀ : OsState} {hid : List (Addr × Obj)} {stk : List (Addr × Locals)} {σ : AHeap} {s : Shared}

/-- an object that nothing tells of has changed -/
theorem Rep.aside (R : Rep base os₀ hid stk σ s) {s' : Shared} {a : Addr} (hk : ∀ b ob, b ≠ a → s.heap.get? b = some ob → s'.heap.get? b = some ob)
    (ha : Apart base hid σ a) (hnt : ∀ vs, ¬ TU s.heap a vs) (hs : ∀ f ∈ stk, f.1 ≠ a) (hg : s'.gens = s.gens := by rfl) (ho : s'.os = s.os := by rfl) (ht : s.toks ≤ s'.toks := by exact Nat.le_refl _) : Rep base os₀ hid stk σ s' := by
  have k : Keeps s.heap s'.heap := fun b vs ⟨n, h1⟩ => ⟨n, hk _ _ (fun e => hnt vs (e ▸ ⟨n, h1⟩)) h1⟩
  refine ⟨fun b ob e => hk _ _ (fun q => ?_) (R.stays b ob e), hg.trans R.gens, ho.trans R.os, fun p hp => ?_, fun f hf => ?_, R.nodup, R.hnd, fun b ob e => ?_, Nat.lt_of_lt_of_le R.tk ht⟩
  · subst q; rw [ha.1] at e; cases e
  · obtain ⟨a1, r⟩ := R.hid p hp
    exact ⟨hk _ _ (ha.2.2 p hp) a1, r⟩
  · exact ⟨(R.frames f hf).1.mono k fun _ => hk _ _ (hs f hf), (R.frames f hf).2⟩
  · exact (R.heap b ob e).mono k fun _ => hk _ _ (fun q => by rw [q, ha.2.1] at e; cases e)

theorem stk_not_fields (R : Rep base os₀ hid stk σ s) {a : Addr} {ob : Obj} {vs} (h : s.heap.get? a = some ob) (hd : ob.data = .fields vs) : ∀ f ∈ stk, f.1 ≠ a := fun f hf q => by
  obtain ⟨⟨_, m, ⟨o, es, ep, h1, h2, _⟩, _⟩, _⟩ := R.frames f hf
  rw [q, h] at h1; cases h1; rw [hd] at h2; cases h2
theorem not_tuple_of_cls {h : Heap} {a : Addr} {ob : Obj} (h1 : h.get? a = some ob) (h2 : ob.cls ≠ .type "tuple") : ∀ vs, ¬ TU h a vs := fun vs ⟨n, e⟩ => by
  rw [h1] at e; cases e; exact h2 rfl

/-- slots of frames alone have changed -/
theorem Rep.slots (R : Rep base os₀ hid stk σ s) {S : List Addr} {h' : Heap} (hs : Heap.SlotsOnly S s.heap h') (hS : ∀ b ∈ S, b ∈ stk.map (·.1)) :
    Rep base os₀ hid stk σ { s with heap := h' } ∧ Keeps s.heap h' := by
  have off : ∀ b, b ∉ stk.map (·.1) → h'.get? b = s.heap.get? b := fun b hb => hs.2.1 b fun q => hb (hS b q)
  have k : Keeps s.heap h' := fun b vs ⟨n, h1⟩ => ⟨n, by
    rw [off b]; exact h1
    intro q
    obtain ⟨f, hf, rfl⟩ := List.mem_map.mp q
    obtain ⟨⟨_, m, ⟨o, es, ep, h2, h3, _⟩, _⟩, _⟩ := R.frames f hf
    rw [h1] at h2; cases h2; cases h3⟩
  refine ⟨⟨fun b ob e => ?_, R.gens, R.os, fun p hp => ?_, fun f hf => ?_, R.nodup, R.hnd, fun b ob e => ?_, R.tk⟩, k⟩
  · show h'.get? b = some ob
    rw [off b]; exact R.stays b ob e
    intro hb; obtain ⟨f, hf, rfl⟩ := List.mem_map.mp hb
    rw [(R.frames f hf).1.new] at e; cases e
  · obtain ⟨a1, b1, c1, d1, e1⟩ := R.hid p hp
    exact ⟨by show h'.get? p.1 = _; rw [off _ d1]; exact a1, b1, c1, d1, e1⟩
  · obtain ⟨⟨h0, m, ⟨o, es, ep, h1, h2⟩, h3⟩, h4⟩ := R.frames f hf
    obtain ⟨sl, e⟩ := hs.2.2 _ _ h1
    exact ⟨⟨h0, m, ⟨_, es, ep, e, h2⟩, fun x p q => let ⟨v, a, b⟩ := h3 x p q; ⟨v, a, b.mono k⟩⟩, h4⟩
  · refine (R.heap b ob e).mono k fun o ho => ?_
    show h'.get? b = _
    rw [off b]; exact ho
    intro hb; obtain ⟨f, hf, rfl⟩ := List.mem_map.mp hb
    rw [(R.frames f hf).2] at e; cases e

theorem Rep.funFrames (R : Rep base os₀ hid stk σ s) : ∀ {frs : List Env}, (∀ e ∈ frs, e.scope.kind ≠ .module ∧ ∃ L, e.frame = some L ∧ L ∈ stk.map (·.1)) → s.heap.FunFrames base frs
  | [], _ => trivial
  | e :: r, h => by
    obtain ⟨h1, L, h2, h3⟩ := h e (List.mem_cons_self ..)
    obtain ⟨f, hf, rfl⟩ := List.mem_map.mp h3
    obtain ⟨⟨h0, m, ⟨o, es, ep, h4, h5, _⟩, _⟩, _⟩ := R.frames f hf
    exact ⟨h1, ⟨f.1, o, h2, h0, h4, fun vs q => by rw [h5] at q; cases q⟩, R.funFrames fun e' he => h e' (List.mem_cons_of_mem _ he)⟩

theorem frs_mem {frs : List Env} {ls : List Addr} (h : ∀ e ∈ frs, e.scope.kind ≠ .module ∧ ∃ L, e.frame = some L ∧ L ∈ ls) : ∀ b ∈ frs.filterMap (·.frame), b ∈ ls := fun b hb => by
  obtain ⟨e, he, hf⟩ := List.mem_filterMap.mp hb
  obtain ⟨_, L, h2, h3⟩ := h e he
  rw [h2] at hf; cases hf; exact h3

variable {M : Model} {A : Around} {E : Value → Shared → Prop} {lv : Lv} {env : Env} {frs : List Env}

/-- what comes after the frame's own note: a new traceback entry -/
theorem wp_entry (hA : A.frames = some frs) (hfrs : ∀ e ∈ frs, e.scope.kind ≠ .module ∧ ∃ L, e.frame = some L ∧ L ∈ stk.map (·.1)) (R : Rep base os₀ hid stk σ s)
    {e₀ : Env} {rest : List Env} (hfr : frs = e₀ :: rest) (he₀ : e₀.frame = env.frame) {F : Addr} (hF : env.frame = some F) {x : Addr} {ob : Obj} {vs : Array Value} {cls : String} {head : Value} {b : Bool}
    (hx : s.heap.get? x = some ob) (hc : ob.cls = .type cls) (hct : ob.cls ≠ .type "tuple") (hd : ob.data = .fields vs) (hsz : 1 < vs.size) (ha : Apart base hid σ x) {Q : Unit → Shared → Prop}
    (h : ∀ s', Rep base os₀ hid stk σ s' → ExcNoted base hid σ s'.heap x cls → Q () s') :
    wpAny M A (do setField (.ref x) 1 (← EntryCells.newEntry head (← PySem.frameOf env) .none (rawInt F) .none (← entryPlaceOf F b))) Q E s := by
  unfold PySem.frameOf
  refine wpAny_bind (wpAny_bind (wpAny_frameEnvs hA ?_))
  have hdw : (frs.dropWhile fun y => y.frame != env.frame) = e₀ :: rest := by rw [hfr]; simp [List.dropWhile, he₀]
  rw [hdw]
  unfold frameObject
  refine wpAny_bind (wpAny_bind (wpAny_readyFrames_fun (base := base) (hfr ▸ R.funFrames hfrs) fun h₁ hs₁ => wpAny_pure ?_))
  rw [he₀, hF]
  refine wpAny_pure (wpAny_bind (wpAny_entryPlaceOf fun pl hpl => ?_))
  unfold EntryCells.newEntry newFields
  refine wpAny_bind (wpAny_newObj_type ?_ (hpl.sizeOk5 _ _ _ _ _))
  obtain ⟨R₁, k₁⟩ := R.slots hs₁ (by rw [← hfr]; exact frs_mem hfrs)
  have hxs : x ∉ stk.map (·.1) := fun q => by obtain ⟨f, hf, e⟩ := List.mem_map.mp q; exact stk_not_fields R hx hd f hf e
  have hx₁ : h₁.get? x = some ob := (hs₁.2.1 x fun q => hxs (frs_mem hfrs x (by rw [hfr]; exact q))).trans hx
  generalize hO : ({ cls := Value.type "traceback", dict := none, data := Data.fields ([head, Value.ref F, Value.none, rawInt F, Value.none] ++ (if pl.isEmpty then List.replicate 6 Value.none else pl)).toArray } : Obj) = O
  have hOf : ∃ ts, O.data = .fields ts ∧ 3 < ts.size := ⟨_, by rw [← hO], by simp only [List.size_toArray, List.length_append, List.length_cons, List.length_nil]; omega⟩
  have hOc : O.cls = .type "traceback" := by rw [← hO]
  have hOfr : O.isFreed = false := by obtain ⟨ts, e, _⟩ := hOf; exact Obj.isFreed_of_fields e
  have hTx : h₁.objs.size ≠ x := Nat.ne_of_gt (Heap.lt_size hx₁)
  refine wpAny_setField (s := { s with heap := h₁.push O }) (Heap.get?_push_of_some O hx₁) hd hsz (h _ ?_ ?_)
  · have R₂ : Rep base os₀ hid stk σ { s with heap := h₁.push O } := R₁.grow (fun _ _ e => Heap.get?_push_of_some _ e) rfl rfl
    refine (R₂.aside (a := x) (fun b ob' hb e => ?_) ha (not_tuple_of_cls (Heap.get?_push_of_some O hx₁) hct) (stk_not_fields R hx hd))
    show ((h₁.push O).update x _).get? b = _
    rw [Heap.get?_update_other _ _ (Ne.symm hb)]; exact e
  · have hd₃ := Obj.data_mapFields hd (·.setIfInBounds 1 (Value.ref h₁.objs.size))
    obtain ⟨ts, e1, e2⟩ := hOf
    refine ⟨ha, _, _, h₁.objs.size, O, ts, Heap.get?_update_self _ (Heap.get?_push_of_some O hx₁) (Obj.isFreed_of_fields hd₃), by rw [Obj.cls_mapFields]; exact hc, by rw [Obj.cls_mapFields]; exact hct, hd₃, by simp [hsz], ?_, by rw [hOc]; decide, e1, e2, hTx, R₁.fresh_base, R₁.fresh_σ, R₁.fresh_hid⟩
    rw [Heap.get?_update_other _ _ (Ne.symm hTx)]; exact Heap.get?_push_size _ hOfr

theorem wp_note (hA : A.frames = some frs) (hfrs : ∀ e ∈ frs, e.scope.kind ≠ .module ∧ ∃ L, e.frame = some L ∧ L ∈ stk.map (·.1)) (R : Rep base os₀ hid stk σ s)
    {e₀ : Env} {rest : List Env} (hfr : frs = e₀ :: rest) (he₀ : e₀.frame = env.frame) {x : Addr} {cls : String} (hx : ExcAt base hid σ s.heap x cls) {Q : Unit → Shared → Prop}
    (h : ∀ s', Rep base os₀ hid stk σ s' → ExcNoted base hid σ s'.heap x cls → Q () s') : wpAny M A (noteFrame (.ref x) env) Q E s := by
  obtain ⟨F, hF⟩ : ∃ F, env.frame = some F := by
    obtain ⟨_, L, h2, _⟩ := hfrs e₀ (by rw [hfr]; exact List.mem_cons_self ..)
    exact ⟨L, he₀ ▸ h2⟩
  obtain ⟨ha, ob, vs, h1, h2, h3, h4, h5⟩ := hx
  unfold noteFrame
  simp only [hF]
  rcases h5 with h5 | ⟨T, oT, ts, k1, k2, k3, k4, k5, k6, k7⟩
  · refine wpAny_bind (wpAny_field h1 h4 h5 ?_)
    rw [if_neg (by decide)]
    exact wp_entry hA hfrs R hfr he₀ hF h1 h2 h3 h4 (Array.getElem?_eq_some_iff.mp h5).1 ha h
  · refine wpAny_bind (wpAny_field h1 h4 k1 ?_)
    rw [if_pos (show (Value.ref T != Value.none) = true from by simp)]
    refine wpAny_bind (wpAny_field k2 k4 (x := ts[3]) (by simp [k5]) ?_)
    by_cases hq : (ts[3] == rawInt F) = true
    · rw [if_pos hq]
      exact wpAny_pure (h s R ⟨ha, ob, vs, T, oT, ts, h1, h2, h3, h4, k1, k2, k3, k4, k5, k6, k7⟩)
    · rw [if_neg hq]
      refine wpAny_bind (wpAny_setField k2 k4 k5 ?_)
      have other : ∀ b, b ≠ T → (s.heap.update T (Obj.mapFields (·.setIfInBounds 3 Value.none))).get? b = s.heap.get? b := fun b hb => Heap.get?_update_other _ _ (Ne.symm hb)
      have R' := (R.aside (s' := { s with heap := s.heap.update T (Obj.mapFields (·.setIfInBounds 3 Value.none)) }) (a := T) (fun b ob' hb e => (other b hb).trans e) k7 (not_tuple_of_cls k2 k3) (stk_not_fields R k2 k4))
      exact wp_entry hA hfrs R' hfr he₀ hF ((other x (Ne.symm k6)).trans h1) h2 h3 h4 (Array.getElem?_eq_some_iff.mp k1).1 ha h

theorem wp_flight (R : Rep base os₀ hid stk σ s) {x : Addr} {cls : String} (hx : ExcNoted base hid σ s.heap x cls) {fr : Option Addr} {Q : Unit → Shared → Prop}
    (h : ∀ s', Rep base os₀ hid stk σ s' → ExcNoted base hid σ s'.heap x cls → Q () s') : wpAny M A (setFlight (.ref x) fr) Q E s := by
  obtain ⟨ha, ob, vs, T, oT, ts, h1, h2, h3, h4, k1, k2, k3, k4, k5, k6, k7⟩ := hx
  unfold setFlight
  refine wpAny_bind (wpAny_field h1 h4 k1 ?_)
  rw [if_pos (show (Value.ref T != Value.none) = true from by simp)]
  refine wpAny_setField k2 k4 k5 (h _ ?_ ?_)
  · exact (R.aside (s' := { s with heap := s.heap.update T (Obj.mapFields (·.setIfInBounds 3 (fr.elim .none fun f => rawInt f))) }) (a := T) (fun b ob' hb e => (Heap.get?_update_other _ _ (Ne.symm hb)).trans e) k7 (not_tuple_of_cls k2 k3) (stk_not_fields R k2 k4))
  · refine ⟨ha, ob, vs, T, _, _, (Heap.get?_update_other _ _ k6).trans h1, h2, h3, h4, k1, Heap.get?_update_self _ k2 (Obj.isFreed_of_fields (Obj.data_mapFields k4 _)), by rw [Obj.cls_mapFields]; exact k3, Obj.data_mapFields k4 _, by simpa using k5, k6, k7⟩

end
end Mine
end
section
open PySem PySem.W PyProof.Rows
set_option Elab.async false
set_option linter.unusedVariables false
namespace Mine

structure Gx where
  prog : Program
  w : World
  base : Heap
  os : OsState
  mg : Str → Option Value
  mb : Str → Option Value

structure Gd (G : Gx) : Prop where
  g : G.base.Ns mainGlobals G.mg
  b : G.base.Ns builtinsNs G.mb
  builtins : ∀ x : Str, x ≠ "__name__" → G.mb x = bootBuiltins x
  nolimit : G.base.NoLimit

structure Cx extends Gx where
  lv : Lv
  A : Around
  env : Env

noncomputable abbrev Cx.M (c : Cx) : Model := model c.prog c.w
noncomputable abbrev Gx.M (c : Gx) : Model := model c.prog c.w

inductive Post (c : Cx) {α β : Type} (rep : Heap → β → α → Prop) (Q : β → St → Prop) (hid : List (Addr × Obj)) (stk : List (Addr × Locals)) (h : Heap) (v : α) (s' : Shared) : Prop
  | mk (p : β) (st' : St) (r : Rep c.base c.os hid ((c.env.locals, st'.1) :: stk) st'.2 s') (hv : rep s'.heap p v) (k : Keeps h s'.heap) (q : Q p st') : Post c rep Q hid stk h v s'
theorem Post.rep {c : Cx} {α β : Type} {rep : Heap → β → α → Prop} {Q : β → St → Prop} {hid stk h v s'} (x : Post c rep Q hid stk h v s') : ∃ st' : St, Rep c.base c.os hid ((c.env.locals, st'.1) :: stk) st'.2 s' := by
  obtain ⟨p, st', r, _, _, _⟩ := x; exact ⟨st', r⟩
noncomputable def PostX (e : Value) (s' : Shared) : Prop :=
  False

/-- the tree t, run from st, ends as Q says or raises as  says -/
noncomputable def WT (c : Cx) {α β : Type} (rep : Heap → β → α → Prop) (t : Sem α) (Q : β → St → Prop) (st : St) : Prop :=
  ∀ hid stk s, COk c.lv c.A c.env (stk.map (·.1)) → Rep c.base c.os hid ((c.env.locals, st.1) :: stk) st.2 s → wpAny c.M c.A t (Post c rep Q hid stk s.heap) PostX s
/-- the same of a tree over values -/
noncomputable def W1 (c : Cx) {α β : Type} (rep : Heap → β → α → Prop) (p : PV) (t : Value → Sem α) (Q : β → St → Prop) (st : St) : Prop :=
  ∀ v hid stk s, COk c.lv c.A c.env (stk.map (·.1)) → Rep c.base c.os hid ((c.env.locals, st.1) :: stk) st.2 s → VRep s.heap p v → wpAny c.M c.A (t v) (Post c rep Q hid stk s.heap) PostX s
noncomputable def W2 (c : Cx) {α β : Type} (rep : Heap → β → α → Prop) (p q : PV) (t : Value → Value → Sem α) (Q : β → St → Prop) (st : St) : Prop :=
  ∀ v u hid stk s, COk c.lv c.A c.env (stk.map (·.1)) → Rep c.base c.os hid ((c.env.locals, st.1) :: stk) st.2 s → VRep s.heap p v → VRep s.heap q u → wpAny c.M c.A (t v u) (Post c rep Q hid stk s.heap) PostX s
noncomputable def WN (c : Cx) {α β : Type} (rep : Heap → β → α → Prop) (ps : List PV) (t : List Value → Sem α) (Q : β → St → Prop) (st : St) : Prop :=
  ∀ vs hid stk s, COk c.lv c.A c.env (stk.map (·.1)) → Rep c.base c.os hid ((c.env.locals, st.1) :: stk) st.2 s → VReps s.heap ps vs → wpAny c.M c.A (t vs) (Post c rep Q hid stk s.heap) PostX s

inductive AFlow where
  | next | brk | cont
  | ret (p : PV)
noncomputable def FlowRep (h : Heap) : AFlow → Flow → Prop
  | .next, f => f = .next
  | .brk, f => f = .brk
  | .cont, f => f = .cont
  | .ret p, f => ∃ v, f = .ret v ∧ VRep h p v
noncomputable def BoolRep (_ : Heap) (b : Bool) (v : Bool) : Prop := v = b
noncomputable def UnitRep (_ : Heap) (_ : Unit) (_ : Unit) : Prop := True

noncomputable abbrev WE (c : Cx) (e : Expr) (Q : PV → St → Prop) (st : St) : Prop := WT c VRep (eval e c.env)  Q st
noncomputable abbrev WC (c : Cx) (e : Expr) (Q : Bool → St → Prop) (st : St) : Prop := WT c BoolRep (isTrue e c.env (eval e c.env))  Q st
noncomputable abbrev WS (c : Cx) (l : List Stmt) (Q : AFlow → St → Prop) (st : St) : Prop := WT c FlowRep (execs l c.env)  Q st
noncomputable abbrev WX (c : Cx) (l : Stmt) (Q : AFlow → St → Prop) (st : St) : Prop := WT c FlowRep (exec l c.env)  Q st
noncomputable abbrev WA (c : Cx) (pos : Pos) (l : List Expr) (Q : List PV → St → Prop) (st : St) : Prop := WT c VReps (spliced (backTo pos (starEach l c.env)))  Q st

section
variable {c : Cx} {st : St} {α β : Type} {rep : Heap → β → α → Prop} {Q : β → St → Prop}

theorem Post.keeps {c : Cx} {hid stk h h' v s'} (k : Keeps h h') (x : Post c rep Q hid stk h' v s') : Post c rep Q hid stk h v s' :=
  let ⟨p, st', a, b, k', q⟩ := x; ⟨p, st', a, b, k.trans k', q⟩

theorem WT.mono {t : Sem α} {Q Q' : β → St → Prop} (h : WT c rep t  Q st) (hQ : ∀ p st, Q p st → Q' p st) (hX : ∀ e s, PostX e s → PostX e s) : WT c rep t  Q' st :=
  fun hid stk s ok R => wpAny_mono (h hid stk s ok R) (fun _ _ ⟨p, st', a, b, k, q⟩ => ⟨p, st', a, b, k, hQ _ _ q⟩) fun _ _ h => h

theorem E_BinOp {l op r pos} {Q : PV → St → Prop} (h : WE c l  (fun p st₁ => WE c r  (fun q st₂ => W2 c VRep p q (binaryOp op)  Q st₂) st₁) st) : WE c (.BinOp l op r pos)  Q st :=
  fun hid stk s ok R => wpAny_BinOp (wpAny_mono (h hid stk s ok R) (fun v s₁ ⟨p, st₁, R₁, hv, k₁, h₁⟩ =>
    wpAny_mono (h₁ hid stk s₁ ok R₁) (fun u s₂ ⟨q, st₂, R₂, hu, k₂, h₂⟩ =>
      wpAny_mono (h₂ v u hid stk s₂ ok R₂ (hv.mono k₂) hu) (fun _ _ y => y.keeps (k₁.trans k₂)) fun _ _ y => y) fun _ _ y => y) fun _ _ y => y)

theorem E_Compare {l op r pos} {Q : PV → St → Prop} (h : WE c l  (fun p st₁ => WE c r  (fun q st₂ => W2 c VRep p q (compareOp op)  Q st₂) st₁) st)
    (hm : behindInMarks op r = false) : WE c (.Compare l [op] [r] pos)  Q st :=
  fun hid stk s ok R => wpAny_Compare1 (wpAny_mono (h hid stk s ok R) (fun v s₁ ⟨p, st₁, R₁, hv, k₁, h₁⟩ =>
    wpAny_mono (h₁ hid stk s₁ ok R₁) (fun u s₂ ⟨q, st₂, R₂, hu, k₂, h₂⟩ =>
      wpAny_mono (h₂ v u hid stk s₂ ok R₂ (hv.mono k₂) hu) (fun _ _ y => y.keeps (k₁.trans k₂)) fun _ _ y => y) fun _ _ y => y) fun _ _ y => y) hm

theorem E_UnaryOp {op x pos} {Q : PV → St → Prop} (h : WE c x  (fun p st₁ => W1 c VRep p (unaryOp op)  Q st₁) st) : WE c (.UnaryOp op x pos)  Q st :=
  fun hid stk s ok R => wpAny_UnaryOp (wpAny_mono (h hid stk s ok R) (fun v s₁ ⟨p, st₁, R₁, hv, k₁, h₁⟩ => wpAny_mono (h₁ v hid stk s₁ ok R₁ hv) (fun _ _ y => y.keeps k₁) fun _ _ y => y) fun _ _ y => y)

/-! conditions -/
theorem C_Compare {l op r pos} {Q : Bool → St → Prop} (h : WE c l  (fun p st₁ => WE c r  (fun q st₂ => W2 c VRep p q (compareOp op)  (fun b st₃ => W1 c BoolRep b truthy  Q st₃) st₂) st₁) st)
    (hm : behindInMarks op r = false) : WC c (.Compare l [op] [r] pos)  Q st :=
  fun hid stk s ok R => wpAny_isTrue_Compare1 (wpAny_mono (h hid stk s ok R) (fun v s₁ ⟨p, st₁, R₁, hv, k₁, h₁⟩ =>
    wpAny_mono (h₁ hid stk s₁ ok R₁) (fun u s₂ ⟨q, st₂, R₂, hu, k₂, h₂⟩ =>
      wpAny_mono (h₂ v u hid stk s₂ ok R₂ (hv.mono k₂) hu) (fun b s₃ ⟨pb, st₃, R₃, hb, k₃, h₃⟩ =>
        wpAny_mono (h₃ b hid stk s₃ ok R₃ hb) (fun _ _ y => y.keeps ((k₁.trans k₂).trans k₃)) fun _ _ y => y) fun _ _ y => y) fun _ _ y => y) fun _ _ y => y) hm
theorem C_Not {x pos} {Q : Bool → St → Prop} (h : WC c x  (fun b st₁ => Q (!b) st₁) st) : WC c (.UnaryOp .Not x pos)  Q st :=
  fun hid stk s ok R => wpAny_isTrue_Not (wpAny_mono (h hid stk s ok R) (fun v s₁ ⟨b, st₁, R₁, hv, k₁, h₁⟩ => by cases hv; exact ⟨!v, st₁, R₁, rfl, k₁, h₁⟩) fun _ _ y => y)
theorem C_value {e : Expr} {Q : Bool → St → Prop} (h : WE c e  (fun p st₁ => W1 c BoolRep p truthy  Q st₁) st)
    (he : isTrue e c.env (eval e c.env) = (do let v ← eval e c.env; standAt e.pos; holding [v] (truthy v))) : WC c e  Q st :=
  fun hid stk s ok R => wpAny_isTrue_value (wpAny_mono (h hid stk s ok R) (fun v s₁ ⟨p, st₁, R₁, hv, k₁, h₁⟩ => wpAny_mono (h₁ v hid stk s₁ ok R₁ hv) (fun _ _ y => y.keeps k₁) fun _ _ y => y) fun _ _ y => y) he
/-- allTrue, whatever the number -/
noncomputable abbrev WAll (c : Cx) (op : BoolOp) (l : List Expr) (Q : Bool → St → Prop) (st : St) : Prop := WT c BoolRep (allTrue op l c.env)  Q st
theorem C_BoolOp {op l pos} {Q : Bool → St → Prop} (h : WAll c op l  Q st) : WC c (.BoolOp op l pos)  Q st := fun hid stk s ok R => wpAny_isTrue_BoolOp (h hid stk s ok R)
theorem And_nil {Q : Bool → St → Prop} (h : Q true st) : WAll c .And []  Q st := fun hid stk s ok R => wpAny_allTrue_And_nil ⟨true, st, R, rfl, .refl _, h⟩
theorem Or_nil {Q : Bool → St → Prop} (h : Q false st) : WAll c .Or []  Q st := fun hid stk s ok R => wpAny_allTrue_Or_nil ⟨false, st, R, rfl, .refl _, h⟩
theorem And_cons {x l} {Q : Bool → St → Prop} (h : WC c x  (fun b st₁ => if b then WAll c .And l  Q st₁ else Q false st₁) st) : WAll c .And (x :: l)  Q st :=
  fun hid stk s ok R => wpAny_allTrue_And_cons (wpAny_mono (h hid stk s ok R) (fun v s₁ ⟨b, st₁, R₁, hv, k₁, h₁⟩ => by
    cases hv
    cases v
    · rw [if_neg (by decide)] at h₁ ⊢; exact ⟨false, st₁, R₁, rfl, k₁, h₁⟩
    · rw [if_pos rfl] at h₁ ⊢
      exact wpAny_mono (h₁ hid stk s₁ ok R₁) (fun _ _ y => y.keeps k₁) fun _ _ y => y) fun _ _ y => y)
theorem Or_cons {x l} {Q : Bool → St → Prop} (h : WC c x  (fun b st₁ => if b then Q true st₁ else WAll c .Or l  Q st₁) st) : WAll c .Or (x :: l)  Q st :=
  fun hid stk s ok R => wpAny_allTrue_Or_cons (wpAny_mono (h hid stk s ok R) (fun v s₁ ⟨b, st₁, R₁, hv, k₁, h₁⟩ => by
    cases hv
    cases v
    · rw [if_neg (by decide)] at h₁ ⊢; exact wpAny_mono (h₁ hid stk s₁ ok R₁) (fun _ _ y => y.keeps k₁) fun _ _ y => y
    · rw [if_pos rfl] at h₁ ⊢
      exact ⟨true, st₁, R₁, rfl, k₁, h₁⟩) fun _ _ y => y)

/-! names, constants -/
theorem E_local {x pos} {Q : PV → St → Prop} {μ : Locals} {σ : AHeap} {p : PV} (hl : c.env.scope.names.lookup x = some .local) (hv : μ.lookup x = some p) (h : Q p (μ, σ))
    (hd : (x == ("__debug__" : Str)) = false) : WE c (.Name x pos)  Q (μ, σ) := fun hid stk s ok R => by
  obtain ⟨⟨_, m, hn, hm⟩, _⟩ := R.frames _ (List.mem_cons_self ..)
  obtain ⟨v, hmv, hr⟩ := hm x p hv
  exact wpAny_Name (wpAny_loadName_local ok.kind hl hn hmv ⟨p, _, R, hr, .refl _, h⟩) hd

theorem Rep.toks {base os₀ hid stk σ} {s : Shared} (R : Rep base os₀ hid stk σ s) (tk : Nat) (ht : s.toks ≤ tk := by first | exact Nat.le_refl _ | exact Nat.le_succ _ | exact Nat.le_add_right _ 2 | omega) : Rep base os₀ hid stk σ { s with toks := tk } := R.grow (fun _ _ e => e) rfl rfl ht

theorem E_int {i k pos} {Q : PV → St → Prop} (h : Q (.int i) st) : WE c (.Constant (.int i) k pos)  Q st := fun hid stk s ok R => wpAny_Constant_int ⟨.int i, st, R.toks _, ⟨_, rfl⟩, .refl _, h⟩
theorem E_bool {i k pos} {Q : PV → St → Prop} (h : Q (.bool i) st) : WE c (.Constant (.bool i) k pos)  Q st := fun hid stk s ok R => (fun _ _ _ => ⟨.bool i, st, R, rfl, .refl _, h⟩)
theorem E_none {k pos} {Q : PV → St → Prop} (h : Q .none st) : WE c (.Constant .none k pos)  Q st := fun hid stk s ok R => (fun _ _ _ => ⟨.none, st, R, rfl, .refl _, h⟩)

/-! statements -/
theorem S_nil {Q : AFlow → St → Prop} (h : Q .next st) : WS c []  Q st := fun hid stk s ok R => wpAny_execs_nil ⟨.next, st, R, rfl, .refl _, h⟩
theorem S_cons {x l} {Q : AFlow → St → Prop} (h : WX c x  (fun f st₁ => match f with | .next => WS c l  Q st₁ | f => Q f st₁) st) : WS c (x :: l)  Q st :=
  fun hid stk s ok R => wpAny_execs_cons (wpAny_mono (h hid stk s ok R) (fun v s₁ ⟨f, st₁, R₁, hv, k₁, h₁⟩ => by
    cases f with
    | next => cases hv; exact wpAny_mono (h₁ hid stk s₁ ok R₁) (fun _ _ y => y.keeps k₁) fun _ _ y => y
    | brk => cases hv; exact ⟨.brk, st₁, R₁, rfl, k₁, h₁⟩
    | cont => cases hv; exact ⟨.cont, st₁, R₁, rfl, k₁, h₁⟩
    | ret p => obtain ⟨u, rfl, hu⟩ := hv; exact ⟨.ret p, st₁, R₁, ⟨u, rfl, hu⟩, k₁, h₁⟩) fun _ _ y => y)

/-- a name stored -/
theorem W1_store {x : Str} {p : PV} {Q : Unit → St → Prop} {μ : Locals} {σ : AHeap} (hl : c.env.scope.names.lookup x = some .local) (h : Q () (setL x p μ, σ)) : W1 c UnitRep p (fun v => storeName c.env x v)  Q (μ, σ) :=
  fun v hid stk s ok R hv => by
    obtain ⟨⟨_, m, hn, hm⟩, _⟩ := R.frames _ (List.mem_cons_self ..)
    refine wpAny_storeName_local hl hn (fun h' hn' hs => ?_) (by rw [ok.kind]; rfl)
    obtain ⟨R', k⟩ := R.store (tk := s.toks + 1) hn hm hn' hs hv
    exact ⟨(), (setL x p μ, σ), R', trivial, k, h⟩

theorem S_Assign {x pos' value pos} {Q : AFlow → St → Prop} (h : WE c value  (fun p st₁ => W1 c UnitRep p (fun v => storeName c.env x v)  (fun _ st₂ => Q .next st₂) st₁) st)
    (hs : swapsWith value (some (.Name x pos')) pos.line c.env = pure false) : WX c (.Assign [.Name x pos'] value pos)  Q st :=
  fun hid stk s ok R => wpAny_Assign_Name (wpAny_mono (h hid stk s ok R) (fun v s₁ ⟨p, st₁, R₁, hv, k₁, h₁⟩ =>
    wpAny_mono (h₁ v hid stk s₁ ok R₁ hv) (fun _ _ ⟨_, st₂, R₂, _, k₂, q⟩ => ⟨.next, st₂, R₂, rfl, k₁.trans k₂, q⟩) fun _ _ y => y) fun _ _ y => y) hs
theorem S_Expr {e pos} {Q : AFlow → St → Prop} (h : WE c e  (fun _ st₁ => Q .next st₁) st) (hi : interactive c.env = false) (hs : swapsWith e none pos.line c.env = pure false) : WX c (.Expr e pos)  Q st :=
  fun hid stk s ok R => wpAny_Expr_any (wpAny_mono (h hid stk s ok R) (fun v s₁ ⟨p, st₁, R₁, hv, k₁, h₁⟩ => ⟨.next, st₁, R₁, rfl, k₁, h₁⟩) fun _ _ y => y) hi hs
theorem S_If {test body orelse pos} {Q : AFlow → St → Prop} (h : WC c test  (fun b st₁ => if b then WS c body  Q st₁ else WS c orelse  Q st₁) st) : WX c (.If test body orelse pos)  Q st :=
  fun hid stk s ok R => wpAny_If (wpAny_mono (h hid stk s ok R) (fun v s₁ ⟨b, st₁, R₁, hv, k₁, h₁⟩ => by
    cases hv
    cases v
    · rw [if_neg (by decide)] at h₁ ⊢; exact wpAny_mono (h₁ hid stk s₁ ok R₁) (fun _ _ y => y.keeps k₁) fun _ _ y => y
    · rw [if_pos rfl] at h₁ ⊢; exact wpAny_mono (h₁ hid stk s₁ ok R₁) (fun _ _ y => y.keeps k₁) fun _ _ y => y) fun _ _ y => y)
theorem S_Return {e pos} {Q : AFlow → St → Prop} (h : WE c e  (fun p st₁ => Q (.ret p) st₁) st) : WX c (.Return (some e) pos)  Q st :=
  fun hid stk s ok R => wpAny_Return_some (wpAny_mono (h hid stk s ok R) (fun v s₁ ⟨p, st₁, R₁, hv, k₁, h₁⟩ => ⟨.ret p, st₁, R₁, ⟨v, rfl, hv⟩, k₁, h₁⟩) fun _ _ y => y)
theorem S_Break {pos} {Q : AFlow → St → Prop} (h : Q .brk st) : WX c (.Break pos)  Q st := fun hid stk s ok R => wpAny_Break ⟨.brk, st, R, rfl, .refl _, h⟩
theorem S_Continue {pos} {Q : AFlow → St → Prop} (h : Q .cont st) : WX c (.Continue pos)  Q st := fun hid stk s ok R => wpAny_Continue ⟨.cont, st, R, rfl, .refl _, h⟩
/-- what is raised within a loop's own run -/
noncomputable def LoopR (c : Cx) (Q : AFlow → St → Prop) (hid : List (Addr × Obj)) (stk : List (Addr × Locals)) (h : Heap) (r : Result) (s' : Shared) : Prop := match r with
  | .ok f => Post c FlowRep Q hid stk h f s'
  | .error _ => False

theorem LoopR.back {hid stk h r s'} {Q : AFlow → St → Prop} (x : LoopR c  Q hid stk h r s') : match (generalizing := false) r with
    | .ok f => Post c FlowRep Q hid stk h f s'
    | .error e => cameBackBy c.M c.A c.env PostX e s' := by
  cases r with
  | ok f => exact x
  | error e =>
    exact x.elim

theorem S_While {test body orelse pos} {Q : AFlow → St → Prop} (I : Nat → St → Prop) (n : Nat) (h0 : I n st)
    (turn : ∀ n st, I n st → WC c test  (fun b st₁ => if b then WS c body  (fun f st₂ => match f with
        | .next | .cont => ∃ m, m < n ∧ I m st₂
        | .brk => Q .next st₂
        | .ret p => Q (.ret p) st₂) st₁ else WS c orelse  Q st₁) st) : WX c (.While test body orelse pos)  Q st := fun hid stk s ok R => by
  refine wpAny_While (codeAny_mono (R := LoopR c  Q hid stk s.heap) ?_ fun r s' x => x.back)
  refine codeAny_whileLoop (fun n s' => ∃ st', Rep c.base c.os hid ((c.env.locals, st'.1) :: stk) st'.2 s' ∧ Keeps s.heap s'.heap ∧ I n st') (fun n s' ⟨st', R', k', hI⟩ => ?_) n ⟨st, R, .refl _, h0⟩
  have hE : ∀ e s'', PostX e s'' → notedBy c.M c.A c.env (fun e s' => LoopR c  Q hid stk s.heap (.error e) s') e s'' :=
    fun e s'' hx => False.elim hx
  refine wpAny_mono (turn n st' hI hid stk s' ok R') (fun v s₁ hy => ?_) hE
  obtain ⟨b, st₁, R₁, hv, k₁, h₁⟩ := hy
  cases hv
  cases v
  · rw [if_neg (by decide)] at h₁ ⊢
    exact wpAny_mono (h₁ hid stk s₁ ok R₁) (fun f s₂ y => y.keeps (k'.trans k₁)) hE
  · rw [if_pos rfl] at h₁ ⊢
    refine wpAny_mono (h₁ hid stk s₁ ok R₁) (fun f s₂ hy => ?_) hE
    obtain ⟨fl, st₂, R₂, hf, k₂, h₂⟩ := hy
    have k := k'.trans (k₁.trans k₂)
    cases fl with
    | next => cases hf; obtain ⟨m, hm, hI⟩ := h₂; exact ⟨m, hm, st₂, R₂, k, hI⟩
    | cont => cases hf; obtain ⟨m, hm, hI⟩ := h₂; exact ⟨m, hm, st₂, R₂, k, hI⟩
    | brk => cases hf; exact ⟨.next, st₂, R₂, rfl, k, h₂⟩
    | ret p => obtain ⟨u, rfl, hu⟩ := hf; exact ⟨.ret p, st₂, R₂, ⟨u, rfl, hu⟩, k, h₂⟩
end
end Mine
end
section
open PySem PySem.W PyProof.Rows
set_option Elab.async false
set_option linter.unusedVariables false
namespace Mine

noncomputable def valPV : Value → PV
  | .none => .none | .bool b => .bool b | .int i _ => .int i | .str x t => .str x t | .ref a => .ref a | .type n => .ty n | .builtin n => .bi n
  | _ => .none
noncomputable def Value.simple : Value → Bool
  | .ellipsis | .notImplemented | .float .. | .bytes .. => false
  | _ => true
theorem valPV_rep {v : Value} (h : Value.simple v = true) (hp : Heap) : VRep hp (valPV v) v := by
  cases v <;> first | (cases h; done) | (simp only [valPV, VRep]; done) | (simp only [valPV, VRep]; exact ⟨_, rfl⟩)

section
variable {c : Cx} {st : St}

theorem E_global {x pos} {Q : PV → St → Prop} {v : Value} (hG : Gd c.toGx) (hl : c.env.scope.names.lookup x = some .globalImplicit) (hv : c.mg x = some v) (hs : Value.simple v = true) (h : Q (valPV v) st)
    (hd : (x == ("__debug__" : Str)) = false) : WE c (.Name x pos)  Q st := fun hid stk s ok R =>
  Calls.Name_function_global ok.kind hl (Calls.loadGlobal_global (by rw [ok.globals]; exact hG.g.keeps R.stays) hv ⟨_, st, R, valPV_rep hs _, .refl _, h⟩) hd
theorem E_builtin {x pos} {Q : PV → St → Prop} {v : Value} (hG : Gd c.toGx) (hl : c.env.scope.names.lookup x = some .globalImplicit) (hm : c.mg x = none) (hn : x ≠ "__name__") (hv : bootBuiltins x = some v) (hs : Value.simple v = true) (h : Q (valPV v) st)
    (hd : (x == ("__debug__" : Str)) = false) : WE c (.Name x pos)  Q st := fun hid stk s ok R =>
  Calls.Name_function_global ok.kind hl (Calls.loadGlobal_builtin (by rw [ok.globals]; exact hG.g.keeps R.stays) hm (by rw [ok.builtins]; exact hG.b.keeps R.stays) ((hG.builtins x hn).trans hv) ⟨_, st, R, valPV_rep hs _, .refl _, h⟩) hd

/-! cells -/
theorem E_cell {x pos} {Q : PV → St → Prop} {a : Addr} {p : PV} (hl : c.env.scope.names.lookup x = some .cell) (hc : c.env.cells.lookup x = some a) (hv : st.2 a = some (.cell (some p))) (h : Q p st)
    (hd : (x == ("__debug__" : Str)) = false) : WE c (.Name x pos)  Q st := fun hid stk s ok R => by
  obtain ⟨_, y, hy, z, rfl, hz⟩ := R.heap _ _ hv
  exact wpAny_Name (wpAny_loadName_cell ok.kind hl hc hy ⟨p, st, R, hz, .refl _, h⟩) hd
theorem W1_storeCell {x : Str} {p : PV} {Q : Unit → St → Prop} {μ : Locals} {σ : AHeap} {a : Addr} {o : Option PV} (hl : c.env.scope.names.lookup x = some .cell) (hc : c.env.cells.lookup x = some a) (hv : σ a = some (.cell o))
    (h : Q () (μ, σ.set a (.cell (some p)))) : W1 c UnitRep p (fun v => storeName c.env x v)  Q (μ, σ) := fun v hid stk s ok R hr => by
  obtain ⟨hb, y, hy, _⟩ := R.heap _ _ hv
  refine wpAny_storeName_cell ok.kind hl hc hy fun h' hc' hs' => ?_
  have hnt : ∀ vs, ¬ TU s.heap a vs := fun vs ⟨n, e⟩ => by obtain ⟨o', e1, e2⟩ := hy; rw [e] at e1; cases e1; cases e2
  have hk : ∀ b ob, b ≠ a → s.heap.get? b = some ob → h'.get? b = some ob := fun b ob hne e => (hs'.2 b hne).trans e
  have k : Keeps s.heap h' := fun b vs ⟨n, h1⟩ => ⟨n, hk _ _ (fun e => hnt vs (e ▸ ⟨n, h1⟩)) h1⟩
  refine ⟨(), (μ, σ.set a (.cell (some p))), ?_, trivial, k, h⟩
  exact R.put (s' := { s with heap := h' }) hk hnt hb (R.hid_ne hv) (R.stk_ne hv) ⟨hb, _, hc', v, rfl, hr.mono k⟩ rfl rfl
end

/-! calls -/
noncomputable def CallR (G : Gx) (Q : PV → AHeap → Prop) (hid : List (Addr × Obj)) (stk : List (Addr × Locals)) (h : Heap) (r : Result) (s' : Shared) : Prop := match r with
  | .ok (.ret v) => ∃ p σ', Rep G.base G.os hid stk σ' s' ∧ VRep s'.heap p v ∧ Keeps h s'.heap ∧ Q p σ'
  | .ok _ => False
  | .error _ => False
/-- a call, keywords too -/
noncomputable def CallK (G : Gx) (lv : Lv) (f : Value) (ps : List PV) (kw : List (Str × PV)) (Q : PV → AHeap → Prop) (σ : AHeap) : Prop :=
  ∀ A frs hid stk s vs ks, AOk lv A frs (stk.map (·.1)) → Rep G.base G.os hid stk σ s → VReps s.heap ps vs → VReps s.heap (kw.map (·.2)) ks → codeAny G.M A (.call f ⟨vs, (kw.map (·.1)).zip ks⟩) (CallR G  Q hid stk s.heap) s
noncomputable abbrev CallS (G : Gx) (lv : Lv) (f : Value) (ps : List PV) (Q : PV → AHeap → Prop) (σ : AHeap) : Prop := CallK G lv f ps []  Q σ

theorem WN_call {c : Cx} {Q : PV → St → Prop} {μ σ} {f : Value} {ps : List PV} (h : CallS c.toGx c.lv f ps (fun p σ' => Q p (μ, σ')) σ) :
    WN c VRep ps (fun vs => call f vs)  Q (μ, σ) := fun vs hid stk s ok R hv => by
  obtain ⟨e₀, rest, a, _⟩ := ok.ok
  refine wpAny_call (codeAny_mono (h c.A (e₀ :: rest) hid ((c.env.locals, μ) :: stk) s vs [] a R hv .nil) fun r s' x => ?_)
  match r, x with
  | .ok (.ret v), ⟨p, σ', a, b, k, q⟩ => exact ⟨p, (μ, σ'), a, b, k, q⟩
  | .error e, x => exact x.elim

/-- the state without its first frame -/
theorem Rep.pop {base os₀ hid f stk σ} {s : Shared} (R : Rep base os₀ hid (f :: stk) σ s) : Rep base os₀ hid stk σ s := by
  refine ⟨R.stays, R.gens, R.os, fun p hp => ?_, fun g hg => R.frames g (List.mem_cons_of_mem _ hg), (List.nodup_cons.mp (by simpa using R.nodup)).2, R.hnd, R.heap, R.tk⟩
  obtain ⟨a, b, c, d, e⟩ := R.hid p hp
  exact ⟨a, b, c, fun q => d (by simp at q ⊢; exact .inr q), e⟩

noncomputable def addCells : List (Str × Addr) → (Str → Option PV) → AHeap → AHeap
  | [], _, σ => σ
  | (n, a) :: r, b, σ => (addCells r b σ).set a (.cell (b n))

theorem addCells_off {b : Str → Option PV} {σ : AHeap} {a : Addr} : ∀ {cs : List (Str × Addr)}, (∀ p ∈ cs, p.2 ≠ a) → addCells cs b σ a = σ a
  | [], _ => rfl
  | (n, d) :: r, h => by
    show ((addCells r b σ).set d _) a = _
    rw [AHeap.set_ne _ _ (Ne.symm (h (n, d) (List.mem_cons_self ..)))]
    exact addCells_off fun p hp => h p (List.mem_cons_of_mem _ hp)

section
variable {k : Str → Option NameKind} {h : Heap}
theorem bindL_off {x : Str} : ∀ {names : List Str} {vs : List Value} {m : Str → Option Value}, x ∉ names → bindL k (names.zip vs) m x = m x
  | [], _, _, _ => rfl
  | _ :: _, [], _, _ => rfl
  | n :: ns, v :: vs, m, hx => by
    show bindL k (ns.zip vs) _ x = m x
    rw [bindL_off (fun q => hx (List.mem_cons_of_mem _ q))]
    have : x ≠ n := fun e => hx (e ▸ List.mem_cons_self ..)
    split
    · simp [this]
    · rfl
theorem bindL_rep : ∀ {names : List Str} {ps : List PV} {vs : List Value} {m : Str → Option Value}, VReps h ps vs → names.Nodup → ∀ x p, ((names.zip ps).filter fun b => k b.1 == some .local).lookup x = some p → ∃ v, bindL k (names.zip vs) m x = some v ∧ VRep h p v
  | [], _, _, _, _, _, x, p, e => by simp at e
  | _ :: _, [], _, _, _, _, x, p, e => by simp at e
  | n :: ns, q :: ps, vs, m, hv, hnd, x, p, e => by
    obtain ⟨v, r, rfl, h1, h2⟩ := hv.cons_inv
    obtain ⟨hn, hnd'⟩ := List.nodup_cons.mp hnd
    show ∃ w, bindL k (ns.zip r) _ x = some w ∧ _
    simp only [List.zip_cons_cons, List.filter_cons] at e
    by_cases hx : x = n
    · subst hx
      rw [bindL_off hn]
      by_cases hk : k x = some .local
      · simp only [hk, beq_self_eq_true, if_true, List.lookup_cons] at e ⊢
        cases e; exact ⟨v, rfl, h1⟩
      · exfalso
        have hkb : (k x == some NameKind.local) = false := beq_eq_false_iff_ne.mpr hk
        simp only [hkb, Bool.false_eq_true, if_false] at e
        exact hn (List.of_mem_zip (List.mem_filter.mp (mem_of_lookup e)).1).1
    · refine bindL_rep h2 hnd' x p ?_
      split at e
      · rw [List.lookup_cons] at e
        have : (x == n) = false := beq_eq_false_iff_ne.mpr hx
        simpa only [this] using e
      · exact e
theorem bindC_off {x : Str} : ∀ {names : List Str} {vs : List Value} {m : Str → Option Value}, x ∉ names → bindC k (names.zip vs) m x = m x
  | [], _, _, _ => rfl
  | _ :: _, [], _, _ => rfl
  | n :: ns, v :: vs, m, hx => by
    show bindC k (ns.zip vs) _ x = m x
    rw [bindC_off (fun q => hx (List.mem_cons_of_mem _ q))]
    have : x ≠ n := fun e => hx (e ▸ List.mem_cons_self ..)
    split
    · rfl
    · simp [this]
theorem bindC_rep : ∀ {names : List Str} {ps : List PV} {vs : List Value}, VReps h ps vs → names.Nodup → names.length = ps.length → ∀ x, k x ≠ some .local → OptRep h ((names.zip ps).lookup x) (bindC k (names.zip vs) (fun _ => none) x) := by
  have main : ∀ {names : List Str} {ps : List PV} {vs : List Value} {m : Str → Option Value}, VReps h ps vs → names.Nodup → names.length = ps.length → ∀ x, k x ≠ some .local → x ∈ names → OptRep h ((names.zip ps).lookup x) (bindC k (names.zip vs) m x) := by
    intro names
    induction names with
    | nil => intro ps vs m _ _ _ x _ hx; cases hx
    | cons n ns ih =>
      intro ps vs m hv hnd hl x hk hx
      cases ps with
      | nil => simp at hl
      | cons q ps =>
        obtain ⟨v, r, rfl, h1, h2⟩ := hv.cons_inv
        obtain ⟨hn, hnd'⟩ := List.nodup_cons.mp hnd
        show OptRep h (((n, q) :: ns.zip ps).lookup x) (bindC k (ns.zip r) _ x)
        rw [List.lookup_cons]
        by_cases e : x = n
        · subst e
          rw [bindC_off hn]
          simp only [beq_self_eq_true, hk, if_false, if_true]
          exact ⟨v, rfl, h1⟩
        · have hb : (x == n) = false := beq_eq_false_iff_ne.mpr e
          simp only [hb]
          rcases List.mem_cons.mp hx with q | q
          · exact absurd q e
          · exact ih h2 hnd' (by simpa using hl) x hk q
  intro names ps vs hv hnd hl x hk
  by_cases hx : x ∈ names
  · exact main hv hnd hl x hk hx
  · rw [bindC_off hx]
    have : (names.zip ps).lookup x = none := by
      cases q : (names.zip ps).lookup x with
      | none => rfl
      | some p => exact absurd (List.of_mem_zip (mem_of_lookup q)).1 hx
    rw [this]; rfl
end

theorem AOk.body {lv : Lv} {n : Nat} {A : Around} {frs : List Env} {ls : List Addr} (ok : AOk ⟨n + 1, lv.calm⟩ A frs ls) {env : Env} (hk : env.scope.kind = .function) (hf : env.frame = some env.locals)
    (hg : env.globals = mainGlobals) (hb : env.builtins = builtinsNs) : COk ⟨n, lv.calm⟩ (A.deeper env) env ls := by
  refine ⟨⟨env, frs, ⟨Around.frames_deeper ok.frames, fun e he => ?_, fun hc => ok.calm hc, ?_, ?_⟩, rfl⟩, hk, hg, hb⟩
  · rcases List.mem_cons.mp he with rfl | he
    · exact ⟨by rw [hk]; decide, _, hf, List.mem_cons_self ..⟩
    · obtain ⟨a, L, b, d⟩ := ok.frs e he
      exact ⟨a, L, b, List.mem_cons_of_mem _ d⟩
  · have := ok.depth; show A.depth + 1 + n ≤ 900; simp only at this; omega
  · have := ok.units; show A.units + 3 + 20 * n ≤ 9000; simp only at this; omega

/-- a def of the text, called: what its binder makes of the arguments is told -/
theorem call_bind {G : Gx} {n : Nat} {calm : Bool} {a : Addr} {o : Obj} {fd : FuncData} {body : List Stmt} {ps0 ps : List PV} {kw : List (Str × PV)} {Q : PV → AHeap → Prop} {σ : AHeap} (names : List Str)
    (hG : Gd G) (ho : G.base.get? a = some o) (hd : o.data = .func fd) (hbody : fd.body = .stmts body) (hcd : G.base.CodeRec fd.code fd.qualname)
    (hclo : fd.closure = []) (hgl : fd.globals = mainGlobals) (hbu : fd.builtins = builtinsNs) (hk : fd.scope.kind = .function) (hco : fd.scope.isCoroutine = false) (hgen : fd.scope.isGenerator = false)
    (hnames : names.Nodup) (hlen : names.length = ps.length)
    (hbind : ∀ A hid stk s vs ks E Q, Rep G.base G.os hid stk σ s → VReps s.heap ps0 vs → VReps s.heap (kw.map (·.2)) ks → (∀ vs' s', Rep G.base G.os hid stk σ s' → Keeps s.heap s'.heap → VReps s'.heap ps vs' → Q (names.zip vs') s') → wpAny G.M A (bindArgs fd ⟨vs, (kw.map (·.1)).zip ks⟩) Q E s)
    (hkind : ∀ i, names.all (fun x => fd.scope.names.lookup x == some .local || (fd.scope.names.lookup x == some .cell && ((cellsFrom i fd.scope.names []).lookup x).isSome)) = true)
    (hcells : ∀ i, (cellsFrom i fd.scope.names []).all (fun p => fd.scope.names.lookup p.1 != some .local && ((cellsFrom i fd.scope.names []).lookup p.1 == some p.2)) = true)
    (h : ∀ (c : Cx) (L : Addr), c.toGx = G → c.lv = ⟨n, calm⟩ → c.env.scope = fd.scope → c.env.cells = cellsFrom (L + 1) fd.scope.names [] → (c.env.qual = fd.qualname ++ ".<locals>." ∧ c.env.code = fd.code) → (∀ b, L ≤ b → σ b = none) →
      WS c body (fun f st => Q (match f with | .ret p => p | _ => .none) st.2) ((names.zip ps).filter (fun b => fd.scope.names.lookup b.1 == some .local), addCells (cellsFrom (L + 1) fd.scope.names []) (fun x => (names.zip ps).lookup x) σ)) :
    CallK G ⟨n + 1, calm⟩ (.ref a) ps0 kw  Q σ := fun A frs hid stk s₀ vs₀ ks ok R₀ hv₀ hks => by
  refine codeAny_call_function (by have := ok.depth; simp only at this; show A.depth < 1000; omega) (R₀.stays _ _ ho) hd hco hgen hbody (hcd.keeps R₀.stays) ?_
  refine hbind _ hid stk s₀ vs₀ ks _ _ R₀ hv₀ hks fun vs s R k₀ hv => ?_
  rw [hclo]
  refine (newFunctionEnv_cells_toks hk (fun x hx => ?_) fun env he s' hin htk => ⟨(hG.nolimit.keeps R.stays).keeps hin.toInCall.keep, ?_⟩)
  · have h1 := List.all_eq_true.mp (hkind (s.heap.objs.size + 1)) x.1 (List.of_mem_zip hx).1
    simp only [Bool.or_eq_true, Bool.and_eq_true, beq_iff_eq] at h1
    exact h1
  · have hL : env.locals = s.heap.objs.size := by rw [he]; rfl
    have hsc : env.scope = fd.scope := by rw [he]; rfl
    have hce : env.cells = cellsFrom (s.heap.objs.size + 1) fd.scope.names [] := by rw [he]; rfl
    obtain ⟨h', tk, rfl, hkeep⟩ := hin.done
    have hbase : ∀ b, s.heap.objs.size ≤ b → G.base.get? b = none := fun b hb => by
      cases q : G.base.get? b with
      | none => rfl
      | some ob => exact absurd (Heap.lt_size (R.stays b ob q)) (Nat.not_lt.mpr hb)
    have hσ : ∀ b, s.heap.objs.size ≤ b → σ b = none := fun b hb => by
      cases q : σ b with
      | none => rfl
      | some ob => exact absurd (R.heap b ob q).lt (Nat.not_lt.mpr hb)
    have k : Keeps s.heap h' := fun b vs ⟨n, e⟩ => ⟨n, hkeep _ _ e⟩
    -- the state of the body
    have hcs : ∀ p ∈ cellsFrom (s.heap.objs.size + 1) fd.scope.names [], s.heap.objs.size < p.2 := fun p hp => by
      have := hin.above p.1 p.2 (by rw [hce]; exact hp); rw [hL] at this; exact this
    have R₁ : ∀ (cs : List (Str × Addr)), (∀ p ∈ cs, p ∈ cellsFrom (s.heap.objs.size + 1) fd.scope.names []) →
        Rep G.base G.os hid ((env.locals, (names.zip ps).filter (fun b => fd.scope.names.lookup b.1 == some .local)) :: stk) (addCells cs (fun x => (names.zip ps).lookup x) σ) { s with heap := h', toks := tk } := by
      intro cs hsub
      have R0 := R.grow (s' := { s with heap := h', toks := tk }) hkeep rfl rfl htk
      have hoff : ∀ b, b < s.heap.objs.size → addCells cs (fun x => (names.zip ps).lookup x) σ b = σ b := fun b hb => addCells_off fun p hp q => Nat.lt_asymm hb (q ▸ hcs p (hsub p hp))
      refine ⟨R0.stays, R0.gens, R0.os, fun p hp => ?_, fun f hf => ?_, ?_, R0.hnd, ?_, R0.tk⟩
      · obtain ⟨a1, b1, c1, d1, e1⟩ := R0.hid p hp
        have hlt := Heap.lt_size (R.hid p hp).1
        refine ⟨a1, b1, by rw [hoff _ hlt]; exact c1, fun q => ?_, e1⟩
        simp only [List.map_cons, List.mem_cons] at q
        rcases q with q | q
        · rw [hL] at q; exact Nat.ne_of_lt hlt q
        · exact d1 q
      · rcases List.mem_cons.mp hf with rfl | hf
        · refine ⟨⟨by rw [hL]; exact hbase _ (Nat.le_refl _), _, hin.toInCall.ns, fun x p e => ?_⟩, ?_⟩
          · obtain ⟨v, e1, e2⟩ := bindL_rep (k := fun x => fd.scope.names.lookup x) (m := fun _ => none) (hv.mono k) hnames x p e
            have hko : env.kindOf = fun x => fd.scope.names.lookup x := by funext x; unfold Env.kindOf; rw [hsc]
            rw [hko]
            exact ⟨v, e1, e2⟩
          · show addCells cs _ σ env.locals = none
            rw [hL, addCells_off (fun p hp q => Nat.ne_of_gt (hcs p (hsub p hp)) q)]
            exact hσ _ (Nat.le_refl _)
        · obtain ⟨a1, b1⟩ := R0.frames f hf
          exact ⟨a1, by rw [hoff _ (R.frames f hf).1.lt]; exact b1⟩
      · simp only [List.map_cons, List.nodup_cons]
        refine ⟨fun q => ?_, R0.nodup⟩
        obtain ⟨f, hf, e⟩ := List.mem_map.mp q
        rw [hL] at e; exact Nat.ne_of_lt (R.frames f hf).1.lt e
      · induction cs with
        | nil => exact R0.heap
        | cons p r ih =>
          obtain ⟨x, d⟩ := p
          intro b ob e
          by_cases q : b = d
          · subst q
            have e' : some (AObj.cell ((names.zip ps).lookup x)) = some ob := by
              have := AHeap.set_same (addCells r (fun x => (names.zip ps).lookup x) σ) b (.cell ((names.zip ps).lookup x))
              exact this.symm.trans e
            cases e'
            have hm := hsub (x, b) (List.mem_cons_self ..)
            have hc1 := List.all_eq_true.mp (hcells (s.heap.objs.size + 1)) (x, b) hm
            simp only [Bool.and_eq_true, bne_iff_ne, beq_iff_eq] at hc1
            refine ⟨hbase _ (Nat.le_of_lt (hcs _ hm)), _, hin.cell x b (by rw [hce]; exact hc1.2), ?_⟩
            have hko : env.kindOf = fun x => fd.scope.names.lookup x := by funext x; unfold Env.kindOf; rw [hsc]
            rw [hko]
            exact bindC_rep (hv.mono k) hnames hlen x hc1.1
          · have e' : addCells r (fun x => (names.zip ps).lookup x) σ b = some ob := by
              have := AHeap.set_ne (addCells r (fun x => (names.zip ps).lookup x) σ) (.cell ((names.zip ps).lookup x)) q
              exact this.symm.trans e
            exact ih (fun p hp => hsub p (List.mem_cons_of_mem _ hp)) (fun b hb => addCells_off fun p hp q => Nat.lt_asymm hb (q ▸ hcs p (hsub p (List.mem_cons_of_mem _ hp)))) b ob e'
    have hok := AOk.body (lv := ⟨n + 1, calm⟩) ok (env := env) (by rw [hsc]; exact hk) (by rw [he]; rfl) (by rw [he]; exact hgl) (by rw [he]; exact hbu)
    have hW := h ⟨G, ⟨n, calm⟩, A.deeper env, env⟩ s.heap.objs.size rfl rfl hsc hce (by rw [he]; exact ⟨rfl, rfl⟩) hσ hid stk _ hok (R₁ _ fun _ hp => hp)
    obtain ⟨e₀, rest, ao, he₀⟩ := hok.ok
    refine codeAny_func (wpAny_mono hW (fun f s₂ hp => ?_) fun e s₂ hx => ?_)
    · obtain ⟨fl, st', R', hf, k', q⟩ := hp
      cases fl with
      | next => cases hf; exact ⟨.none, st'.2, R'.pop, rfl, k₀.trans (k.trans k'), q⟩
      | brk => cases hf; exact ⟨.none, st'.2, R'.pop, rfl, k₀.trans (k.trans k'), q⟩
      | cont => cases hf; exact ⟨.none, st'.2, R'.pop, rfl, k₀.trans (k.trans k'), q⟩
      | ret p => obtain ⟨v, rfl, hv'⟩ := hf; exact ⟨p, st'.2, R'.pop, hv', k₀.trans (k.trans k'), q⟩
    · exact False.elim hx
/-- a def of the text, called: its parameters are names, its cells are new -/
theorem call_def {G : Gx} {n : Nat} {calm : Bool} {a : Addr} {o : Obj} {fd : FuncData} {body : List Stmt} {ps : List PV} {Q : PV → AHeap → Prop} {σ : AHeap} (names : List Str)
    (hG : Gd G) (ho : G.base.get? a = some o) (hd : o.data = .func fd) (hbody : fd.body = .stmts body) (hcd : G.base.CodeRec fd.code fd.qualname)
    (hclo : fd.closure = []) (hgl : fd.globals = mainGlobals) (hbu : fd.builtins = builtinsNs) (hk : fd.scope.kind = .function) (hco : fd.scope.isCoroutine = false) (hgen : fd.scope.isGenerator = false)
    (hnames : names.Nodup) (hlen : names.length = ps.length)
    (hbind : ∀ vs : List Value, vs.length = names.length → bindArgs fd ⟨vs, []⟩ = pure (names.zip vs))
    (hkind : ∀ i, names.all (fun x => fd.scope.names.lookup x == some .local || (fd.scope.names.lookup x == some .cell && ((cellsFrom i fd.scope.names []).lookup x).isSome)) = true)
    (hcells : ∀ i, (cellsFrom i fd.scope.names []).all (fun p => fd.scope.names.lookup p.1 != some .local && ((cellsFrom i fd.scope.names []).lookup p.1 == some p.2)) = true)
    (h : ∀ (c : Cx) (L : Addr), c.toGx = G → c.lv = ⟨n, calm⟩ → c.env.scope = fd.scope → c.env.cells = cellsFrom (L + 1) fd.scope.names [] → (c.env.qual = fd.qualname ++ ".<locals>." ∧ c.env.code = fd.code) → (∀ b, L ≤ b → σ b = none) →
      WS c body (fun f st => Q (match f with | .ret p => p | _ => .none) st.2) ((names.zip ps).filter (fun b => fd.scope.names.lookup b.1 == some .local), addCells (cellsFrom (L + 1) fd.scope.names []) (fun x => (names.zip ps).lookup x) σ)) :
    CallS G ⟨n + 1, calm⟩ (.ref a) ps  Q σ :=
  call_bind names hG ho hd hbody hcd hclo hgl hbu hk hco hgen hnames hlen (fun A hid stk s vs ks E Q R hv _ h => by
    show wpAny _ _ (bindArgs fd ⟨vs, []⟩) _ _ s
    rw [hbind vs (hv.length.trans hlen.symm)]
    exact wpAny_pure (h vs s R (fun _ _ h => h) hv)) hkind hcells h
end Mine
end
section
open PySem PySem.W PyProof.Rows
set_option Elab.async false
set_option linter.unusedVariables false
namespace Mine

noncomputable def AObj.items? : AObj → Option (List PV)
  | .list l | .rlist l => some l
  | _ => none
/-- the items of the list at a -/
noncomputable def seqAt (σ : AHeap) (a : Addr) : Option (List PV) := (σ a).bind AObj.items?

theorem LI.isList {h : Heap} {a : Addr} {vs : List Value} (x : LI h a vs) : h.IsList a vs.toArray := let ⟨n, e⟩ := x; ⟨_, e, rfl, n, rfl⟩
theorem TU.isTuple {h : Heap} {a : Addr} {vs : List Value} (x : TU h a vs) : h.IsTuple a vs.toArray := let ⟨n, e⟩ := x; ⟨_, e, rfl, n, rfl⟩

theorem LI.not_TU {h : Heap} {a : Addr} {vs : List Value} (x : LI h a vs) : ∀ ws, ¬ TU h a ws := fun ws ⟨n', e'⟩ => by
  obtain ⟨n, e⟩ := x
  have := congrArg Obj.cls (Option.some.inj (e.symm.trans e'))
  exact absurd this (by show Value.type "list" ≠ Value.type "tuple"; decide)

section
variable {base : Heap} {os₀ : OsState} {hid : List (Addr × Obj)} {stk : List (Addr × Locals)} {σ : AHeap} {s : Shared}

theorem Rep.seq (R : Rep base os₀ hid stk σ s) {a : Addr} {l : List PV} (h : seqAt σ a = some l) : ∃ vs, LI s.heap a vs ∧ VReps s.heap l vs := by
  unfold seqAt at h
  cases q : σ a with
  | none => rw [q] at h; cases h
  | some o =>
    rw [q] at h
    cases o with
    | list l' => cases h; exact (R.heap _ _ q).2
    | rlist l' => cases h; exact R.heap _ _ q
    | cell v => cases h
    | range x y z => cases h
    | raw o => cases h
    | own r => cases h

/-- a list of ours, written over -/
theorem Rep.listUpd (R : Rep base os₀ hid stk σ s) {a : Addr} {l l' : List PV} (hv : σ a = some (.list l)) {h' : Heap} {tk : Nat} {ws : List Value}
    (hk : ∀ b ob, b ≠ a → s.heap.get? b = some ob → h'.get? b = some ob) (hn : LI h' a ws) (hw : VReps s.heap l' ws) (ht : s.toks ≤ tk := by first | exact Nat.le_refl _ | exact Nat.le_succ _ | assumption) :
    Rep base os₀ hid stk (σ.set a (.list l')) { s with heap := h', toks := tk } ∧ Keeps s.heap h' := by
  obtain ⟨hb, vs, ⟨n, e⟩, _⟩ := R.heap _ _ hv
  have hnt : ∀ vs, ¬ TU s.heap a vs := LI.not_TU ⟨n, e⟩
  have k : Keeps s.heap h' := fun b vs ⟨n, h1⟩ => ⟨n, hk _ _ (fun e => hnt vs (e ▸ ⟨n, h1⟩)) h1⟩
  exact ⟨R.put (s' := { s with heap := h', toks := tk }) hk hnt hb (R.hid_ne hv) (R.stk_ne hv) ⟨hb, ws, hn, hw.mono k⟩ rfl rfl ht, k⟩

theorem LI.upd {h : Heap} {a : Addr} {vs ws : List Value} (x : LI h a vs) {f : Array Value → Array Value} (hf : f vs.toArray = ws.toArray) : LI (h.update a (Obj.mapSeq f)) a ws := by
  obtain ⟨n, e⟩ := x
  have : ∃ m, Obj.mapSeq f { cls := .type "list", dict := none, data := .seq vs.toArray n, slots := #[] } = { cls := .type "list", dict := none, data := .seq ws.toArray m, slots := #[] } := by
    simp only [Obj.mapSeq, hf]; exact ⟨_, rfl⟩
  obtain ⟨m, hm⟩ := this
  exact ⟨m, by rw [Heap.get?_update_self _ e (by rw [hm]; rfl), hm]⟩
theorem upd_other {h : Heap} {a : Addr} {f : Obj → Obj} : ∀ b ob, b ≠ a → h.get? b = some ob → (h.update a f).get? b = some ob := fun b ob hb e => (Heap.get?_update_other _ _ (Ne.symm hb)).trans e
end

section
variable {c : Cx} {st : St} {μ : Locals} {σ : AHeap}

/-! arguments -/
theorem A_nil {pos} {Q : List PV → St → Prop} (h : Q [] st) : WA c pos []  Q st := fun hid stk s ok R => Calls.spliced_nil ⟨[], st, R, .nil, .refl _, h⟩
theorem A_cons {pos e rest} {Q : List PV → St → Prop} (h : WE c e  (fun p st₁ => WA c pos rest  (fun ps st₂ => Q (p :: ps) st₂) st₁) st)
    (he : starEach (e :: rest) c.env = (false, eval e c.env) :: starEach rest c.env) : WA c pos (e :: rest)  Q st := fun hid stk s ok R => by
  rw [he]
  exact Calls.spliced_cons (wpAny_mono (h hid stk s ok R) (fun v s₁ ⟨p, st₁, R₁, hv, k₁, h₁⟩ =>
    wpAny_mono (h₁ hid stk s₁ ok R₁) (fun vs s₂ ⟨ps, st₂, R₂, hvs, k₂, q⟩ => ⟨p :: ps, st₂, R₂, .cons (hv.mono k₂) hvs, k₁.trans k₂, q⟩) fun _ _ y => y) fun _ _ y => y)

/-! calls -/
noncomputable def pvVal : PV → Value
  | .bi id => .builtin id
  | .ty T => .type T
  | .ref a => .ref a
  | _ => .none
/-- a thing that may be called so -/
noncomputable def CallF (c : Cx) : PV → Prop
  | .bi _ | .ty _ => True
  | .ref a => ∃ o fd, c.base.get? a = some o ∧ o.data = .func fd
  | _ => False

theorem E_Call {func e rest pos} {Q : PV → St → Prop} (h : WE c func  (fun fv st₁ => CallF c fv ∧ WA c pos (e :: rest)  (fun ps st₂ => WN c VRep ps (fun vs => call (pvVal fv) vs)  Q st₂) st₁) st)
    (hev : eval (.Call func (e :: rest) [] pos) c.env = (do callWith pos (← eval func c.env) [] (backTo pos (starEach (e :: rest) c.env)) (backToKw pos (keywordEach [] c.env))))
    (he : starEach (e :: rest) c.env = (false, eval e c.env) :: starEach rest c.env)
    (hplain : (backTo pos (starEach rest c.env)).any (·.1) = false) : WE c (.Call func (e :: rest) [] pos)  Q st := fun hid stk s ok R => by
  rw [hev]
  refine wpAny_bind (wpAny_mono (h hid stk s ok R) (fun v s₁ hp => ?_) fun _ _ y => y)
  obtain ⟨fv, st₁, R₁, hv, k₁, hF, h₁⟩ := hp
  have fin : ∀ vs s₂, Post c VReps (fun ps st₂ => WN c VRep ps (fun vs => call (pvVal fv) vs)  Q st₂) hid stk s₁.heap vs s₂ → wpAny c.M c.A (call (pvVal fv) vs) (Post c VRep Q hid stk s.heap) PostX s₂ :=
    fun vs s₂ ⟨ps, st₂, R₂, hvs, k₂, q⟩ => wpAny_mono (q vs hid stk s₂ ok R₂ hvs) (fun _ _ y => y.keeps (k₁.trans k₂)) fun _ _ y => y
  show wpAny _ _ (callWith pos v [] (backTo pos (starEach (e :: rest) c.env)) []) _ _ s₁
  cases fv with
  | bi id =>
    simp only [VRep] at hv; subst hv
    exact callWith_builtin1 (wpAny_mono (h₁ hid stk s₁ ok R₁) fin fun _ _ y => y) he hplain
  | ty T =>
    simp only [VRep] at hv; subst hv
    exact callWith_type1 (wpAny_mono (h₁ hid stk s₁ ok R₁) fin fun _ _ y => y) he hplain
  | ref a =>
    simp only [VRep] at hv; subst hv
    obtain ⟨o, fd, ho, hfd⟩ := hF
    exact callWith_def hfd (wpAny_mono (h₁ hid stk s₁ ok R₁) (fun vs s₂ hq => ⟨(let ⟨_, r⟩ := hq.rep; r.stays _ _ ho), fin vs s₂ hq⟩) fun _ _ y => y) he
  | none => exact hF.elim
  | bool b => exact hF.elim
  | int i => exact hF.elim
  | str x => exact hF.elim
  | tup l => exact hF.elim

/-! methods of lists -/
theorem E_MethList {o name apos e rest pos id} {Q : PV → St → Prop} (slot : Slot "list" name id) (hty : typeOf (.builtin id) = pure (.type "method_descriptor"))
    (h : WE c o  (fun ov st₁ => (∃ a l, ov = .ref a ∧ seqAt st₁.2 a = some l) ∧ WA c pos (e :: rest)  (fun ps st₂ => WN c VRep (ov :: ps) (fun vs => call (.builtin id) vs)  Q st₂) st₁) st)
    (hbase : attributeBase o name c.env (eval o c.env) = eval o c.env)
    (hfew : ((backTo pos (starEach (e :: rest) c.env)).all (fun x => !x.1) && (backToKw pos (keywordEach [] c.env)).all (fun x => x.1.isSome)
      && decide ((e :: rest).length + ([] : List Keyword).length + (if ([] : List Keyword).isEmpty then 0 else 1) < 30)) = true)
    (hline : (apos.endLine == pos.line) = true)
    (he : starEach (e :: rest) c.env = (false, eval e c.env) :: starEach rest c.env)
    (hplain : (backTo pos (starEach rest c.env)).any (·.1) = false) : WE c (.Call (.Attribute o name apos) (e :: rest) [] pos)  Q st := fun hid stk s ok R => by
  refine wpAny_Call_method hbase hfew hline F.plainAttrs_list slot hty (wpAny_mono (h hid stk s ok R) (fun v s₁ hp => ?_) fun _ _ y => y)
  obtain ⟨ov, st₁, R₁, hv, k₁, ⟨a, l, rfl, hs⟩, h₁⟩ := hp
  simp only [VRep] at hv; subst hv
  obtain ⟨vs, hL, _⟩ := R₁.seq hs
  refine ⟨hL.isList.typeIs, fun b hb => ?_, callWith_method1 (wpAny_mono (h₁ hid stk s₁ ok R₁) (fun vs s₂ hq => ?_) fun _ _ y => y) he hplain⟩
  · cases hb; obtain ⟨n, e⟩ := hL; exact ⟨_, e, rfl⟩
  · obtain ⟨ps, st₂, R₂, hvs, k₂, q⟩ := hq
    exact wpAny_mono (q (.ref a :: vs) hid stk s₂ ok R₂ (.cons rfl hvs)) (fun _ _ y => y.keeps (k₁.trans k₂)) fun _ _ y => y
/-! items -/
noncomputable def GetI (c : Cx) (p q : PV) (Q : PV → St → Prop) (st : St) : Prop :=
  ∀ v u hid stk s, COk c.lv c.A c.env (stk.map (·.1)) → Rep c.base c.os hid ((c.env.locals, st.1) :: stk) st.2 s → VRep s.heap p v → VRep s.heap q u →
    (∃ T id, s.TypeIs v T ∧ typeLookup (.type T) "__getitem__" = pure (some (.builtin id))) ∧ wpAny c.M c.A (getItem v u) (Post c VRep Q hid stk s.heap) PostX s
noncomputable def notSlice : Expr → Bool
  | .Slice .. => false
  | _ => true
theorem subscripted_not {slice : Expr} (h : notSlice slice = true) (o i : Value) : subscripted slice false o i = operate [o, i] (getItem o i) := by
  cases slice <;> first | (cases h; done) | with_unfolding_all rfl
theorem E_Subscript {value slice pos} {Q : PV → St → Prop} (h : WE c value  (fun p st₁ => WE c slice  (fun q st₂ => GetI c p q  Q st₂) st₁) st)
    (hs : notSlice slice = true) : WE c (.Subscript value slice pos)  Q st := fun hid stk s ok R => by
  show wpAny _ _ (do
    let o ← eval value c.env
    let i ← holding [o] (eval slice c.env)
    standAt pos
    let r ← subscripted slice (← getitemInPython o) o i
    letTemporaryGo value o r
    pure r) _ _ s
  refine wpAny_bind (wpAny_mono (h hid stk s ok R) (fun v s₁ hp => ?_) fun _ _ y => y)
  obtain ⟨p, st₁, R₁, hv, k₁, h₁⟩ := hp
  refine wpAny_bind (wpAny_holding (wpAny_mono (h₁ hid stk s₁ ok R₁) (fun u s₂ hq => ?_) fun _ _ y => y))
  obtain ⟨q, st₂, R₂, hu, k₂, h₂⟩ := hq
  refine wpAny_bind (wpAny_standAt ?_)
  obtain ⟨⟨T, id, hT, hl⟩, hg⟩ := h₂ v u hid stk s₂ ok R₂ (hv.mono k₂) hu
  exact tail_any (value := value) (slice := slice) hT hl (wpAny_mono hg (fun _ _ y => y.keeps (k₁.trans k₂)) fun _ _ y => y) (subscripted_not hs v u)

theorem get_list {a : Addr} {l : List PV} {i : Int} {p : PV} {Q : PV → St → Prop} (hs : seqAt σ a = some l) (h0 : 0 ≤ i) (hx : l[i.toNat]? = some p) (hz : l.length ≤ 16777216) (h : Q p (μ, σ)) : GetI c (.ref a) (.int i)  Q (μ, σ) :=
  fun v u hid stk s ok R hv hu => by
    simp only [VRep] at hv hu; subst hv
    obtain ⟨t, rfl⟩ := hu
    obtain ⟨vs, hL, hvs⟩ := R.seq hs
    obtain ⟨x, hx', hr⟩ := hvs.get _ _ hx
    have hlt : i.toNat < l.length := (List.getElem?_eq_some_iff.mp hx).1
    exact ⟨⟨"list", _, hL.isList.typeIs, slot_list_getitem.lookup⟩, wpAny_getItem_list hL.isList h0 (by omega) (by simpa using hx') ⟨p, (μ, σ), R, hr, .refl _, h⟩⟩

/-- a plain list's item, stored -/
theorem wp_setItem {M : Model} {A : Around} {E : Value → Shared → Prop} {prog : Program} {w : World} {s : Shared} {a : Addr} {ws : List Value} {i : Int} {t : Tok} {v : Value} {Q : Unit → Shared → Prop} (hL : LI s.heap a ws) (h0 : 0 ≤ i) (hi : i < ws.length) (hz : ws.length ≤ 16777216)
    (h : Q () { s with heap := s.heap.update a (Obj.mapSeq (·.setIfInBounds i.toNat v)) }) : wpAny (model prog w) A (setItem (.ref a) (.int i t) v) Q E s := by
  have hT := hL.isList.typeIs
  obtain ⟨n, e⟩ := hL
  have hfit : i < 2 ^ 63 := by omega
  unfold setItem
  refine wpAny_holding (wpAny_bind (wpAny_sequenceKey hT (by decide) ?_))
  refine wpAny_bind (wpAny_callSpecial?_slot (name := Str.ofString "__setitem__") hT slot_list_setitem (wpAny_call_entry slot_list_setitem hT entry_list_setitem ?_ (args_list_setitem _ _ _)))
  show wpAny _ _ (Builtin.List.listSubscript? (.int i t) >>= _) _ _ s
  refine wpAny_bind (wpAny_listSubscript_int (fitsIndex_of h0 hfit) ?_)
  clear hfit hz
  obtain ⟨j, rfl⟩ := Int.eq_ofNat_of_zero_le h0
  have hj : j < ws.toArray.size := by simp; omega
  show wpAny _ _ ((seqItemAt a j >>= fun r => pure (r.map (j, ·))) >>= _) _ _ s
  refine wpAny_bind (wpAny_bind (wpAny_seqItemAt e rfl (wpAny_pure ?_)))
  rw [Array.getElem?_eq_getElem hj]
  show wpAny _ _ (setSeqItemAt a j v >>= _) _ _ s
  refine wpAny_bind (wpAny_setSeqItemAt e rfl ?_)
  first
    | exact wpAny_bind (wpAny_pure (wpAny_pure ⟨.none, rfl, wpAny_pure h⟩))
    | exact wpAny_pure ⟨.none, rfl, wpAny_pure h⟩

noncomputable def W3 (c : Cx) {α β : Type} (rep : Heap → β → α → Prop) (p q r : PV) (t : Value → Value → Value → Sem α) (Q : β → St → Prop) (st : St) : Prop :=
  ∀ v u w hid stk s, COk c.lv c.A c.env (stk.map (·.1)) → Rep c.base c.os hid ((c.env.locals, st.1) :: stk) st.2 s → VRep s.heap p v → VRep s.heap q u → VRep s.heap r w → wpAny c.M c.A (t v u w) (Post c rep Q hid stk s.heap) PostX s

theorem set_list {a : Addr} {l : List PV} {i : Int} {p : PV} {Q : Unit → St → Prop} (hs : σ a = some (.list l)) (h0 : 0 ≤ i) (hi : i < l.length) (hz : l.length ≤ 16777216) (h : Q () (μ, σ.set a (.list (l.set i.toNat p)))) :
    W3 c UnitRep (.ref a) (.int i) p (fun o i v => setItem o i v)  Q (μ, σ) := fun v1 v2 v3 hid stk s ok R h1 h2 h3 => by
  simp only [VRep] at h1 h2; subst h1
  obtain ⟨t, rfl⟩ := h2
  obtain ⟨hb, ws, hL, hws⟩ := R.heap _ _ hs
  have hlen := hws.length
  refine wp_setItem (M := c.M) hL h0 (by omega) (by omega) ?_
  obtain ⟨R', k⟩ := R.listUpd (tk := s.toks) (ws := ws.set i.toNat v3) hs upd_other (hL.upd (f := fun x => x.setIfInBounds i.toNat v3) (by simp)) (hws.set i.toNat h3)
  exact ⟨(), (μ, _), R', trivial, k, h⟩
theorem S_AssignSub {o i pos' value pos} {Q : AFlow → St → Prop}
    (h : WE c value  (fun p st₁ => WE c o  (fun po st₂ => WE c i  (fun pi st₃ => W3 c UnitRep po pi p (fun o i v => setItem o i v)  (fun _ st₄ => Q .next st₄) st₃) st₂) st₁) st)
    (hs : swapsWith value (some (.Subscript o i pos')) pos.line c.env = pure false) : WX c (.Assign [.Subscript o i pos'] value pos)  Q st := fun hid stk s ok R =>
  wpAny_Assign_Subscript (wpAny_mono (h hid stk s ok R) (fun v s₁ ⟨p, st₁, R₁, hv, k₁, h₁⟩ =>
    wpAny_mono (h₁ hid stk s₁ ok R₁) (fun vo s₂ ⟨po, st₂, R₂, hvo, k₂, h₂⟩ =>
      wpAny_mono (h₂ hid stk s₂ ok R₂) (fun vi s₃ ⟨pi, st₃, R₃, hvi, k₃, h₃⟩ =>
        wpAny_mono (h₃ vo vi v hid stk s₃ ok R₃ (hvo.mono k₃) hvi (hv.mono (k₂.trans k₃))) (fun _ s₄ ⟨_, st₄, R₄, _, k₄, q⟩ => ⟨.next, st₄, R₄, rfl, (k₁.trans k₂).trans (k₃.trans k₄), q⟩) fun _ _ y => y) fun _ _ y => y) fun _ _ y => y) fun _ _ y => y) hs

/-! list calls -/
theorem len_seq {a : Addr} {l : List PV} {Q : PV → St → Prop} (hs : seqAt σ a = some l) (hz : l.length ≤ 16777216) (h : Q (.int l.length) (μ, σ)) : WN c VRep [.ref a] (fun vs => call (.builtin "len") vs)  Q (μ, σ) := fun vs hid stk s ok R hv => by
  obtain ⟨v1, r1, rfl, h1, hv⟩ := hv.cons_inv
  rw [hv.nil_inv]
  simp only [VRep] at h1; subst h1
  obtain ⟨ws, hL, hws⟩ := R.seq hs
  have hlen := hws.length
  refine len_list hL.isList (by simp; omega) ⟨.int l.length, (μ, σ), R.toks _, ⟨s.toks + 1, ?_⟩, .refl _, h⟩
  simp [hlen]
theorem append_list {a : Addr} {l : List PV} {p : PV} {Q : PV → St → Prop} (hs : σ a = some (.list l)) (hz : l.length ≤ 16777216) (h : Q .none (μ, σ.set a (.list (l ++ [p])))) :
    WN c VRep [.ref a, p] (fun vs => call (.builtin "list.append") vs)  Q (μ, σ) := fun vs hid stk s ok R hv => by
  obtain ⟨v1, r1, rfl, h1, hv⟩ := hv.cons_inv
  obtain ⟨v2, r2, rfl, h2, hv⟩ := hv.cons_inv
  rw [hv.nil_inv]
  simp only [VRep] at h1; subst h1
  obtain ⟨hb, ws, hL, hws⟩ := R.heap _ _ hs
  have hlen := hws.length
  refine wpAny_list_append_plain (items := ws.toArray) hL (fun h' hp hsb => ?_) (by simp [sizeLine_eq]; omega)
  have hn : LI h' a (ws ++ [v2]) := by simpa [LI, Heap.PlainList] using hp
  obtain ⟨R', k⟩ := R.listUpd (tk := s.toks) hs (fun b ob hne e => (hsb.2 b hne).trans e) hn (hws.append (.cons h2 .nil))
  exact ⟨.none, (μ, _), R', by simp only [VRep], k, h⟩

/-! truth -/
theorem truthy_b {b : Bool} {Q : Bool → St → Prop} (h : Q b st) : W1 c BoolRep (.bool b) truthy  Q st := fun v hid stk s ok R hv => by
  simp only [VRep] at hv; subst hv; exact wpAny_truthy_bool ⟨b, st, R, rfl, .refl _, h⟩
theorem truthy_l {a : Addr} {l : List PV} {Q : Bool → St → Prop} (hs : seqAt σ a = some l) (hz : l.length ≤ 16777216) (h : Q (!l.isEmpty) (μ, σ)) : W1 c BoolRep (.ref a) truthy  Q (μ, σ) := fun v hid stk s ok R hv => by
  simp only [VRep] at hv; subst hv
  obtain ⟨ws, hL, hws⟩ := R.seq hs
  have hlen := hws.length
  refine wpAny_truthy_list hL.isList (by simp; omega) ⟨!l.isEmpty, (μ, σ), R.toks _, ?_, .refl _, h⟩
  show (!ws.toArray.isEmpty) = !l.isEmpty
  cases l <;> cases ws <;> simp_all

/-! ints -/
theorem W2_ints {op : Operator} {i j r : Int} {Q : PV → St → Prop} (hop : ∀ {prog : Program} {w : World} {A : Around} {E : Value → Shared → Prop} {s : Shared} {t u : Tok} {Q : Value → Shared → Prop}, Q (.int r s.toks) { s with toks := s.toks + 1 } → wpAny (model prog w) A (binaryOp op (.int i t) (.int j u)) Q E s)
    (h : Q (.int r) st) : W2 c VRep (.int i) (.int j) (binaryOp op)  Q st := fun v u hid stk s ok R hv hu => by
  simp only [VRep] at hv hu; obtain ⟨t, rfl⟩ := hv; obtain ⟨t', rfl⟩ := hu
  exact hop ⟨.int r, st, R.toks _, ⟨_, rfl⟩, .refl _, h⟩
theorem bin_add {i j : Int} {Q : PV → St → Prop} (h : Q (.int (i + j)) st) : W2 c VRep (.int i) (.int j) (binaryOp .Add)  Q st := W2_ints (fun q => PyProof.Rows.add_int q) h
theorem bin_sub {i j : Int} {Q : PV → St → Prop} (h : Q (.int (i - j)) st) : W2 c VRep (.int i) (.int j) (binaryOp .Sub)  Q st := W2_ints (fun q => PyProof.Rows.sub_int q) h
theorem bin_mul {i j : Int} {Q : PV → St → Prop} (h : Q (.int (i * j)) st) (hm : IntMulOk i j) : W2 c VRep (.int i) (.int j) (binaryOp .Mult)  Q st := W2_ints (fun q => PySem.P.mul_int q hm) h
theorem bin_mod {i j : Int} {Q : PV → St → Prop} (hb : j ≠ 0) (h : Q (.int (i.fmod j)) st) : W2 c VRep (.int i) (.int j) (binaryOp .Mod)  Q st := W2_ints (fun q => PyProof.Rows.mod_int hb q) h
theorem bin_shr {i j : Int} {Q : PV → St → Prop} (hb : 0 ≤ j) (h : Q (.int (i.fdiv (2 ^ j.toNat))) st) : W2 c VRep (.int i) (.int j) (binaryOp .RShift)  Q st := W2_ints (fun q => PyProof.Rows.rshift_int hb q) h

theorem W2_cmp {op : CmpOp} {i j : Int} {r : Bool} {Q : PV → St → Prop} (hop : ∀ {prog : Program} {w : World} {A : Around} {E : Value → Shared → Prop} {s : Shared} {t u : Tok} {Q : Value → Shared → Prop}, Q (.bool r) s → wpAny (model prog w) A (compareOp op (.int i t) (.int j u)) Q E s)
    (h : Q (.bool r) st) : W2 c VRep (.int i) (.int j) (compareOp op)  Q st := fun v u hid stk s ok R hv hu => by
  simp only [VRep] at hv hu; obtain ⟨t, rfl⟩ := hv; obtain ⟨t', rfl⟩ := hu
  exact hop ⟨.bool r, st, R, rfl, .refl _, h⟩
theorem cmp_lt {i j : Int} {Q : PV → St → Prop} (h : Q (.bool (decide (i < j))) st) : W2 c VRep (.int i) (.int j) (compareOp .Lt)  Q st := W2_cmp (fun q => PySem.P.lt_int q) h
theorem cmp_gt {i j : Int} {Q : PV → St → Prop} (h : Q (.bool (decide (i > j))) st) : W2 c VRep (.int i) (.int j) (compareOp .Gt)  Q st := W2_cmp (fun q => PySem.P.gt_int q) h
theorem cmp_eq {i j : Int} {Q : PV → St → Prop} (h : Q (.bool (i == j)) st) : W2 c VRep (.int i) (.int j) (compareOp .Eq)  Q st := W2_cmp (fun q => PySem.P.eq_int q) h
end
end Mine
end
section
open PySem PySem.W PyProof.Rows
set_option Elab.async false
set_option linter.unusedVariables false
namespace Mine

/-- st' tells no more than st -/
noncomputable def St.le (st' st : St) : Prop := (∀ x p, st'.1.lookup x = some p → st.1.lookup x = some p) ∧ st'.2.Sub st.2
theorem St.le_refl (st : St) : St.le st st := ⟨fun _ _ h => h, .refl _⟩
theorem lookup_append_left {x : Str} {p : PV} : ∀ {μ ν : Locals}, μ.lookup x = some p → (μ ++ ν).lookup x = some p
  | [], _, h => by cases h
  | (y, q) :: r, ν, h => by
    rw [List.cons_append, List.lookup_cons]
    rw [List.lookup_cons] at h
    split at h
    · assumption
    · exact lookup_append_left h
theorem St.le_app {μ ν : Locals} {σ σ' : AHeap} (h : σ.Sub σ') : St.le (μ, σ) (μ ++ ν, σ') := ⟨fun _ _ e => lookup_append_left e, h⟩

section
variable {c : Cx} {st : St}
theorem WT.le {α β : Type} {rep : Heap → β → α → Prop} {t : Sem α} {Q : β → St → Prop} {st' : St} (h : WT c rep t  Q st') (hl : St.le st' st) : WT c rep t  Q st :=
  fun hid stk s ok R => h hid stk s ok ((R.weaken hl.2).locals hl.1)

/-! continuations that stand once -/
noncomputable def seqQ (c : Cx) (l : List Stmt) (Q : AFlow → St → Prop) : AFlow → St → Prop
  | .next, st => WS c l  Q st
  | .brk, st => Q .brk st
  | .cont, st => Q .cont st
  | .ret p, st => Q (.ret p) st
theorem seqQ_next {l : List Stmt} {Q : AFlow → St → Prop} (h : WS c l  Q st) : seqQ c l  Q .next st := h
theorem seqQ_cont {l : List Stmt} {Q : AFlow → St → Prop} (h : Q .cont st) : seqQ c l  Q .cont st := h
theorem seqQ_ret {l : List Stmt} {Q : AFlow → St → Prop} {p} (h : Q (.ret p) st) : seqQ c l  Q (.ret p) st := h
theorem S_seq {x l} {Q : AFlow → St → Prop} (h : WX c x  (seqQ c l  Q) st) : WS c (x :: l)  Q st :=
  S_cons (WT.mono h (fun f st q => by cases f <;> exact q) fun _ _ q => q)
theorem S_last {x} {Q : AFlow → St → Prop} (h : WX c x  Q st) : WS c [x]  Q st :=
  S_cons (WT.mono h (fun f st q => by cases f with | next => exact S_nil q | brk => exact q | cont => exact q | ret p => exact q) fun _ _ q => q)

noncomputable def ifQ (c : Cx) (body orelse : List Stmt) (Q : AFlow → St → Prop) (b : Bool) (st : St) : Prop := if b then WS c body  Q st else WS c orelse  Q st
theorem ifQ_true {l r : List Stmt} {Q : AFlow → St → Prop} (h : WS c l  Q st) : ifQ c l r  Q true st := h
theorem ifQ_false {l r : List Stmt} {Q : AFlow → St → Prop} (h : WS c r  Q st) : ifQ c l r  Q false st := h
theorem ifQ_dec {l r : List Stmt} {Q : AFlow → St → Prop} {b : Bool} (h1 : b = true → WS c l  Q st) (h2 : b = false → WS c r  Q st) : ifQ c l r  Q b st := by
  cases b
  · exact h2 rfl
  · exact h1 rfl
theorem S_if {test body orelse pos} {Q : AFlow → St → Prop} (h : WC c test  (ifQ c body orelse  Q) st) : WX c (.If test body orelse pos)  Q st := S_If h

noncomputable def andQ (c : Cx) (l : List Expr) (Q : Bool → St → Prop) (b : Bool) (st : St) : Prop := if b then WAll c .And l  Q st else Q false st
theorem andQ_dec {l} {Q : Bool → St → Prop} {b : Bool} (h1 : b = true → WAll c .And l  Q st) (h2 : b = false → Q false st) : andQ c l  Q b st := by
  cases b
  · exact h2 rfl
  · exact h1 rfl
theorem And_step {x l} {Q : Bool → St → Prop} (h : WC c x  (andQ c l  Q) st) : WAll c .And (x :: l)  Q st := And_cons h
noncomputable def orQ (c : Cx) (l : List Expr) (Q : Bool → St → Prop) (b : Bool) (st : St) : Prop := if b then Q true st else WAll c .Or l  Q st
theorem orQ_true {l} {Q : Bool → St → Prop} (h : Q true st) : orQ c l  Q true st := h
theorem orQ_false {l} {Q : Bool → St → Prop} (h : WAll c .Or l  Q st) : orQ c l  Q false st := h
theorem Or_step {x l} {Q : Bool → St → Prop} (h : WC c x  (orQ c l  Q) st) : WAll c .Or (x :: l)  Q st := Or_cons h
/-- the last of a chain -/
theorem And_last {x} {Q : Bool → St → Prop} (h : WC c x  Q st) : WAll c .And [x]  Q st :=
  And_cons (WT.mono h (fun b st q => by cases b; exact q; exact And_nil q) fun _ _ q => q)
theorem Or_last {x} {Q : Bool → St → Prop} (h : WC c x  Q st) : WAll c .Or [x]  Q st :=
  Or_cons (WT.mono h (fun b st q => by cases b; exact Or_nil q; exact q) fun _ _ q => q)

noncomputable def loopQ (I : Nat → St → Prop) (n : Nat) (Q : AFlow → St → Prop) : AFlow → St → Prop
  | .next, st | .cont, st => ∃ m st₃, m < n ∧ I m st₃ ∧ St.le st₃ st
  | .brk, st => Q .next st
  | .ret p, st => Q (.ret p) st
theorem loopQ_brk {I n} {Q : AFlow → St → Prop} (h : Q .next st) : loopQ I n Q .brk st := h
theorem loopQ_next {I : Nat → St → Prop} {n} {Q : AFlow → St → Prop} (m : Nat) {st₃ : St} (hm : m < n) (h : I m st₃) (hl : St.le st₃ st) : loopQ I n Q .next st := ⟨m, st₃, hm, h, hl⟩
theorem loopQ_cont {I : Nat → St → Prop} {n} {Q : AFlow → St → Prop} (m : Nat) {st₃ : St} (hm : m < n) (h : I m st₃) (hl : St.le st₃ st) : loopQ I n Q .cont st := ⟨m, st₃, hm, h, hl⟩

/-- a while by what holds between its turns; what a turn leaves behind may be forgotten -/
theorem S_while {test body orelse pos} {Q : AFlow → St → Prop} (I : Nat → St → Prop) (n : Nat) (st₀ : St) (h0 : I n st₀) (hl0 : St.le st₀ st)
    (turn : ∀ n st, I n st → WC c test  (fun b st₁ => (b = true → WS c body  (loopQ I n Q) st₁) ∧ (b = false → WS c orelse  Q st₁)) st) : WX c (.While test body orelse pos)  Q st := by
  refine S_While (fun n st => ∃ st₀, I n st₀ ∧ St.le st₀ st) n ⟨st₀, h0, hl0⟩ fun n st ⟨st₀, hI, hl⟩ => WT.le ?_ hl
  refine (turn n st₀ hI).mono (fun b st₁ h₁ => ?_) fun _ _ x => x
  cases b
  · exact h₁.2 rfl
  · refine WT.mono (h₁.1 rfl) (fun f st₂ h₂ => ?_) fun _ _ x => x
    cases f with
    | next => obtain ⟨m, st₃, h1, h2, h3⟩ := h₂; exact ⟨m, h1, st₃, h2, h3⟩
    | cont => obtain ⟨m, st₃, h1, h2, h3⟩ := h₂; exact ⟨m, h1, st₃, h2, h3⟩
    | brk => exact h₂
    | ret p => exact h₂
end

theorem at_set_same {σ : AHeap} {a : Addr} {o : AObj} : (σ.set a o) a = some o := AHeap.set_same ..
theorem at_set_ne {σ : AHeap} {a b : Addr} {o o' : AObj} (h : b ≠ a) (h2 : σ b = some o) : (σ.set a o') b = some o := by rw [AHeap.set_ne _ _ h]; exact h2
theorem seq_of {σ : AHeap} {a : Addr} {l : List PV} (h : σ a = some (.list l)) : seqAt σ a = some l := by simp [seqAt, h, AObj.items?]
theorem seq_ofr {σ : AHeap} {a : Addr} {l : List PV} (h : σ a = some (.rlist l)) : seqAt σ a = some l := by simp [seqAt, h, AObj.items?]
end Mine
end
section
open PySem PySem.W PyProof.Rows
set_option Elab.async false
set_option linter.unusedVariables false
namespace Mine

section
variable {base : Heap} {os₀ : OsState} {hid hs hs' : List (Addr × Obj)} {stk : List (Addr × Locals)} {σ : AHeap} {s : Shared}

/-- hidden things have changed -/
theorem Rep.hidChange (R : Rep base os₀ (hs ++ hid) stk σ s) {h' : Heap} {tk : Nat} (hm : hs'.map (·.1) = hs.map (·.1)) (hn : ∀ p ∈ hs', h'.get? p.1 = some p.2 ∧ p.2.cls ≠ .type "tuple")
    (hk : ∀ b o, b ∉ hs.map (·.1) → s.heap.get? b = some o → h'.get? b = some o) (hcl : ∀ p ∈ hs, p.2.cls ≠ .type "tuple") (ht : s.toks ≤ tk := by first | exact Nat.le_refl _ | exact Nat.le_succ _ | assumption) : Rep base os₀ (hs' ++ hid) stk σ { s with heap := h', toks := tk } ∧ Keeps s.heap h' := by
  have hin : ∀ b, b ∈ hs.map (·.1) → ∃ p ∈ hs ++ hid, p.1 = b := fun b hb => let ⟨p, hp, e⟩ := List.mem_map.mp hb; ⟨p, List.mem_append_left _ hp, e⟩
  have hin' : ∀ b, b ∈ hs.map (·.1) → ∃ p ∈ hs, p.1 = b := fun b hb => let ⟨p, hp, e⟩ := List.mem_map.mp hb; ⟨p, hp, e⟩
  have k : Keeps s.heap h' := fun b vs ⟨n, e⟩ => ⟨n, hk b _ (fun q => by
    obtain ⟨p, hp, rfl⟩ := hin' b q
    obtain ⟨a1, _, _, _, e1⟩ := R.hid p (List.mem_append_left _ hp)
    rw [a1] at e; exact hcl p hp (by rw [Option.some.inj e])) e⟩
  have hnd : ((hs' ++ hid).map (·.1)).Nodup := by have := R.hnd; rw [List.map_append] at this ⊢; rw [hm]; exact this
  refine ⟨⟨fun b o e => hk b o (fun q => ?_) (R.stays b o e), R.gens, R.os, fun p hp => ?_, fun f hf => ⟨(R.frames f hf).1.mono k fun _ => hk _ _ fun q => ?_, (R.frames f hf).2⟩, R.nodup, hnd, fun b o e => (R.heap b o e).mono k fun _ => hk _ _ fun q => ?_, Nat.lt_of_lt_of_le R.tk ht⟩, k⟩
  · obtain ⟨p, hp, rfl⟩ := hin b q
    rw [(R.hid p hp).2.1] at e; cases e
  · rcases List.mem_append.mp hp with hp | hp
    · have : p.1 ∈ hs.map (·.1) := hm ▸ List.mem_map_of_mem hp
      obtain ⟨q, hq, e⟩ := hin _ this
      obtain ⟨_, b1, c1, d1, _⟩ := R.hid q hq
      exact ⟨(hn p hp).1, e ▸ b1, e ▸ c1, e ▸ d1, trivial⟩
    · obtain ⟨a1, r⟩ := R.hid p (List.mem_append_right _ hp)
      refine ⟨hk _ _ (fun q => ?_) a1, r⟩
      have := R.hnd
      rw [List.map_append, List.nodup_append] at this
      exact this.2.2 _ q _ (List.mem_map_of_mem hp) rfl
  · obtain ⟨p, hp, e⟩ := hin _ q
    exact (R.hid p hp).2.2.2.1 (e ▸ List.mem_map_of_mem hf)
  · obtain ⟨p, hp, e'⟩ := hin _ q
    have := (R.hid p hp).2.2.1
    rw [e', e] at this; cases this
theorem Rep.hidDrop (R : Rep base os₀ (hs ++ hid) stk σ s) : Rep base os₀ hid stk σ s :=
  ⟨R.stays, R.gens, R.os, fun p hp => R.hid p (List.mem_append_right _ hp), R.frames, R.nodup, by have := R.hnd; rw [List.map_append, List.nodup_append] at this; exact this.2.1, R.heap, R.tk⟩
/-- hidden things have gone wrong and are forgotten -/
theorem Rep.hidForget (R : Rep base os₀ (hs ++ hid) stk σ s) {h' : Heap} {tk : Nat} (hk : ∀ b o, b ∉ hs.map (·.1) → s.heap.get? b = some o → h'.get? b = some o) (hcl : ∀ p ∈ hs, p.2.cls ≠ .type "tuple") (ht : s.toks ≤ tk := by first | exact Nat.le_refl _ | exact Nat.le_succ _ | assumption) : Rep base os₀ hid stk σ { s with heap := h', toks := tk } ∧ Keeps s.heap h' := by
  have hin : ∀ b, b ∈ hs.map (·.1) → ∃ p ∈ hs ++ hid, p.1 = b := fun b hb => let ⟨p, hp, e⟩ := List.mem_map.mp hb; ⟨p, List.mem_append_left _ hp, e⟩
  have hin' : ∀ b, b ∈ hs.map (·.1) → ∃ p ∈ hs, p.1 = b := fun b hb => let ⟨p, hp, e⟩ := List.mem_map.mp hb; ⟨p, hp, e⟩
  have k : Keeps s.heap h' := fun b vs ⟨n, e⟩ => ⟨n, hk b _ (fun q => by
    obtain ⟨p, hp, rfl⟩ := hin' b q
    obtain ⟨a1, _, _, _, e1⟩ := R.hid p (List.mem_append_left _ hp)
    rw [a1] at e; exact hcl p hp (by rw [Option.some.inj e])) e⟩
  refine ⟨⟨fun b o e => hk b o (fun q => ?_) (R.stays b o e), R.gens, R.os, fun p hp => ?_, fun f hf => ⟨(R.frames f hf).1.mono k fun _ => hk _ _ fun q => ?_, (R.frames f hf).2⟩, R.nodup, R.hidDrop.hnd, fun b o e => (R.heap b o e).mono k fun _ => hk _ _ fun q => ?_, Nat.lt_of_lt_of_le R.tk ht⟩, k⟩
  · obtain ⟨p, hp, rfl⟩ := hin b q
    rw [(R.hid p hp).2.1] at e; cases e
  · obtain ⟨a1, r⟩ := R.hid p (List.mem_append_right _ hp)
    refine ⟨hk _ _ (fun q => ?_) a1, r⟩
    have := R.hnd
    rw [List.map_append, List.nodup_append] at this
    exact this.2.2 _ q _ (List.mem_map_of_mem hp) rfl
  · obtain ⟨p, hp, e⟩ := hin _ q
    exact (R.hid p hp).2.2.2.1 (e ▸ List.mem_map_of_mem hf)
  · obtain ⟨p, hp, e'⟩ := hin _ q
    have := (R.hid p hp).2.2.1
    rw [e', e] at this; cases this
/-- a new hidden thing -/
theorem Rep.hidNew (R : Rep base os₀ hid stk σ s) {ob : Obj} (hc : ob.cls ≠ .type "tuple") (hf : ob.isFreed = false) : Rep base os₀ ((s.heap.objs.size, ob) :: hid) stk σ { s with heap := s.heap.push ob } := by
  have R' := R.grow (s' := { s with heap := s.heap.push ob }) (fun _ _ e => Heap.get?_push_of_some _ e) rfl rfl
  refine ⟨R'.stays, R'.gens, R'.os, fun p hp => ?_, R'.frames, R'.nodup, ?_, R'.heap, R'.tk⟩
  · rcases List.mem_cons.mp hp with rfl | hp
    · refine ⟨Heap.get?_push_size _ hf, R.fresh_base, R.fresh_σ, fun q => ?_, trivial⟩
      obtain ⟨f, hf, e⟩ := List.mem_map.mp q
      exact R.fresh_stk f hf e
    · exact R'.hid p hp
  · simp only [List.map_cons, List.nodup_cons]
    exact ⟨fun q => by obtain ⟨p, hp, e⟩ := List.mem_map.mp q; exact R.fresh_hid p hp e, R.hnd⟩
end

/-- an iterator at work: Sk k tells its hidden things ahead of item k -/
structure IterAt (G : Gx) (target : Expr) (it : Addr) (Sk : Nat → List (Addr × Obj) → Prop) (KP : Heap → Prop) (P : AHeap → Prop) (items : List PV) : Prop where
  mono : ∀ h h', Keeps h h' → KP h → KP h'
  next : ∀ k p, items[k]? = some p → ∀ A hid stk σ s hs E Q, A.handled = none → Sk k hs → KP s.heap → P σ → Rep G.base G.os (hs ++ hid) stk σ s →
    (∀ v s', (∀ Q' E' A', (∀ s'' hs'', Sk (k + 1) hs'' → Rep G.base G.os (hs'' ++ hid) stk σ s'' → Keeps s'.heap s''.heap → Q' () s'') → wpAny G.M A' (letOwnedTupleGo target (.ref it) v) Q' E' s') → VRep s'.heap p v → Keeps s.heap s'.heap → Q (some v) s') → wpAny G.M A (pyNext (.ref it)) Q E s
  stop : ∀ A hid stk σ s hs E Q, A.handled = none → Sk items.length hs → KP s.heap → P σ → Rep G.base G.os (hs ++ hid) stk σ s →
    (∀ s', Rep G.base G.os hid stk σ s' → Keeps s.heap s'.heap → Q none s') → wpAny G.M A (pyNext (.ref it)) Q E s
  self : ∀ k A hid stk σ s hs E Q, Sk k hs → Rep G.base G.os (hs ++ hid) stk σ s → Q (.ref it) s → wpAny G.M A (pyIter (.ref it)) Q E s

theorem letOwned_other {prog : Program} {w : World} {A : Around} {E : Value → Shared → Prop} {s : Shared} {target : Expr} {it : Addr} {v : Value} {ob : Obj} {Q : Unit → Shared → Prop} (ho : s.heap.get? it = some ob)
    (hc : ∀ n, ob.cls = .type n → ["enumerate", "zip", "dict_itemiterator", "dict_reverseitemiterator", "odict_iterator", "itertools.zip_longest", "itertools.pairwise"].contains n = false) (h : Q () s) : wpAny (model prog w) A (letOwnedTupleGo target (.ref it) v) Q E s := by
  have key : ∀ a : Addr, wpAny (model prog w) A (do
      let o ← load it
      match o.cls, o.data with
      | .type n, .fields vs =>
        if ["enumerate", "zip", "dict_itemiterator", "dict_reverseitemiterator", "odict_iterator", "itertools.zip_longest", "itertools.pairwise"].contains n && vs[0]? == some (rawInt a) then
          rule "for.unpacks-the-owned-tuple"
          updateField it 0 .none
      | _, _ => pure ()) Q E s := fun a => by
    refine wpAny_bind (wpAny_load ho ?_)
    obtain ⟨cl, d, dt, sl⟩ := ob
    cases cl with
    | type n =>
      cases dt with
      | fields vs =>
        have := hc n rfl
        simp only [this, Bool.false_and, Bool.false_eq_true, if_false]
        exact wpAny_pure h
      | _ => exact wpAny_pure h
    | _ => exact wpAny_pure h
  unfold letOwnedTupleGo
  cases target <;> first
    | exact wpAny_pure h
    | (cases v <;> first | exact wpAny_pure h | exact key _)

section
variable {G : Gx}
noncomputable def IsLIt (a : Addr) (k : Nat) (o : Obj) : Prop := o.cls = .type "list_iterator" ∧ o.data = .fields #[.ref a, .int k 0]
theorem iter_list (target : Expr) (it a : Addr) (l : List PV) : IterAt G target it (fun k hs => ∃ o, hs = [(it, o)] ∧ IsLIt a k o) (fun _ => True) (fun σ => seqAt σ a = some l) l where
  mono := fun _ _ _ _ => trivial
  next := fun k p hp A hid stk σ s hs E Q hh hsk _ hσ R hQ => by
    obtain ⟨o, rfl, hc, hd⟩ := hsk
    obtain ⟨vs, hL, hvs⟩ := R.seq hσ
    obtain ⟨v, hv, hr⟩ := hvs.get _ _ hp
    have ho := (R.hid (it, o) (List.mem_cons_self ..)).1
    refine wpAny_pyNext_list_item ⟨_, ho, hc, hd⟩ hL.isList (by simpa using hv) fun h' hit' hs' => ?_
    obtain ⟨o', ho', hc', hd'⟩ := hit'
    obtain ⟨R', kp⟩ := R.hidChange (hs' := [(it, o')]) (tk := s.toks) (h' := h') rfl (fun q hq => by simp at hq; subst hq; exact ⟨ho', by rw [hc']; decide⟩) (fun b ob hb e => (hs'.2 b (by simpa using hb)).trans e) (fun q hq => by simp at hq; subst hq; show o.cls ≠ _; rw [hc]; decide)
    exact hQ v _ (fun Q' E' A' hq => letOwned_other ho' (fun n e => by rw [hc'] at e; cases e; rfl) (hq _ _ ⟨o', rfl, hc', by simpa using hd'⟩ R' (.refl _))) (hr.mono kp) kp
  stop := fun A hid stk σ s hs E Q hh hsk _ hσ R hQ => by
    obtain ⟨o, rfl, hc, hd⟩ := hsk
    obtain ⟨vs, hL, hvs⟩ := R.seq hσ
    have ho := (R.hid (it, o) (List.mem_cons_self ..)).1
    refine wpAny_pyNext_list_end hh ⟨_, ho, hc, hd⟩ hL.isList (by simp [hvs.length]) fun h' he => ?_
    obtain ⟨R', k⟩ := R.hidForget (tk := s.toks) (h' := h') (fun b o hb e => he b o (by simpa using hb) e) (fun q hq => by simp at hq; subst hq; show o.cls ≠ _; rw [hc]; decide)
    exact hQ _ R' k
  self := fun k A hid stk σ s hs E Q hsk R hQ => by
    obtain ⟨o, rfl, hc, hd⟩ := hsk
    have ho := (R.hid (it, o) (List.mem_cons_self ..)).1
    exact wpAny_pyIter_listiter ⟨_, ho, hc, hd⟩ hQ

/-- the ints from a by c -/
noncomputable def rangeL (a c : Int) (n : Nat) : List PV := (List.range n).map fun (i : Nat) => PV.int (a + (i : Int) * c)
@[simp] theorem rangeL_length (a c : Int) (n : Nat) : (rangeL a c n).length = n := by simp [rangeL]
theorem rangeL_get {a c : Int} {n k : Nat} {p : PV} (h : (rangeL a c n)[k]? = some p) : k < n ∧ p = .int (a + (k : Int) * c) := by
  simp only [rangeL, List.getElem?_map] at h
  cases q : (List.range n)[k]? with
  | none => rw [q] at h; cases h
  | some j =>
    rw [q] at h
    obtain ⟨h1, h2⟩ := List.getElem?_eq_some_iff.mp q
    simp at h1 h2
    subst h2
    exact ⟨h1, (Option.some.inj h).symm⟩
theorem iter_range (target : Expr) (it : Addr) (a c : Int) (n : Nat) : IterAt G target it (fun k hs => hs = [(it, { cls := .type "range_iterator", dict := none, data := .fields #[rawInt (a + (k : Int) * c), rawInt ((n : Int) - (k : Int)), rawInt c], slots := #[] })]) (fun _ => True) (fun _ => True) (rangeL a c n) where
  mono := fun _ _ _ _ => trivial
  next := fun k p hp A hid stk σ s hs E Q hh hsk _ hσ R hQ => by
    subst hsk
    obtain ⟨hk, rfl⟩ := rangeL_get hp
    have ho := (R.hid _ (List.mem_cons_self ..)).1
    refine wpAny_pyNext_range_item ho (by omega) fun h' hit' hs' => ?_
    obtain ⟨R', kp⟩ := R.hidChange (hs' := [(it, { cls := .type "range_iterator", dict := none, data := .fields #[rawInt (a + ((k + 1 : Nat) : Int) * c), rawInt ((n : Int) - ((k + 1 : Nat) : Int)), rawInt c], slots := #[] })]) (tk := s.toks + 1) (h' := h') rfl (fun q hq => by
      simp at hq; subst hq
      refine ⟨?_, by show Value.type "range_iterator" ≠ Value.type "tuple"; decide⟩
      have e1 : a + ((k + 1 : Nat) : Int) * c = a + (k : Int) * c + c := by push_cast; rw [Int.add_mul, Int.one_mul, Int.add_assoc]
      have e2 : (n : Int) - ((k + 1 : Nat) : Int) = (n : Int) - (k : Int) - 1 := by push_cast; omega
      have e1' : a + ((k : Int) + 1) * c = a + (k : Int) * c + c := by rw [Int.add_mul, Int.one_mul, Int.add_assoc]
      have e2' : (n : Int) - ((k : Int) + 1) = (n : Int) - (k : Int) - 1 := by omega
      first | (rw [e1, e2]; exact hit') | (rw [e1', e2']; exact hit')) (fun b ob hb e => (hs'.2 b (by simpa using hb)).trans e) (fun q hq => by simp at hq; subst hq; show Value.type "range_iterator" ≠ Value.type "tuple"; decide)
    exact hQ _ _ (fun Q' E' A' hq => letOwned_other (R'.hid _ (List.mem_cons_self ..)).1 (fun n e => by cases e; rfl) (hq _ _ rfl R' (.refl _))) ⟨_, rfl⟩ kp
  stop := fun A hid stk σ s hs E Q hh hsk _ hσ R hQ => by
    subst hsk
    have ho := (R.hid _ (List.mem_cons_self ..)).1
    refine wpAny_pyNext_range_end hh ho (by simp) fun h' he => ?_
    obtain ⟨R', k⟩ := R.hidForget (tk := s.toks) (h' := h') (fun b o hb e => he b o (by simpa using hb) e) (fun q hq => by simp at hq; subst hq; show Value.type "range_iterator" ≠ Value.type "tuple"; decide)
    exact hQ _ R' k
  self := fun k A hid stk σ s hs E Q hsk R hQ => by
    subst hsk
    have ho := (R.hid _ (List.mem_cons_self ..)).1
    exact wpAny_pyIter_rangeiter ho hQ
end

section
variable {c : Cx} {st : St} {μ : Locals} {σ : AHeap}

/-- a value that can be gone through: its items, and what must stay so of the state -/
noncomputable def ItOk (c : Cx) (target : Expr) (p : PV) (st : St) (items : List PV) (P : AHeap → Prop) : Prop :=
  ∀ v hid stk s E Q, COk c.lv c.A c.env (stk.map (·.1)) → Rep c.base c.os hid ((c.env.locals, st.1) :: stk) st.2 s → VRep s.heap p v →
    (∀ it Sk KP hs s', IterAt c.toGx target it Sk KP P items → Sk 0 hs → KP s'.heap → Rep c.base c.os (hs ++ hid) ((c.env.locals, st.1) :: stk) st.2 s' → Keeps s.heap s'.heap → Q (.ref it) s') → wpAny c.M c.A (pyIter v) Q E s

theorem it_list {target : Expr} {a : Addr} {l : List PV} (h : seqAt σ a = some l) : ItOk c target (.ref a) (μ, σ) l (fun σ => seqAt σ a = some l) := fun v hid stk s E Q ok R hv hQ => by
  simp only [VRep] at hv; subst hv
  obtain ⟨vs, hL, _⟩ := R.seq h
  refine wpAny_pyIter_list hL.isList (hQ _ _ _ [(s.heap.objs.size, { cls := .type "list_iterator", data := .fields #[.ref a, .int 0 0] })] _ (iter_list target s.heap.objs.size a l) ⟨_, rfl, rfl, rfl⟩ trivial ?_ (Keeps.push _ _))
  exact R.hidNew (by show Value.type "list_iterator" ≠ Value.type "tuple"; decide) rfl
/-- the target of a loop takes an item -/
noncomputable abbrev WAsg (c : Cx) (target : Expr) (p : PV) (Q : St → Prop) (st : St) : Prop := W1 c UnitRep p (fun v => assign target c.env v)  (fun _ st => Q st) st

noncomputable def forQ (I : Nat → St → Prop) (k : Nat) (Q : AFlow → St → Prop) : AFlow → St → Prop
  | .next, st | .cont, st => ∃ st₃, I k st₃ ∧ St.le st₃ st
  | .brk, st => Q .next st
  | .ret p, st => Q (.ret p) st
theorem forQ_next {I : Nat → St → Prop} {k} {Q : AFlow → St → Prop} {st₃ : St} (h : I k st₃) (hl : St.le st₃ st) : forQ I k Q .next st := ⟨st₃, h, hl⟩
/-- the iterator over an expression -/
noncomputable def WI (c : Cx) (target iter : Expr) (Q : List PV → (AHeap → Prop) → St → Prop) (st : St) : Prop :=
  ∀ hid stk s, COk c.lv c.A c.env (stk.map (·.1)) → Rep c.base c.os hid ((c.env.locals, st.1) :: stk) st.2 s →
    wpAny c.M c.A (eval iter c.env) (fun v s₁ => wpAny c.M c.A (pyIter v) (fun itv s₂ => ∃ it Sk KP hs items P st₁, itv = .ref it ∧ IterAt c.toGx target it Sk KP P items ∧ Sk 0 hs ∧ KP s₂.heap ∧
      Rep c.base c.os (hs ++ hid) ((c.env.locals, st₁.1) :: stk) st₁.2 s₂ ∧ Keeps s.heap s₂.heap ∧ Q items P st₁) PostX s₁) PostX s
theorem WI_of {target iter} {Q : List PV → (AHeap → Prop) → St → Prop} (h : WE c iter  (fun p st₁ => ∃ items P, ItOk c target p st₁ items P ∧ Q items P st₁) st) : WI c target iter  Q st := fun hid stk s ok R => by
  refine wpAny_mono (h hid stk s ok R) (fun v s₁ hp => ?_) fun _ _ y => y
  obtain ⟨p, st₁, R₁, hv, k₁, items, P, hit, q⟩ := hp
  exact hit v hid stk s₁ _ _ ok R₁ hv fun it Sk KP hs s₂ IT hS0 hK0 R₂ k₂ => ⟨it, Sk, KP, hs, items, P, st₁, rfl, IT, hS0, hK0, R₂, k₁.trans k₂, q⟩
/-- a for over items -/
theorem S_forE {target iter body orelse pos} {Q : AFlow → St → Prop} (hcalm : c.lv.calm = true)
    (h : WI c target iter  (fun items P st₁ => ∃ (I : Nat → St → Prop) (st₀ : St), I 0 st₀ ∧ St.le st₀ st₁ ∧ (∀ k st, I k st → P st.2) ∧
      (∀ k p st, items[k]? = some p → I k st → WAsg c target p  (fun st' => WS c body  (forQ I (k + 1) Q) st') st) ∧ (∀ st, I items.length st → WS c orelse  Q st)) st)
    (hf : ∀ x, foldedSetIterable iter c.env x = pure x) : WX c (.For target iter body orelse pos)  Q st := fun hid stk s ok R => by
  have hh : c.A.handled = none := by obtain ⟨_, _, a, _⟩ := ok.ok; exact a.calm hcalm
  refine wpAny_For (wpAny_mono (h hid stk s ok R) (fun v s₁ hp => wpAny_mono hp (fun itv s₂ hp => ?_) fun _ _ y => y) fun _ _ y => y) hf
  obtain ⟨it, Sk, KP, hs, items, P, st₁, rfl, IT, hS0, hK0, R₂, k₂, I, st₀, h0, hl0, hP, turn, fin⟩ := hp
  refine codeAny_mono (R := LoopR c  Q hid stk s.heap) ?_ fun r s' x => x.back
  have hE : ∀ e s'', PostX e s'' → notedBy c.M c.A c.env (fun e s' => LoopR c  Q hid stk s.heap (.error e) s') e s'' :=
    fun e s'' hx => False.elim hx
  -- the loop, its owned tuple and all
  refine codeAny_loop' rfl (fun n s' => ∃ k hs st', n = items.length - k ∧ k ≤ items.length ∧ Sk k hs ∧ KP s'.heap ∧ I k st' ∧ Rep c.base c.os (hs ++ hid) ((c.env.locals, st'.1) :: stk) st'.2 s' ∧ Keeps s.heap s'.heap) ?_ items.length
    ⟨0, hs, st₀, by simp, Nat.zero_le _, hS0, hK0, h0, (R₂.weaken hl0.2).locals hl0.1, k₂⟩
  rintro n s' ⟨k, hs', st', rfl, hle, hSk, hKP, hI, R', k'⟩
  show wpAny _ _ ((forTurn target (.ref it) body orelse c.env).onRaise (fun x => do noteFrame x c.env; theTreesLotGoes x)) _ _ s'
  refine wpAny_noted ?_
  simp only [forTurn]
  refine wpAny_bind (wpAny_standAt (wpAny_bind (wpAny_onRaise ?_)))
  rcases Nat.lt_or_ge k items.length with hlt | hge
  · have hx : items[k]? = some items[k] := List.getElem?_eq_getElem hlt
    refine IT.next k _ hx _ _ _ _ _ _ _ _ hh hSk hKP (hP _ _ hI) R' fun v s₃ own hv₃ k₃ => ?_
    refine wpAny_bind (own _ _ _ fun s₄ hs₄ hSk₄ R₄ k₄ => ?_)
    refine wpAny_bind (wpAny_mono (turn k _ st' hx hI v (hs₄ ++ hid) stk s₄ ok R₄ (hv₃.mono k₄)) (fun _ s₅ h₅ => ?_) hE)
    obtain ⟨_, st₅, R₅, _, k₅, h₅⟩ := h₅
    refine wpAny_bind (wpAny_mono (h₅ (hs₄ ++ hid) stk s₅ ok R₅) (fun f s₆ h₆ => ?_) hE)
    obtain ⟨fl, st₆, R₆, hf₆, k₆, h₆⟩ := h₆
    have kk := (k'.trans k₃).trans (k₄.trans (k₅.trans k₆))
    have again : (∃ st₃, I (k + 1) st₃ ∧ St.le st₃ st₆) → ∃ m, m < items.length - k ∧ (∃ k hs st', m = items.length - k ∧ k ≤ items.length ∧ Sk k hs ∧ KP s₆.heap ∧ I k st' ∧ Rep c.base c.os (hs ++ hid) ((c.env.locals, st'.1) :: stk) st'.2 s₆ ∧ Keeps s.heap s₆.heap) := by
      rintro ⟨st₃, hI₃, hl₃⟩
      exact ⟨items.length - (k + 1), by omega, k + 1, hs₄, st₃, rfl, hlt, hSk₄, IT.mono _ _ (k₃.trans (k₄.trans (k₅.trans k₆))) hKP, hI₃, (R₆.weaken hl₃.2).locals hl₃.1, kk⟩
    cases fl with
    | next => cases hf₆; exact wpAny_pure (.inl ⟨rfl, again h₆⟩)
    | cont => cases hf₆; exact wpAny_pure (.inl ⟨rfl, again h₆⟩)
    | brk => cases hf₆; exact wpAny_pure ⟨.next, st₆, R₆.hidDrop, rfl, kk, h₆⟩
    | ret p => obtain ⟨u, rfl, hu⟩ := hf₆; exact wpAny_pure ⟨.ret p, st₆, R₆.hidDrop, ⟨u, rfl, hu⟩, kk, h₆⟩
  · have hk : k = items.length := by omega
    subst hk
    refine IT.stop _ _ _ _ _ _ _ _ hh hSk hKP (hP _ _ hI) R' fun s₃ R₃ k₃ => ?_
    refine wpAny_pure (.inr ⟨rfl, codeAny_block ?_⟩)
    exact wpAny_mono (fin st' hI hid stk s₃ ok R₃) (fun f s₄ y => y.keeps (k'.trans k₃)) hE
/-- a for whose invariant is told behind its iterable -/
theorem S_forL {target iter body orelse pos} {Q : AFlow → St → Prop} (hcalm : c.lv.calm = true)
    (h : WE c iter  (fun p st₁ => ∃ items P I st₀, ItOk c target p st₁ items P ∧ I 0 st₀ ∧ St.le st₀ st₁ ∧ (∀ k st, I k st → P st.2) ∧
      (∀ k p st, items[k]? = some p → I k st → WAsg c target p  (fun st' => WS c body  (forQ I (k + 1) Q) st') st) ∧ (∀ st, I items.length st → WS c orelse  Q st)) st)
    (hf : ∀ x, foldedSetIterable iter c.env x = pure x) : WX c (.For target iter body orelse pos)  Q st :=
  S_forE hcalm (WI_of (WT.mono h (fun p st₁ ⟨items, P, I, st₀, a, b⟩ => ⟨items, P, a, I, st₀, b⟩) fun _ _ y => y)) hf
theorem S_for {target iter body orelse pos} {Q : AFlow → St → Prop} (hcalm : c.lv.calm = true) (I : Nat → St → Prop)
    (h : WE c iter  (fun p st₁ => ∃ items P st₀, ItOk c target p st₁ items P ∧ I 0 st₀ ∧ St.le st₀ st₁ ∧ (∀ k st, I k st → P st.2) ∧
      (∀ k p st, items[k]? = some p → I k st → WAsg c target p  (fun st' => WS c body  (forQ I (k + 1) Q) st') st) ∧ (∀ st, I items.length st → WS c orelse  Q st)) st)
    (hf : ∀ x, foldedSetIterable iter c.env x = pure x) : WX c (.For target iter body orelse pos)  Q st :=
  S_forL hcalm (WT.mono h (fun p st₁ ⟨items, P, b⟩ => ⟨items, P, I, b⟩) fun _ _ y => y) hf
end
end Mine
end
section
open PySem PySem.W PyProof.Rows PySem.SeqAt
set_option Elab.async false
set_option linter.unusedVariables false
namespace Mine

/-- p == q comes out as b, at most n deep -/
inductive EqR (σ : AHeap) : Nat → PV → PV → Bool → Prop
  | int {n} (i j : Int) : EqR σ n (.int i) (.int j) (i == j)
  | none {n} : EqR σ n .none .none true

section
variable {base : Heap} {os₀ : OsState} {hid : List (Addr × Obj)} {stk : List (Addr × Locals)} {σ : AHeap} {s : Shared}

theorem VReps.pt {h : Heap} {ps : List PV} {vs : List Value} (x : VReps h ps vs) {j : Nat} (hj : j < vs.toArray.size) : ∃ p, ps[j]? = some p ∧ VRep h p vs.toArray[j] := by
  have hj' : j < ps.length := by rw [← x.length]; simpa using hj
  obtain ⟨v, hv, hr⟩ := x.get j ps[j] (List.getElem?_eq_getElem hj')
  refine ⟨ps[j], List.getElem?_eq_getElem hj', ?_⟩
  have : vs.toArray[j] = v := by
    have hj'' : j < vs.length := by simpa using hj
    rw [List.getElem?_eq_getElem hj''] at hv
    simpa using Option.some.inj hv
  rw [this]; exact hr

theorem EqR.at (R : Rep base os₀ hid stk σ s) {n : Nat} {p q : PV} {b : Bool} (h : EqR σ n p q b) {A : Around} {v u : Value} (_ : A.units + n < cLine) (hv : VRep s.heap p v) (hu : VRep s.heap q u) : EqAt A s v u b := by
  cases h with
  | int i j =>
    obtain ⟨t, rfl⟩ := hv
    obtain ⟨t', rfl⟩ := hu
    exact .int_int _ _ _ _
  | none =>
    cases hv
    cases hu
    exact EqAt.same _
end

section
variable {c : Cx} {st : St} {μ : Locals} {σ : AHeap}

theorem COk.units {lv A env ls} (ok : COk lv A env ls) : A.units ≤ 9000 := by obtain ⟨_, _, a, _⟩ := ok.ok; have := a.units; omega

theorem cmp_lists_eq {a b l m} {e : Nat → Bool} {n : Nat} {Q : PV → St → Prop} (ha : seqAt σ a = some l) (hb : seqAt σ b = some m) (hlen : l.length = m.length) (h : ∀ (j : Nat) p q, l[j]? = some p → m[j]? = some q → EqR σ n p q (e j)) (hn : n ≤ 100)
    (hQ : Q (.bool ((List.range l.length).all e)) (μ, σ)) : W2 c VRep (.ref a) (.ref b) (compareOp .Eq)  Q (μ, σ) := fun v u hid stk s ok R hv hu => by
  simp only [VRep] at hv hu; subst hv hu
  obtain ⟨vs, hL, hvs⟩ := R.seq ha
  obtain ⟨ws, hM, hws⟩ := R.seq hb
  have e1 := hvs.length; have e2 := hws.length
  have hU := ok.units
  refine eq_listAt (e := e) hL.isList hM.isList (by simp; omega) (by rw [cLine_is]; omega) (fun j h1 h2 => ?_) ⟨.bool ((List.range l.length).all e), (μ, σ), R, by simp [VRep, e1], .refl _, hQ⟩
  obtain ⟨p, hp, hr⟩ := hvs.pt h1
  obtain ⟨q, hq, hr'⟩ := hws.pt h2
  exact (h j p q hp hq).at R (A := c.A.in1) (by rw [cLine_is]; show c.A.units + 1 + n < 9900; omega) hr hr'
theorem cmp_lists_ne {a b l m} {e : Nat → Bool} {n : Nat} {Q : PV → St → Prop} (ha : seqAt σ a = some l) (hb : seqAt σ b = some m) (hlen : l.length = m.length) (h : ∀ (j : Nat) p q, l[j]? = some p → m[j]? = some q → EqR σ n p q (e j)) (hn : n ≤ 100)
    (hQ : Q (.bool (!(List.range l.length).all e)) (μ, σ)) : W2 c VRep (.ref a) (.ref b) (compareOp .NotEq)  Q (μ, σ) := fun v u hid stk s ok R hv hu => by
  simp only [VRep] at hv hu; subst hv hu
  obtain ⟨vs, hL, hvs⟩ := R.seq ha
  obtain ⟨ws, hM, hws⟩ := R.seq hb
  have e1 := hvs.length; have e2 := hws.length
  have hU := ok.units
  refine RcNeAt.lists (A := c.A) (e := e) hL.isList hM.isList (by simp; omega) (by rw [cLine_is]; omega) (fun j h1 h2 => ?_) c.prog c.w _ _ ⟨.bool (!(List.range l.length).all e), (μ, σ), R, by simp [VRep, e1], .refl _, hQ⟩
  obtain ⟨p, hp, hr⟩ := hvs.pt h1
  obtain ⟨q, hq, hr'⟩ := hws.pt h2
  exact (h j p q hp hq).at R (A := c.A.in1) (by rw [cLine_is]; show c.A.units + 1 + n < 9900; omega) hr hr'
end
end Mine
end
section
open PySem PySem.W PyProof.Rows
set_option Elab.async false
set_option linter.unusedVariables false
namespace Mine

section
variable {c : Cx} {st : St} {μ : Locals} {σ : AHeap}

theorem E_Tuple {elts k pos} {Q : PV → St → Prop} (h : WA c pos elts  (fun ps st₁ => ps.length ≤ 1000 ∧ Q (.tup ps) st₁) st) : WE c (.Tuple elts k pos)  Q st := fun hid stk s ok R =>
  Tuple_ (wpAny_mono (h hid stk s ok R) (fun vs s₁ ⟨ps, st₁, R₁, hvs, k₁, hz, q⟩ => by
    have e1 := hvs.length
    refine wpAny_newObj_type ⟨.tup ps, st₁, R₁.grow (fun _ _ e => Heap.get?_push_of_some _ e) rfl rfl, ?_, k₁.trans (Keeps.push _ _), q⟩ (by show vs.toArray.size ≤ sizeLine; rw [sizeLine_eq]; simp; omega)
    simp only [VRep]
    exact ⟨s₁.heap.objs.size, vs, rfl, ⟨0, Heap.get?_push_size _ rfl⟩, hvs.mono (Keeps.push _ _)⟩) fun _ _ y => y)
/-- a new list -/
theorem Rep.newList {base os₀ hid stk} {s : Shared} (R : Rep base os₀ hid stk σ s) {l : List PV} {vs : List Value} (hvs : VReps s.heap l vs) :
    Rep base os₀ hid stk (σ.set s.heap.objs.size (.list l)) { s with heap := s.heap.push { cls := .type "list", dict := none, data := .seq vs.toArray, slots := #[] } } :=
  R.alloc ⟨R.fresh_base, vs, ⟨0, Heap.get?_push_size _ rfl⟩, hvs.mono (Keeps.push _ _)⟩
theorem E_List {elts pos} {Q : PV → St → Prop} (h : WA c pos elts  (fun ps st₁ => ps.length ≤ 1000 ∧ ∀ a, st₁.2 a = none → Q (.ref a) (st₁.1, st₁.2.set a (.list ps))) st) : WE c (.List elts pos)  Q st := fun hid stk s ok R =>
  List_ (wpAny_mono (h hid stk s ok R) (fun vs s₁ ⟨ps, st₁, R₁, hvs, k₁, hz, q⟩ => by
    have e1 := hvs.length
    exact wpAny_newObj_type ⟨.ref s₁.heap.objs.size, (st₁.1, st₁.2.set s₁.heap.objs.size (.list ps)), R₁.newList hvs, rfl, k₁.trans (Keeps.push _ _), q _ R₁.fresh_σ⟩ (by show vs.toArray.size ≤ sizeLine; rw [sizeLine_eq]; simp; omega)) fun _ _ y => y)

/-! targets -/
theorem Asg_local {x : Str} {pos} {p : PV} {Q : St → Prop} (hl : c.env.scope.names.lookup x = some .local) (h : Q (setL x p μ, σ)) : WAsg c (.Name x pos) p  Q (μ, σ) := fun v hid stk s ok R hv =>
  wpAny_assign_Name (W1_store (Q := fun _ st => Q st) hl h v hid stk s ok R hv)
theorem Asg_cell {x : Str} {pos} {p : PV} {a : Addr} {o : Option PV} {Q : St → Prop} (hl : c.env.scope.names.lookup x = some .cell) (hc : c.env.cells.lookup x = some a) (hv : σ a = some (.cell o)) (h : Q (μ, σ.set a (.cell (some p)))) : WAsg c (.Name x pos) p  Q (μ, σ) := fun v hid stk s ok R hr =>
  wpAny_assign_Name (W1_storeCell (Q := fun _ st => Q st) hl hc hv h v hid stk s ok R hr)

/-- names one after the other -/
noncomputable def asgAll (c : Cx) : List Expr → List PV → (St → Prop) → St → Prop
  | e :: es, p :: ps, Q, st => WAsg c e p  (fun st' => asgAll c  es ps Q st') st
  | _, _, Q, st => Q st
theorem asgAll_nil {Q : St → Prop} (h : Q st) : asgAll c  [] [] Q st := h
theorem asgAll_cons {e es p ps} {Q : St → Prop} (h : WAsg c e p  (fun st' => asgAll c  es ps Q st') st) : asgAll c  (e :: es) (p :: ps) Q st := h
theorem asgAll_wp {hid stk} (ok : COk c.lv c.A c.env (stk.map (·.1))) : ∀ {es : List Expr} {ps : List PV} {vs : List Value} {Q : St → Prop} {st : St} {s : Shared}, (assignEach es c.env).map (·.2) = es.map (fun e => assign e c.env) → es.length = ps.length →
    Rep c.base c.os hid ((c.env.locals, st.1) :: stk) st.2 s → VReps s.heap ps vs → asgAll c  es ps Q st → wpAny c.M c.A (assignInOrder (es.map fun e => assign e c.env) vs) (Post c UnitRep (fun _ st => Q st) hid stk s.heap) PostX s
  | [], [], vs, Q, st, s, _, _, R, hv, h => by rw [hv.nil_inv]; exact wpAny_pure ⟨(), st, R, trivial, .refl _, h⟩
  | e :: es, p :: ps, vs, Q, st, s, he, hl, R, hv, h => by
    obtain ⟨v, r, rfl, h1, h2⟩ := hv.cons_inv
    refine wpAny_bind (wpAny_holding (wpAny_mono (h v hid stk s ok R h1) (fun _ s₁ hp => ?_) fun _ _ y => y))
    obtain ⟨_, st₁, R₁, _, k₁, q⟩ := hp
    have he' : (assignEach es c.env).map (·.2) = es.map (fun e => assign e c.env) := by
      have := he
      simp only [List.map_cons] at this
      have e2 : assignEach (e :: es) c.env = (match e with | .Starred .. => true | _ => false, (assignEach (e :: es) c.env).head!.2) :: assignEach es c.env := by cases e <;> rfl
      rw [e2, List.map_cons] at this
      exact (List.cons.inj this).2
    exact wpAny_mono (asgAll_wp ok he' (by simpa using hl) R₁ (h2.mono k₁) q) (fun _ _ y => y.keeps k₁) fun _ _ y => y
  | [], _ :: _, _, _, _, _, _, hl, _, _, _ => by simp at hl
  | _ :: _, [], _, _, _, _, _, hl, _, _, _ => by simp at hl

/-- a tuple is taken apart -/
theorem Asg_Tuple {elts k pos ps} {Q : St → Prop} (hcalm : c.lv.calm = true) (h : asgAll c  elts ps Q st) (he : (assignEach elts c.env).map (·.2) = elts.map (fun e => assign e c.env)) (hl : elts.length = ps.length)
    (hstar : (assignEach elts c.env).findIdx? (·.1) = none) : WAsg c (.Tuple elts k pos) (.tup ps)  Q st := fun v hid stk s ok R hv => by
  have hh : c.A.handled = none := by obtain ⟨_, _, a, _⟩ := ok.ok; exact a.calm hcalm
  simp only [VRep] at hv
  obtain ⟨a, vs, rfl, hT, hvs⟩ := hv
  have e1 := hvs.length
  have hlen : (assignEach elts c.env).length = vs.toArray.size := by
    have := congrArg List.length he
    simp only [List.length_map] at this
    rw [this]; simp; omega
  refine wpAny_assign_Tuple hh hT.isTuple hlen hstar fun h' hx => ?_
  have R' := R.grow (s' := { s with heap := h' }) (fun b o e => hx b o (Nat.ne_of_lt (Heap.lt_size e)) e) rfl rfl
  have k' : Keeps s.heap h' := fun b vs ⟨n, e⟩ => ⟨n, hx b _ (Nat.ne_of_lt (Heap.lt_size e)) e⟩
  rw [he]
  exact wpAny_mono (asgAll_wp ok he hl R' (by simpa using hvs.mono k') h) (fun _ _ y => y.keeps k') fun _ _ y => y

theorem call_range1 {b : Int} {Q : PV → St → Prop} (h : ∀ r, σ r = none → Q (.ref r) (μ, σ.set r (.range 0 b 1))) : WN c VRep [.int b] (fun vs => call (.type "range") vs)  Q (μ, σ) := fun vs hid stk s ok R hv => by
  obtain ⟨v1, r1, rfl, h1, hv⟩ := hv.cons_inv
  rw [hv.nil_inv]
  obtain ⟨t1, rfl⟩ := h1
  refine call_range_1 ⟨.ref s.heap.objs.size, (μ, σ.set s.heap.objs.size (.range 0 b 1)), Rep.toks (R.alloc (o := .range 0 b 1) (ob := { cls := .type "range", data := .fields #[.int 0 s.toks, .int b t1, .int 1 (s.toks + 1)] }) ⟨R.fresh_base, s.toks, t1, s.toks + 1, Heap.get?_push_size _ rfl⟩) _, rfl, Keeps.push _ _, h _ R.fresh_σ⟩
theorem it_range {target : Expr} {r : Addr} {a b : Int} (h : σ r = some (.range a b 1)) (ha : -1000000 ≤ a) (ha' : a ≤ 1000000) (hb : -1000000 ≤ b) (hb' : b ≤ 1000000) : ItOk c target (.ref r) (μ, σ) (rangeL a 1 (b - a).toNat) (fun _ => True) := fun v hid stk s E Q ok R hv hQ => by
  simp only [VRep] at hv; subst hv
  obtain ⟨_, t, u, w, hr⟩ := R.heap _ _ h
  refine wpAny_pyIter_range hr (small_one (by omega) (by omega) (by omega) (by omega)) (hQ _ _ _ _ _ (iter_range target s.heap.objs.size a 1 (b - a).toNat) rfl trivial ?_ (Keeps.push _ _))
  have hsz : Builtin.Range.rangeSize a b 1 = (((b - a).toNat : Nat) : Int) := by rw [rangeSize_one]; split <;> omega
  have := R.hidNew (ob := { cls := .type "range_iterator", data := .fields #[rawInt a, rawInt (Builtin.Range.rangeSize a b 1), rawInt 1] }) (by show Value.type "range_iterator" ≠ Value.type "tuple"; decide) rfl
  rw [hsz] at this ⊢
  simpa using this

theorem bin_addL {a b : Addr} {l m : List PV} {Q : PV → St → Prop} (ha : seqAt σ a = some l) (hb : seqAt σ b = some m) (hz : l.length + m.length ≤ 16777216) (h : ∀ r, σ r = none → Q (.ref r) (μ, σ.set r (.list (l ++ m)))) : W2 c VRep (.ref a) (.ref b) (binaryOp .Add)  Q (μ, σ) := fun v u hid stk s ok R hv hu => by
  simp only [VRep] at hv hu; subst hv hu
  obtain ⟨vs, hL, hvs⟩ := R.seq ha
  obtain ⟨ws, hM, hws⟩ := R.seq hb
  have e1 := hvs.length; have e2 := hws.length
  obtain ⟨n, hL⟩ := hL
  obtain ⟨n', hM⟩ := hM
  refine concat_meets (id := "list.__add__") ⟨_, hL, rfl⟩ ⟨_, hM, rfl⟩ noFill_list_add seq_list_add F.slot_list_add F.entry_list_add (F.args_list_add_2 _ _) (list_addW a b vs.toArray ws.toArray n n' none none #[] #[] (by rw [sizeLine_eq]; simp; omega)) ⟨hL, hM, ?_⟩
  have e : vs.toArray ++ ws.toArray = (vs ++ ws).toArray := by simp
  show Post c VRep Q hid stk s.heap _ _
  rw [e]
  exact ⟨.ref s.heap.objs.size, (μ, σ.set s.heap.objs.size (.list (l ++ m))), R.newList (hvs.append hws), rfl, Keeps.push _ _, h _ R.fresh_σ⟩

theorem COk.handled {lv A env ls} (ok : COk lv A env ls) (h : lv.calm = true) : A.handled = none := by obtain ⟨_, _, a, _⟩ := ok.ok; exact a.calm h

/-! ints in a list -/
noncomputable def intL (ns : List Int) : List PV := ns.map PV.int
theorem VReps.intsAre {h : Heap} : ∀ {ns : List Int} {vs : List Value}, VReps h (intL ns) vs → IntsAre vs ns
  | [], _, x => by rw [x.nil_inv]; exact .nil
  | n :: ns, vs, x => by
    obtain ⟨v, r, rfl, h1, h2⟩ := VReps.cons_inv (p := .int n) (ps := intL ns) x
    obtain ⟨t, rfl⟩ := h1
    exact .cons n t (VReps.intsAre h2)
theorem intsAre_reps {h : Heap} {ns : List Int} {vs : List Value} (x : IntsAre vs ns) : VReps h (intL ns) vs := by
  induction x with
  | nil => exact .nil
  | cons n t _ ih => exact .cons (p := .int n) ⟨t, rfl⟩ ih
noncomputable def sortI (ns : List Int) : List Int := ns.mergeSort fun a b => decide (a ≤ b)
theorem sortI_perm (ns : List Int) : (sortI ns).Perm ns := List.mergeSort_perm ..
theorem sortI_sorted (ns : List Int) : (sortI ns).Pairwise (· ≤ ·) := by
  have := List.pairwise_mergeSort (le := fun a b : Int => decide (a ≤ b)) (fun a b c h1 h2 => by simp at *; omega) (fun a b => by simp; omega) ns
  exact this.imp fun h => by simpa using h
theorem perm_sorted_eq : ∀ {l m : List Int}, l.Perm m → l.Pairwise (· ≤ ·) → m.Pairwise (· ≤ ·) → l = m
  | [], m, hp, _, _ => hp.nil_eq
  | x :: l, [], hp, _, _ => by have := hp.length_eq; simp at this
  | x :: l, y :: m, hp, hl, hm => by
    have h1 : x ≤ y := by
      have : y ∈ x :: l := hp.mem_iff.mpr (List.mem_cons_self ..)
      rcases List.mem_cons.mp this with e | e
      · omega
      · exact (List.pairwise_cons.mp hl).1 y e
    have h2 : y ≤ x := by
      have : x ∈ y :: m := hp.mem_iff.mp (List.mem_cons_self ..)
      rcases List.mem_cons.mp this with e | e
      · omega
      · exact (List.pairwise_cons.mp hm).1 x e
    have e : x = y := by omega
    subst e
    rw [perm_sorted_eq (List.Perm.cons_inv hp) (List.pairwise_cons.mp hl).2 (List.pairwise_cons.mp hm).2]
theorem sortI_of {l m : List Int} (hp : l.Perm m) (hs : l.Pairwise (· ≤ ·)) : l = sortI m := perm_sorted_eq (hp.trans (sortI_perm m).symm) hs (sortI_sorted m)

end
end Mine
end
section
open PySem PySem.W PyProof.Rows
set_option Elab.async false
set_option linter.unusedVariables false
namespace Mine

section
variable {base : Heap} {os₀ : OsState} {hid : List (Addr × Obj)} {stk : List (Addr × Locals)} {σ : AHeap} {s : Shared}
theorem Rep.swap {f g : Addr × Locals} (R : Rep base os₀ hid (f :: g :: stk) σ s) : Rep base os₀ hid (g :: f :: stk) σ s := by
  refine ⟨R.stays, R.gens, R.os, fun p hp => ?_, fun e he => R.frames e ?_, ?_, R.hnd, R.heap, R.tk⟩
  · obtain ⟨a, b, c, d, e⟩ := R.hid p hp
    exact ⟨a, b, c, fun q => d (by simp at q ⊢; rcases q with q | q | q; exact .inr (.inl q); exact .inl q; exact .inr (.inr q)), e⟩
  · simp at he ⊢; rcases he with q | q | q; exact .inr (.inl q); exact .inl q; exact .inr (.inr q)
  · have := R.nodup
    simp only [List.map_cons, List.nodup_cons, List.mem_cons, not_or] at this ⊢
    exact ⟨⟨fun e => this.1.1 e.symm, this.2.1⟩, this.1.2, this.2.2⟩
/-- a frame that is gone may change -/
theorem Rep.popChange {L : Addr} {μ : Locals} (R : Rep base os₀ hid ((L, μ) :: stk) σ s) {h' : Heap} {tk : Nat} (hs : Heap.SameBut L s.heap h') (ht : s.toks ≤ tk := by first | exact Nat.le_refl _ | exact Nat.le_succ _ | assumption) : Rep base os₀ hid stk σ { s with heap := h', toks := tk } ∧ Keeps s.heap h' := by
  have hL := R.frames (L, μ) (List.mem_cons_self ..)
  have hnt : ∀ vs, ¬ TU s.heap L vs := fun vs ⟨n, e⟩ => by
    obtain ⟨⟨_, m, ⟨o, es, ep, h1, h2, _⟩, _⟩, _⟩ := hL
    rw [e] at h1; cases h1; cases h2
  refine ⟨R.pop.aside (a := L) (fun b ob hb e => (hs.2 b hb).trans e) ⟨hL.1.new, hL.2, fun p hp q => ?_⟩ hnt (fun f hf q => ?_) rfl rfl ht, fun b vs ⟨n, e⟩ => ⟨n, (hs.2 b fun q => hnt vs (q ▸ ⟨n, e⟩)).trans e⟩⟩
  · exact (R.hid p hp).2.2.2.1 (by simp [q])
  · have := R.nodup; simp only [List.map_cons, List.nodup_cons] at this
    exact this.1 (q ▸ List.mem_map_of_mem hf)
end

theorem COk.more {lv A env ls} (ok : COk lv A env ls) (a : Addr) : COk lv A env (a :: ls) := by
  obtain ⟨e₀, rest, h, he⟩ := ok.ok
  exact ⟨⟨e₀, rest, ⟨h.frames, fun e he => by obtain ⟨x, L, y, z⟩ := h.frs e he; exact ⟨x, L, y, by simp at z ⊢; rcases z with z | z; exact .inl z; exact .inr (.inr z)⟩, h.calm, h.depth, h.units⟩, he⟩, ok.kind, ok.globals, ok.builtins⟩
theorem COk.inner {lv A env ls} (ok : COk lv A env ls) {env' : Env} (hf : env'.frame = env.frame) (hk : env'.scope.kind = .function) (hg : env'.globals = env.globals) (hb : env'.builtins = env.builtins) : COk lv A env' (env.locals :: ls) := by
  obtain ⟨e₀, rest, h, he⟩ := ok.ok
  exact ⟨⟨e₀, rest, ⟨h.frames, fun e he => by obtain ⟨x, L, y, z⟩ := h.frs e he; exact ⟨x, L, y, List.mem_cons_of_mem _ z⟩, h.calm, h.depth, h.units⟩, by rw [he, hf]⟩, hk, by rw [hg]; exact ok.globals, by rw [hb]; exact ok.builtins⟩

section
variable {c : Cx} {st : St} {μ : Locals} {σ : AHeap}

noncomputable abbrev WIfs (c : Cx) (ifs : List Expr) (Q : Bool → St → Prop) (st : St) : Prop :=
  WT c BoolRep (forIn ifs true fun e r => if r = true then do let ok ← isTrue e c.env (eval e c.env); pure (ForInStep.yield ok) else pure (ForInStep.yield r))  Q st
theorem Ifs_nil {Q : Bool → St → Prop} (h : Q true st) : WIfs c []  Q st := fun hid stk s ok R => wpAny_tests_nil ⟨true, st, R, rfl, .refl _, h⟩
theorem Ifs_one {e} {Q : Bool → St → Prop} (h : WC c e  Q st) : WIfs c [e]  Q st := fun hid stk s ok R => wpAny_tests_one (h hid stk s ok R)

/-- what a turn of a comprehension leaves -/
noncomputable def compQ (I : Nat → St → Prop) (k : Nat) (acc : Addr) (q : PV) (st : St) : Prop := ∃ l, st.2 acc = some (.list l) ∧ l.length ≤ 1000000 ∧ ∃ st₄, I k st₄ ∧ St.le st₄ (st.1, st.2.set acc (.list (l ++ [q])))

noncomputable def CompR (c : Cx) (Q : St → Prop) (hid : List (Addr × Obj)) (stk : List (Addr × Locals)) (h : Heap) (r : Result) (s' : Shared) : Prop := match r with
  | .ok f => f = .next ∧ ∃ st', Rep c.base c.os hid ((c.env.locals, st'.1) :: stk) st'.2 s' ∧ Keeps h s'.heap ∧ Q st'
  | .error _ => False

theorem comp_loop1 {elt target iter : Expr} {ifs : List Expr} {scope : Scope} {pos : Pos} {it acc : Addr} {Sk KP P items} (hcalm : c.lv.calm = true) (IT : IterAt c.toGx target it Sk KP P items) (I : Nat → St → Prop) (hP : ∀ k st, I k st → P st.2)
    (turn : ∀ k p st, items[k]? = some p → I k st → WAsg c target p  (fun st₁ => WIfs c ifs  (fun b st₂ => (b = true → WE c elt  (fun q st₃ => compQ I (k + 1) acc q st₃) st₂) ∧ (b = false → ∃ st₄, I (k + 1) st₄ ∧ St.le st₄ st₂)) st₁) st)
    {hid stk h₀} (ok : COk c.lv c.A c.env (stk.map (·.1))) {k : Nat} {hs st s} (hk : k ≤ items.length) (hS : Sk k hs) (hK : KP s.heap) (hI : I k st) (R : Rep c.base c.os (hs ++ hid) ((c.env.locals, st.1) :: stk) st.2 s) (hk0 : Keeps h₀ s.heap) :
    codeAny c.M c.A (.compLoop (.ListComp elt [⟨target, iter, ifs, 0⟩] scope pos) 0 (.ref it) (.ref acc) c.env) (CompR c  (fun st => I items.length st) hid stk h₀) s := by
  have hh : c.A.handled = none := ok.handled hcalm
  have hE : ∀ e s'', PostX e s'' → notedBy c.M c.A c.env (fun e s' => CompR c  (fun st => I items.length st) hid stk h₀ (.error e) s') e s'' :=
    fun e s'' hx => False.elim hx
  refine codeAny_loop rfl (fun n s' => ∃ k hs st', n = items.length - k ∧ k ≤ items.length ∧ Sk k hs ∧ KP s'.heap ∧ I k st' ∧ Rep c.base c.os (hs ++ hid) ((c.env.locals, st'.1) :: stk) st'.2 s' ∧ Keeps h₀ s'.heap) ?_ (items.length - k)
    ⟨k, hs, st, rfl, hk, hS, hK, hI, R, hk0⟩
  clear hk hS hK hI R hk0
  rintro n s' ⟨k, hs', st', rfl, hle, hSk, hKP, hI, R', k'⟩
  show wpAny _ c.A ((compTurn (.ListComp elt [⟨target, iter, ifs, 0⟩] scope pos) 0 (.ref it) (.ref acc) c.env).onRaise (fun x => do noteFrame x c.env; theTreesLotGoes x)) _ _ s'
  refine wpAny_noted ?_
  rw [compTurn_list]
  refine wpAny_bind (wpAny_standAt (wpAny_bind ?_))
  rcases Nat.lt_or_ge k items.length with hlt | hge
  · have hx : items[k]? = some items[k] := List.getElem?_eq_getElem hlt
    refine IT.next k _ hx _ _ _ _ _ _ _ _ hh hSk hKP (hP _ _ hI) R' fun v s₃ own hv₃ k₃ => ?_
    refine wpAny_bind (own _ _ _ fun s₄ hs₄ hSk₄ R₄ k₄ => ?_)
    refine wpAny_bind (wpAny_mono (turn k _ st' hx hI v (hs₄ ++ hid) stk s₄ ok R₄ (hv₃.mono k₄)) (fun _ s₅ h₅ => ?_) hE)
    obtain ⟨_, st₅, R₅, _, k₅, h₅⟩ := h₅
    refine wpAny_bind (wpAny_mono (h₅ (hs₄ ++ hid) stk s₅ ok R₅) (fun b s₆ h₆ => ?_) hE)
    obtain ⟨bb, st₆, R₆, hb, k₆, h₆⟩ := h₆
    cases hb
    have again : ∀ s₇ (st₇ : St), Rep c.base c.os (hs₄ ++ hid) ((c.env.locals, st₇.1) :: stk) st₇.2 s₇ → Keeps s₆.heap s₇.heap → (∃ st₃, I (k + 1) st₃ ∧ St.le st₃ st₇) → ∃ m, m < items.length - k ∧ (∃ k hs st', m = items.length - k ∧ k ≤ items.length ∧ Sk k hs ∧ KP s₇.heap ∧ I k st' ∧ Rep c.base c.os (hs ++ hid) ((c.env.locals, st'.1) :: stk) st'.2 s₇ ∧ Keeps h₀ s₇.heap) := by
      rintro s₇ st₇ R₇ k₇ ⟨st₃, hI₃, hl₃⟩
      have kk : Keeps s'.heap s₇.heap := k₃.trans (k₄.trans (k₅.trans (k₆.trans k₇)))
      exact ⟨items.length - (k + 1), by omega, k + 1, hs₄, st₃, rfl, hlt, hSk₄, IT.mono _ _ kk hKP, hI₃, (R₇.weaken hl₃.2).locals hl₃.1, k'.trans kk⟩
    cases b with
    | true =>
      simp only [if_true]
      refine wpAny_bind (wpAny_bind (wpAny_mono (h₆.1 rfl (hs₄ ++ hid) stk s₆ ok R₆) (fun x s₇ h₇ => ?_) hE))
      obtain ⟨q, st₇, R₇, hq, k₇, l, hl, hz, fin⟩ := h₇
      have := append_list (c := c) (μ := st₇.1) (σ := st₇.2) (a := acc) (l := l) (p := q) (Q := fun _ st => ∃ st₄, I (k + 1) st₄ ∧ St.le st₄ st) hl (by omega) fin [.ref acc, x] (hs₄ ++ hid) stk s₇ ok R₇ (.cons rfl (.cons hq .nil))
      refine wpAny_bind (wpAny_mono this (fun _ s₈ h₈ => ?_) hE)
      obtain ⟨_, st₈, R₈, _, k₈, fin⟩ := h₈
      exact wpAny_pure (wpAny_pure ⟨rfl, again s₈ st₈ R₈ (k₇.trans k₈) fin⟩)
    | false =>
      simp only [Bool.false_eq_true, if_false]
      exact wpAny_pure ⟨rfl, again s₆ st₆ R₆ (.refl _) (h₆.2 rfl)⟩
  · have hk : k = items.length := by omega
    subst hk
    refine IT.stop _ _ _ _ _ _ _ _ hh hSk hKP (hP _ _ hI) R' fun s₃ R₃ k₃ => ?_
    exact wpAny_pure ⟨rfl, st', R₃, k'.trans k₃, hI⟩

/-- what is asked of the loop of a comprehension over items -/
structure CompOk (c : Cx) (scope : Scope) (cl : List (Str × Addr)) (elt target : Expr) (ifs : List Expr) (items : List PV) (P : AHeap → Prop) (μ : Locals) (σ : AHeap) (Q : Addr → AHeap → Prop) : Prop where
  run : ∀ (c' : Cx) (a : Addr), c'.toGx = c.toGx → c'.lv = c.lv → c'.env.scope = relabel scope c.env → c'.env.cells = cl → σ a = none →
    ∃ I : Nat → St → Prop, I 0 ([], σ.set a (.list [])) ∧ (∀ k st, I k st → P st.2) ∧
      (∀ k p st, items[k]? = some p → I k st → WAsg c' target p (fun st₁ => WIfs c' ifs (fun b st₂ => (b = true → WE c' elt (fun q st₃ => compQ I (k + 1) a q st₃) st₂) ∧ (b = false → ∃ st₄, I (k + 1) st₄ ∧ St.le st₄ st₂)) st₁) st) ∧
      (∀ st, I items.length st → Q a st.2)

theorem wp_comp {elt target iter : Expr} {ifs : List Expr} {scope : Scope} {pos : Pos} {cl : List (Str × Addr)} {use : Option (Value → Sem Unit)} {QV : Value → Shared → Prop} (hcalm : c.lv.calm = true)
    (hclos : closureFor scope c.env = pure cl) (hcell : ∀ y ∈ scope.names, y.2 ≠ .cell) (hkind : scope.kind = .function) (hnames : ∀ x ∈ scope.names, x.2 = .local → scope.names.lookup x.1 = some .local) (hf : ∀ x, foldedSetIterable iter c.env x = pure x)
    {hid stk s₀} (ok : COk c.lv c.A c.env (stk.map (·.1))) (R : Rep c.base c.os hid ((c.env.locals, st.1) :: stk) st.2 s₀) {p0 : Pos}
    (h : WE c iter  (fun p st₁ => ∃ items P, ItOk c target p st₁ items P ∧ CompOk c scope cl elt target ifs items P  st₁.1 st₁.2 (fun a σ' => ∀ C ν s', Rep c.base c.os hid ((C, ν) :: (c.env.locals, st₁.1) :: stk) σ' s' → Keeps s₀.heap s'.heap →
      compPost c.M c.A PostX use QV (.ref a) C (.ok .next) s')) st) :
    wpAny c.M c.A (comprehension (.ListComp elt [⟨target, iter, ifs, 0⟩] scope pos) scope c.env p0 (newList []) false (eval iter c.env) use) QV PostX s₀ := by
  refine wpAny_comprehension_free rfl hf hclos hkind hnames (wpAny_mono (h hid stk s₀ ok R) (fun v s₁ hp => ?_) fun _ _ y => y)
  obtain ⟨p, st₁, R₁, hv, k₁, items, P, hit, hrun⟩ := hp
  refine hit v hid stk s₁ _ _ ok R₁ hv fun it Sk KP hs s₂ IT hS0 hK0 R₂ k₂ => ?_
  refine wpAny_newObj_type ?_ (by size_fits)
  -- the accumulator, then the block's own names
  have R₃ := R₂.newList (l := []) (vs := []) .nil
  refine wpAny_newFunctionEnv hcell (by intro y hy; simp at hy) (fun h₁ hns₁ hsb₁ => ?_) hkind
  dsimp only at hns₁ hsb₁ ⊢
  generalize hs₃e : ({ s₂ with heap := s₂.heap.push { cls := .type "list", dict := none, data := .seq ([] : List Value).toArray, slots := #[] } } : Shared) = s₃ at R₃
  have ha3 : s₃.heap = s₂.heap.push { cls := .type "list", dict := none, data := .seq ([] : List Value).toArray, slots := #[] } := by rw [← hs₃e]
  have hkeep : ∀ b o, s₃.heap.get? b = some o → h₁.get? b = some o := fun b o e => by
    rw [ha3] at e
    exact hsb₁.extBut b o (Nat.ne_of_lt (Heap.lt_size e)) (Heap.get?_push_of_some _ e)
  have R₄ : Rep c.base c.os (hs ++ hid) ((s₃.heap.objs.size, []) :: (c.env.locals, st₁.1) :: stk) (st₁.2.set s₂.heap.objs.size (.list [])) { s₃ with heap := h₁ } := by
    have Rg := R₃.grow (s' := { s₃ with heap := h₁ }) hkeep rfl rfl
    refine ⟨Rg.stays, Rg.gens, Rg.os, fun q hq => ?_, fun f hf => ?_, ?_, Rg.hnd, Rg.heap, Rg.tk⟩
    · obtain ⟨a1, b1, c1, d1, e1⟩ := Rg.hid q hq
      exact ⟨a1, b1, c1, fun q' => by
        rw [List.map_cons, List.mem_cons] at q'
        rcases q' with q' | q'
        · exact R₃.fresh_hid q hq q'
        · exact d1 q', e1⟩
    · rcases List.mem_cons.mp hf with rfl | hf
      · exact ⟨⟨R₃.fresh_base, _, by rw [ha3]; exact hns₁, fun x p e => by cases e⟩, R₃.fresh_σ⟩
      · exact Rg.frames f hf
    · rw [List.map_cons, List.nodup_cons]
      exact ⟨fun q => by obtain ⟨f, hf, e⟩ := List.mem_map.mp q; exact R₃.fresh_stk f hf e, Rg.nodup⟩
  have k₃ : Keeps s₂.heap h₁ := fun b vs ⟨n, e⟩ => ⟨n, hkeep _ _ (by rw [ha3]; exact Heap.get?_push_of_some _ e)⟩
  have kall : Keeps s₀.heap h₁ := (k₁.trans k₂).trans k₃
  obtain ⟨I, h0, hP, turn, fin⟩ := hrun.run ⟨c.toGx, c.lv, c.A, compEnvC scope cl s₃.heap.objs.size c.env⟩ s₂.heap.objs.size rfl rfl rfl rfl R₂.fresh_σ
  have hok' : COk c.lv c.A (compEnvC scope cl s₃.heap.objs.size c.env) (((c.env.locals, st₁.1) :: stk).map (·.1)) := ok.inner rfl hkind rfl rfl
  have hloop : ∀ s₄ : Shared, s₄ = { s₃ with heap := h₁ } → codeAny c.M c.A (.compLoop (.ListComp elt [⟨target, iter, ifs, 0⟩] scope pos) 0 (.ref it) (.ref s₂.heap.objs.size) (compEnvC scope cl s₃.heap.objs.size c.env)) (compPost c.M c.A PostX use QV (.ref s₂.heap.objs.size) s₃.heap.objs.size) s₄ := by
    rintro s₄ rfl
    refine codeAny_mono (comp_loop1 (c := ⟨c.toGx, c.lv, c.A, compEnvC scope cl s₃.heap.objs.size c.env⟩) hcalm IT I hP turn (stk := (c.env.locals, st₁.1) :: stk) hok' (Nat.zero_le _) hS0 (IT.mono _ _ k₃ hK0) h0 R₄ kall) fun r s' hr => ?_
    cases r with
    | ok f =>
      obtain ⟨rfl, st', R', k', q⟩ := hr
      exact fin st' q _ _ s' R' k'
    | error e =>
      exact False.elim hr
  have henv : ({ newEnv scope s₃.heap.objs.size c.env.globals cl c.env.qual none .none (some c.env) c.env.builtins with scope := relabel scope c.env } : Env) = compEnvC scope cl s₃.heap.objs.size c.env := rfl
  have hsz : (s₂.heap.push { cls := .type "list", dict := none, data := .seq ([] : List Value).toArray }).objs.size = s₃.heap.objs.size := by rw [ha3]
  rw [hsz]
  have hst : ({ s₂ with heap := h₁, toks := s₂.toks + ([] : List (Str × Value)).length } : Shared) = { s₃ with heap := h₁ } := by rw [← hs₃e]; rfl
  show codeAny c.M c.A (.compStart (.ListComp elt [⟨target, iter, ifs, 0⟩] scope pos) 0 (.ref it) (.ref s₂.heap.objs.size) (compEnvC scope cl s₃.heap.objs.size c.env)) _ _
  rw [hst]
  refine codeAny_compStart_list (hloop _ rfl) ?_
  exact IT.self 0 _ _ _ _ _ _ _ _ hS0 R₄ (hloop _ rfl)

theorem E_ListComp {elt target iter : Expr} {ifs : List Expr} {scope : Scope} {pos : Pos} {cl : List (Str × Addr)} {Q : PV → St → Prop} (hcalm : c.lv.calm = true)
    (hclos : closureFor scope c.env = pure cl) (hcell : ∀ y ∈ scope.names, y.2 ≠ .cell) (hkind : scope.kind = .function) (hnames : ∀ x ∈ scope.names, x.2 = .local → scope.names.lookup x.1 = some .local) (hf : ∀ x, foldedSetIterable iter c.env x = pure x)
    (h : WE c iter  (fun p st₁ => ∃ items P, ItOk c target p st₁ items P ∧ CompOk c scope cl elt target ifs items P  st₁.1 st₁.2 (fun a σ' => Q (.ref a) (st₁.1, σ'))) st) :
    WE c (.ListComp elt [⟨target, iter, ifs, 0⟩] scope pos)  Q st := fun hid stk s ok R => by
  rw [eval_ListComp]
  refine wp_comp (use := none) hcalm hclos hcell hkind hnames hf ok R (WT.mono h (fun p st₁ ⟨items, P, hit, hr⟩ => ⟨items, P, hit, ⟨fun c' a h1 h2 h3 h4 h5 => ?_⟩⟩) fun _ _ y => y)
  obtain ⟨I, h0, hP, turn, fin⟩ := hr.run c' a h1 h2 h3 h4 h5
  refine ⟨I, h0, hP, turn, fun st' hI C ν s' R' k' => ?_⟩
  obtain ⟨⟨_, m, hn, _⟩, _⟩ := R'.frames _ (List.mem_cons_self ..)
  refine ⟨m, hn, fun h' hsb => ?_⟩
  obtain ⟨R'', kk⟩ := R'.popChange (tk := s'.toks) hsb
  exact ⟨.ref a, (st₁.1, st'.2), R'', rfl, k'.trans kk, fin st' hI⟩

/-- a comprehension whose value goes to a local name at once -/
theorem S_AssignComp {x : Str} {pos' spos : Pos} {elt target iter : Expr} {ifs : List Expr} {scope : Scope} {pos : Pos} {cl : List (Str × Addr)} {Q : AFlow → St → Prop} (hcalm : c.lv.calm = true)
    (hsw : swapsWith (.ListComp elt [⟨target, iter, ifs, 0⟩] scope pos) (some (.Name x pos')) spos.line c.env = pure true) (hl : c.env.scope.names.lookup x = some .local)
    (hclos : closureFor scope c.env = pure cl) (hcell : ∀ y ∈ scope.names, y.2 ≠ .cell) (hkind : scope.kind = .function) (hnames : ∀ x ∈ scope.names, x.2 = .local → scope.names.lookup x.1 = some .local) (hf : ∀ x, foldedSetIterable iter c.env x = pure x)
    (h : WE c iter  (fun p st₁ => ∃ items P, ItOk c target p st₁ items P ∧ CompOk c scope cl elt target ifs items P  st₁.1 st₁.2 (fun a σ' => Q .next (setL x (.ref a) st₁.1, σ'))) st) :
    WX c (.Assign [.Name x pos'] (.ListComp elt [⟨target, iter, ifs, 0⟩] scope pos) spos)  Q st := fun hid stk s ok R => by
  rw [exec_Assign_Name_used x pos' _ spos hsw]
  refine wpAny_bind (wpAny_standAt (wpAny_bind ?_))
  show wpAny _ _ (do let _ ← comprehension (.ListComp elt [⟨target, iter, ifs, 0⟩] scope pos) scope c.env _ (newList []) false (eval iter c.env) (some (assign (.Name x pos') c.env))) _ _ s
  refine wpAny_bind (wp_comp (use := some (assign (.Name x pos') c.env)) hcalm hclos hcell hkind hnames hf ok R (WT.mono h (fun p st₁ ⟨items, P, hit, hr⟩ => ⟨items, P, hit, ⟨fun c' a h1 h2 h3 h4 h5 => ?_⟩⟩) fun _ _ y => y))
  obtain ⟨I, h0, hP, turn, fin⟩ := hr.run c' a h1 h2 h3 h4 h5
  refine ⟨I, h0, hP, turn, fun st' hI C ν s' R' k' => ?_⟩
  have := Asg_local (c := c) (x := x) (pos := pos') (p := .ref a) (μ := st₁.1) (σ := st'.2) (Q := fun st => Q .next st) hl (fin st' hI) (.ref a) hid ((C, ν) :: stk) s' (ok.more C) R'.swap rfl
  refine wpAny_mono this (fun _ s'' hq => ?_) fun e s'' hx => ?_
  · obtain ⟨_, st₂, R₂, _, k₂, q⟩ := hq
    have R₂' := R₂.swap
    obtain ⟨⟨_, m, hn, _⟩, _⟩ := R₂'.frames _ (List.mem_cons_self ..)
    refine ⟨m, hn, fun h' hsb => ?_⟩
    obtain ⟨R₃, kk⟩ := R₂'.popChange (tk := s''.toks) hsb
    exact wpAny_pure (wpAny_pure ⟨.next, st₂, R₃, rfl, (k'.trans k₂).trans kk, q⟩)
  · exact False.elim hx
end
end Mine
end
section
open PySem PySem.W PyProof.Rows
set_option Elab.async false
set_option linter.unusedVariables false
set_option maxRecDepth 10000
namespace Mine

structure ExcSub (Xc T : String) (b : Bool) : Prop where
  exc : isSubtype (.type T) (.type "BaseException") = pure true
  nt : isSubtype (.type ((Manifest.find? T).elim "type" fun x => x.metatype)) (.type "tuple") = pure false
  sub : isSubtype (.type Xc) (.type T) = pure b
section
variable {c : Cx} {st : St} {μ : Locals} {σ : AHeap}

end
end Mine
end
section
open PySem PySem.W PyProof.Rows
set_option Elab.async false
set_option linter.unusedVariables false
set_option maxRecDepth 10000
namespace Mine

section
variable {M : Model} {A : Around} {E : Value → Shared → Prop} {s : Shared}
end

section
variable {prog : Program} {w : World} {A : Around} {E : Value → Shared → Prop} {s : Shared} {i : Int} {t : Tok} {Q : Value → Shared → Prop}
end
section
variable {prog : Program} {w : World} {A : Around} {E : Value → Shared → Prop} {s : Shared} {i : Int} {t : Tok} {Q : Value → Shared → Prop}
end

/-! comparing an int with a stranger -/
section
variable {c : Cx} {st : St} {μ : Locals} {σ : AHeap}
end
end Mine
end
section
open PySem PySem.W PyProof.Rows
set_option Elab.async false
set_option linter.unusedVariables false
set_option maxRecDepth 10000
namespace Mine

section
variable {c : Cx} {st : St} {μ : Locals} {σ : AHeap}

theorem bin_floordiv {i j : Int} {Q : PV → St → Prop} (h0 : j ≠ 0) (hj : j.natAbs < 1073741824) (h : Q (.int (i.fdiv j)) st) : W2 c VRep (.int i) (.int j) (binaryOp .FloorDiv)  Q st :=
  W2_ints (fun q => PyProof.Rows.floordiv_int h0 q (.inl (PyProof.noPylong_small hj))) h

/-! is -/
theorem is_none {p : PV} {Q : PV → St → Prop} (hb : ∀ x, p ≠ .bi x) (h : Q (.bool (match p with | .none => true | _ => false)) st) : W2 c VRep p .none (compareOp .Is)  Q st := fun v u hid stk s ok R hv hu => by
  simp only [VRep] at hu; subst hu
  cases p with
  | none => simp only [VRep] at hv; subst hv; exact wpAny_is_self rfl ⟨.bool true, st, R, rfl, .refl _, h⟩
  | bool b => simp only [VRep] at hv; subst hv; exact wpAny_is_other rfl (by simp) ⟨.bool false, st, R, rfl, .refl _, h⟩
  | int i => obtain ⟨t, rfl⟩ := hv; exact wpAny_is_other rfl (by simp) ⟨.bool false, st, R, rfl, .refl _, h⟩
  | str x t => simp only [VRep] at hv; subst hv; exact wpAny_is_other rfl (by simp) ⟨.bool false, st, R, rfl, .refl _, h⟩
  | ref a => simp only [VRep] at hv; subst hv; exact wpAny_is_other rfl (by simp) ⟨.bool false, st, R, rfl, .refl _, h⟩
  | ty x => simp only [VRep] at hv; subst hv; exact wpAny_is_other rfl (by simp) ⟨.bool false, st, R, rfl, .refl _, h⟩
  | bi x => exact absurd rfl (hb x)
  | tup l => simp only [VRep] at hv; obtain ⟨a, vs, rfl, _⟩ := hv; exact wpAny_is_other rfl (by simp) ⟨.bool false, st, R, rfl, .refl _, h⟩
theorem isNot_none {p : PV} {Q : PV → St → Prop} (hb : ∀ x, p ≠ .bi x) (h : Q (.bool (match p with | .none => false | _ => true)) st) : W2 c VRep p .none (compareOp .IsNot)  Q st := fun v u hid stk s ok R hv hu => by
  simp only [VRep] at hu; subst hu
  cases p with
  | none => simp only [VRep] at hv; subst hv; exact wpAny_isNot_self rfl ⟨.bool false, st, R, rfl, .refl _, h⟩
  | bool b => simp only [VRep] at hv; subst hv; exact wpAny_isNot_other rfl (by simp) ⟨.bool true, st, R, rfl, .refl _, h⟩
  | int i => obtain ⟨t, rfl⟩ := hv; exact wpAny_isNot_other rfl (by simp) ⟨.bool true, st, R, rfl, .refl _, h⟩
  | str x t => simp only [VRep] at hv; subst hv; exact wpAny_isNot_other rfl (by simp) ⟨.bool true, st, R, rfl, .refl _, h⟩
  | ref a => simp only [VRep] at hv; subst hv; exact wpAny_isNot_other rfl (by simp) ⟨.bool true, st, R, rfl, .refl _, h⟩
  | ty x => simp only [VRep] at hv; subst hv; exact wpAny_isNot_other rfl (by simp) ⟨.bool true, st, R, rfl, .refl _, h⟩
  | bi x => exact absurd rfl (hb x)
  | tup l => simp only [VRep] at hv; obtain ⟨a, vs, rfl, _⟩ := hv; exact wpAny_isNot_other rfl (by simp) ⟨.bool true, st, R, rfl, .refl _, h⟩
end
end Mine
end
section
open PySem PySem.W PyProof.Rows
set_option Elab.async false
set_option linter.unusedVariables false
set_option maxRecDepth 10000
namespace Mine

section
variable {c : Cx} {st : St} {μ : Locals} {σ : AHeap}

/-! an item as a target -/
theorem Asg_Sub {o i pos} {p : PV} {Q : St → Prop} (h : WE c o  (fun po st₂ => WE c i  (fun pi st₃ => W3 c UnitRep po pi p (fun o i v => setItem o i v)  (fun _ st₄ => Q st₄) st₃) st₂) st) : WAsg c (.Subscript o i pos) p  Q st := fun v hid stk s ok R hv => by
  show wpAny _ _ (assign (.Subscript o i pos) c.env v) _ _ s
  rw [arm_assign_Subscript]
  refine wpAny_bind (wpAny_holding (wpAny_mono (h hid stk s ok R) (fun vo s₂ hp => ?_) fun _ _ y => y))
  obtain ⟨po, st₂, R₂, hvo, k₂, h₂⟩ := hp
  refine wpAny_bind (wpAny_holding (wpAny_mono (h₂ hid stk s₂ ok R₂) (fun vi s₃ hp => ?_) fun _ _ y => y))
  obtain ⟨pi, st₃, R₃, hvi, k₃, h₃⟩ := hp
  refine wpAny_bind (wpAny_standAt (wpAny_bind (wpAny_holding (wpAny_mono (h₃ vo vi v hid stk s₃ ok R₃ (hvo.mono k₃) hvi (hv.mono (k₂.trans k₃))) (fun _ s₄ hq => ?_) fun _ _ y => y))))
  obtain ⟨_, st₄, R₄, _, k₄, q⟩ := hq
  exact wpAny_release ⟨(), st₄, R₄, trivial, (k₂.trans k₃).trans k₄, q⟩
end
end Mine
end
section
open PySem PySem.W PyProof.Rows PySem.SeqAt
set_option Elab.async false
set_option linter.unusedVariables false
set_option maxRecDepth 10000
namespace Mine

/-! tuples of ints, by their order -/
noncomputable def lexI : List Int → List Int → Bool
  | [], [] => false
  | [], _ :: _ => true
  | _ :: _, [] => false
  | x :: xs, y :: ys => if x == y then lexI xs ys else decide (x < y)

theorem intsAre_get {vs : List Value} {ns : List Int} (h : IntsAre vs ns) : ∀ i (hi : i < vs.length), ∃ (hn : i < ns.length) (t : Tok), vs[i] = .int ns[i] t := by
  induction h with
  | nil => intro i hi; simp at hi
  | cons n t _ ih =>
    intro i hi
    cases i with
    | zero => exact ⟨by simp, t, rfl⟩
    | succ i =>
      obtain ⟨hn, t', e⟩ := ih i (by simpa using hi)
      exact ⟨by simpa using hn, t', by simpa using e⟩
theorem intsAre_len {vs : List Value} {ns : List Int} (h : IntsAre vs ns) : vs.length = ns.length := by
  induction h with
  | nil => rfl
  | cons n t _ ih => simp [ih]

end Mine
end
section
open PySem PySem.W PyProof.Rows PySem.SeqAt
set_option Elab.async false
set_option linter.unusedVariables false
set_option maxRecDepth 10000
namespace Mine

section
variable {c : Cx} {st : St} {μ : Locals} {σ : AHeap}

/-! lists -/
theorem insert_list {a : Addr} {l : List PV} {i : Int} {p : PV} {Q : PV → St → Prop} (hs : σ a = some (.list l)) (h0 : 0 ≤ i) (hi : i ≤ l.length) (hz : l.length ≤ 16000000) (h : Q .none (μ, σ.set a (.list (l.take i.toNat ++ p :: l.drop i.toNat)))) :
    WN c VRep [.ref a, .int i, p] (fun vs => call (.builtin "list.insert") vs)  Q (μ, σ) := fun vs hid stk s ok R hv => by
  obtain ⟨v1, r1, rfl, h1, hv⟩ := hv.cons_inv
  obtain ⟨v2, r2, rfl, h2, hv⟩ := hv.cons_inv
  obtain ⟨v3, r3, rfl, h3, hv⟩ := hv.cons_inv
  rw [hv.nil_inv]
  simp only [VRep] at h1; subst h1
  obtain ⟨t, rfl⟩ := h2
  obtain ⟨hb, ws, hL, hws⟩ := R.heap _ _ hs
  have hlen := hws.length
  obtain ⟨n, e⟩ := id hL
  refine call_meets F.slot_list_insert ⟨_, e, rfl⟩ F.entry_list_insert (F.args_list_insert_3 _ _ _) (AutoListH.list_insert_list_int_val_1 a ws.toArray n i t v3 (by rw [fitsIndex_of h0 (by omega)]; decide) (by rw [sizeLine_eq]; simp; omega)) ⟨e, ?_⟩
  obtain ⟨R', k⟩ := R.listUpd (tk := s.toks) (l' := l.take i.toNat ++ p :: l.drop i.toNat) (ws := ws.take i.toNat ++ v3 :: ws.drop i.toNat) hs upd_other (hL.upd (f := fun xs => have k := if i < 0 then (i + ((xs.size : Nat) : Int)).toNat else min i.toNat xs.size; (xs.extract 0 k).push v3 ++ xs.extract k) (by
    have e1 : ¬ i < 0 := by omega
    have e2 : min i.toNat ws.toArray.size = i.toNat := by simp; omega
    simp only [e1, if_false, e2]
    apply Array.toList_inj.mp
    simp
    exact List.take_of_length_le (by simp))) ((hws.take _).append (.cons h3 (hws.drop _)))
  exact ⟨.none, (μ, _), R', rfl, k, h⟩

end
end Mine
end
section
open PySem PySem.W PyProof.Rows
set_option Elab.async false
set_option linter.unusedVariables false
set_option maxRecDepth 10000
namespace Mine

end Mine
end
section
set_option Elab.async false
set_option linter.unusedVariables false
namespace Mine

/-! heaps, plainly -/
section
variable {α β : Type}
noncomputable def sdnB (lt : α → α → Bool) (d x : α) (pos : Nat) (l : List α) : List α :=
  if h : pos > 0 then
    if lt x (l.getD ((pos - 1) / 2) d) then sdnB lt d x ((pos - 1) / 2) (l.set pos (l.getD ((pos - 1) / 2) d)) else l.set pos x
  else l.set pos x
termination_by pos
decreasing_by omega

noncomputable def supB (lt : α → α → Bool) (d : α) (pos : Nat) (l : List α) : Nat × List α :=
  if h : 2 * pos + 1 < l.length then
    if 2 * pos + 2 < l.length ∧ lt (l.getD (2 * pos + 1) d) (l.getD (2 * pos + 2) d) = false then supB lt d (2 * pos + 2) (l.set pos (l.getD (2 * pos + 2) d))
    else supB lt d (2 * pos + 1) (l.set pos (l.getD (2 * pos + 1) d))
  else (pos, l)
termination_by l.length - pos
decreasing_by all_goals simp only [List.length_set]; omega

/-- sifted up from the top, x being there -/
noncomputable def topB (lt : α → α → Bool) (d x : α) (l : List α) : List α := let r := supB lt d 0 l; sdnB lt d x r.1 (r.2.set r.1 x)

structure LtTot (lt : α → α → Bool) : Prop where
  asym : ∀ a b, lt a b = true → lt b a = false
  ntrans : ∀ a b c, lt a b = false → lt b c = false → lt a c = false
theorem LtTot.left {lt : α → α → Bool} (h : LtTot lt) {a b c : α} (h1 : lt a b = true) (h2 : lt c b = false) : lt c a = false := by
  cases q : lt c a with
  | false => rfl
  | true =>
    -- c < a < b
    have := h.ntrans c b a h2 (h.asym _ _ h1)
    rw [q] at this; cases this
noncomputable def IsHeap (lt : α → α → Bool) (d : α) (l : List α) : Prop := ∀ k, 0 < k → k < l.length → lt (l.getD k d) (l.getD ((k - 1) / 2) d) = false

theorem getD_set_same {l : List α} {i : Nat} {x d : α} (h : i < l.length) : (l.set i x).getD i d = x := by simp [List.getD_eq_getElem?_getD, h]
theorem getD_set_ne {l : List α} {i j : Nat} {x d : α} (h : i ≠ j) : (l.set i x).getD j d = l.getD j d := by simp [List.getD_eq_getElem?_getD, List.getElem?_set_ne h]

@[simp] theorem supB_length (lt : α → α → Bool) (d : α) (pos : Nat) (l : List α) : (supB lt d pos l).2.length = l.length := by
  fun_induction supB lt d pos l <;> simp_all
theorem supB_lt {lt : α → α → Bool} {d : α} {pos : Nat} {l : List α} (h : pos < l.length) : (supB lt d pos l).1 < l.length := by
  fun_induction supB lt d pos l with
  | case1 pos l h1 h2 ih => have := ih (by simp; omega); simpa using this
  | case2 pos l h1 h2 ih => have := ih (by simp; omega); simpa using this
  | case3 pos l h1 => exact h
theorem supB_leaf {lt : α → α → Bool} {d : α} {pos : Nat} {l : List α} : l.length ≤ 2 * (supB lt d pos l).1 + 1 := by
  fun_induction supB lt d pos l with
  | case1 pos l h1 h2 ih => simpa using ih
  | case2 pos l h1 h2 ih => simpa using ih
  | case3 pos l h1 => simp; omega

/-- but for the hole at pos -/
structure Hole (lt : α → α → Bool) (d : α) (pos : Nat) (l : List α) : Prop where
  else_ : ∀ k, 0 < k → k < l.length → k ≠ pos → (k - 1) / 2 ≠ pos → lt (l.getD k d) (l.getD ((k - 1) / 2) d) = false
  over : 0 < pos → ∀ k, 0 < k → k < l.length → (k - 1) / 2 = pos → lt (l.getD k d) (l.getD ((pos - 1) / 2) d) = false

theorem sdnB_heap {lt : α → α → Bool} (ht : LtTot lt) {d x : α} {pos : Nat} {l : List α} (hp : pos < l.length) (H : Hole lt d pos l) (hx : ∀ k, 0 < k → k < l.length → (k - 1) / 2 = pos → lt (l.getD k d) x = false) :
    IsHeap lt d (sdnB lt d x pos l) := by
  fun_induction sdnB lt d x pos l with
  | case1 pos l h1 h2 ih =>
    have hq : (pos - 1) / 2 < pos := by omega
    refine ih (by simp; omega) ⟨fun k k0 kl kq kp => ?_, fun q0 k k0 kl kp => ?_⟩ fun k k0 kl kp => ?_
    · simp only [List.length_set] at kl
      by_cases e : (k - 1) / 2 = pos
      · have hk : pos ≠ k := by omega
        rw [getD_set_ne hk, e, getD_set_same hp]
        exact H.over h1 k k0 kl e
      · by_cases e2 : k = pos
        · subst e2; exact absurd rfl kp
        · rw [getD_set_ne (Ne.symm e2), getD_set_ne (Ne.symm e)]
          exact H.else_ k k0 kl e2 e
    · simp only [List.length_set] at kl
      have hg : ((pos - 1) / 2 - 1) / 2 ≠ pos := by omega
      rw [getD_set_ne (Ne.symm hg)]
      have up := H.else_ ((pos - 1) / 2) q0 (by omega) (by omega) hg
      by_cases e2 : k = pos
      · subst e2; rw [getD_set_same hp]; exact up
      · rw [getD_set_ne (Ne.symm e2)]
        refine ht.ntrans _ _ _ ?_ up
        have := H.else_ k k0 kl e2 (by omega)
        rwa [kp] at this
    · simp only [List.length_set] at kl
      by_cases e2 : k = pos
      · subst e2; rw [getD_set_same hp]; exact ht.asym _ _ h2
      · rw [getD_set_ne (Ne.symm e2)]
        have := H.else_ k k0 kl e2 (by omega)
        rw [kp] at this
        exact ht.left h2 this
  | case2 pos l h1 h2 =>
    intro k k0 kl
    simp only [List.length_set] at kl
    by_cases e : k = pos
    · subst e
      have : (k - 1) / 2 ≠ k := by omega
      rw [getD_set_same hp, getD_set_ne (Ne.symm this)]
      simpa using h2
    · rw [getD_set_ne (Ne.symm e)]
      by_cases e2 : (k - 1) / 2 = pos
      · rw [e2, getD_set_same hp]; exact hx k k0 kl e2
      · rw [getD_set_ne (Ne.symm e2)]; exact H.else_ k k0 kl e e2
  | case3 pos l h1 =>
    intro k k0 kl
    simp only [List.length_set] at kl
    have e : k ≠ pos := by omega
    rw [getD_set_ne (Ne.symm e)]
    by_cases e2 : (k - 1) / 2 = pos
    · rw [e2, getD_set_same hp]; exact hx k k0 kl e2
    · rw [getD_set_ne (Ne.symm e2)]; exact H.else_ k k0 kl e e2

theorem supB_hole {lt : α → α → Bool} (ht : LtTot lt) {d : α} {pos : Nat} {l : List α} (hp : pos < l.length) (H : Hole lt d pos l) : Hole lt d (supB lt d pos l).1 (supB lt d pos l).2 := by
  have step : ∀ (pos : Nat) (l : List α) (c : Nat), pos < l.length → Hole lt d pos l → (c = 2 * pos + 1 ∨ c = 2 * pos + 2) → c < l.length → (∀ k, 0 < k → k < l.length → (k - 1) / 2 = pos → k ≠ c → lt (l.getD k d) (l.getD c d) = false) → Hole lt d c (l.set pos (l.getD c d)) := by
    intro pos l c hp H hc hcl hmin
    refine ⟨fun k k0 kl kc kp => ?_, fun c0 k k0 kl kp => ?_⟩
    · simp only [List.length_set] at kl
      by_cases e : k = pos
      · subst e
        have : (k - 1) / 2 ≠ k := by omega
        rw [getD_set_same hp, getD_set_ne (Ne.symm this)]
        exact H.over k0 c (by omega) hcl (by omega)
      · rw [getD_set_ne (Ne.symm e)]
        by_cases e2 : (k - 1) / 2 = pos
        · rw [e2, getD_set_same hp]; exact hmin k k0 kl e2 kc
        · rw [getD_set_ne (Ne.symm e2)]; exact H.else_ k k0 kl e e2
    · simp only [List.length_set] at kl
      have hcp : (c - 1) / 2 = pos := by omega
      have e : k ≠ pos := by omega
      rw [hcp, getD_set_same hp, getD_set_ne (Ne.symm e)]
      have := H.else_ k k0 kl e (by omega)
      rwa [kp] at this
  fun_induction supB lt d pos l with
  | case1 pos l h1 h2 ih =>
    refine ih (by simp; omega) (step pos l _ hp H (.inr rfl) h2.1 fun k k0 kl kp kc => ?_)
    have : k = 2 * pos + 1 := by omega
    subst this; exact h2.2
  | case2 pos l h1 h2 ih =>
    refine ih (by simp; omega) (step pos l _ hp H (.inl rfl) h1 fun k k0 kl kp kc => ?_)
    have : k = 2 * pos + 2 := by omega
    subst this
    have : lt (l.getD (2 * pos + 1) d) (l.getD (2 * pos + 2) d) = true := by
      cases q : lt (l.getD (2 * pos + 1) d) (l.getD (2 * pos + 2) d) with
      | true => rfl
      | false => exact absurd ⟨kl, q⟩ h2
    exact ht.asym _ _ this
  | case3 pos l h1 => exact H

theorem IsHeap.hole0 {lt : α → α → Bool} {d : α} {l : List α} (h : IsHeap lt d l) : Hole lt d 0 l := ⟨fun k k0 kl _ _ => h k k0 kl, fun h => absurd h (Nat.lt_irrefl 0)⟩
theorem Hole.set {lt : α → α → Bool} {d x : α} {pos : Nat} {l : List α} (H : Hole lt d pos l) : Hole lt d pos (l.set pos x) := by
  refine ⟨fun k k0 kl kp kq => ?_, fun h k k0 kl kp => ?_⟩
  · simp only [List.length_set] at kl
    rw [getD_set_ne (Ne.symm kp), getD_set_ne (Ne.symm kq)]; exact H.else_ k k0 kl kp kq
  · simp only [List.length_set] at kl
    have e1 : pos ≠ k := by omega
    have e2 : pos ≠ (pos - 1) / 2 := by omega
    rw [getD_set_ne e1, getD_set_ne e2]; exact H.over h k k0 kl kp
theorem topB_heap {lt : α → α → Bool} (ht : LtTot lt) {d x : α} {l : List α} (hl : 0 < l.length) (H : Hole lt d 0 l) : IsHeap lt d (topB lt d x l) := by
  have h1 := supB_lt (lt := lt) (d := d) hl
  have h2 := supB_leaf (lt := lt) (d := d) (pos := 0) (l := l)
  refine sdnB_heap ht (by simpa using h1) (Hole.set (supB_hole ht hl H)) fun k k0 kl kp => ?_
  simp at kl; omega
/-- one more at the end -/
theorem push_heap {lt : α → α → Bool} (ht : LtTot lt) {d x : α} {l : List α} (h : IsHeap lt d l) : IsHeap lt d (sdnB lt d x l.length (l ++ [x])) := by
  refine sdnB_heap ht (by simp) ⟨fun k k0 kl kp kq => ?_, fun _ k k0 kl kp => ?_⟩ fun k k0 kl kp => ?_
  · simp at kl
    have hk : k < l.length := by omega
    have := h k k0 hk
    simpa [List.getD_eq_getElem?_getD, List.getElem?_append_left, hk, show (k - 1) / 2 < l.length by omega] using this
  · simp at kl; omega
  · simp at kl; omega
theorem IsHeap.min {lt : α → α → Bool} (ht : LtTot lt) {d : α} {l : List α} (h : IsHeap lt d l) (hirr : ∀ a, lt a a = false) : ∀ k, k < l.length → lt (l.getD k d) (l.getD 0 d) = false := by
  intro k
  induction k using Nat.strongRecOn with
  | _ k ih =>
    intro hk
    by_cases e : k = 0
    · subst e; exact hirr _
    · exact ht.ntrans _ _ _ (h k (by omega) hk) (ih ((k - 1) / 2) (by omega) (by omega))

variable [DecidableEq α]
theorem swap_perm {l : List α} {i j : Nat} {x d : α} (hi : i < l.length) (hj : j < l.length) (hij : i ≠ j) : ((l.set i (l.getD j d)).set j x).Perm (l.set i x) := by
  refine List.perm_iff_count.mpr fun a => ?_
  have e : l.getD j d = l[j] := by simp [List.getD_eq_getElem?_getD, hj]
  rw [e, List.count_set (by simpa using hj), List.count_set hi, List.count_set hi]
  have e2 : (l.set i l[j])[j]'(by simpa using hj) = l[j] := by simp [List.getElem_set_ne hij]
  rw [e2]
  have c1 : (if l[i] == a then 1 else 0) ≤ l.count a := by
    split
    · rename_i h; have : l[i] = a := by simpa using h
      exact List.count_pos_iff.mpr (this ▸ List.getElem_mem hi)
    · exact Nat.zero_le _
  split <;> split <;> split <;> simp_all <;> omega
theorem sdnB_perm {lt : α → α → Bool} {d x : α} {pos : Nat} {l : List α} (hp : pos < l.length) : (sdnB lt d x pos l).Perm (l.set pos x) := by
  fun_induction sdnB lt d x pos l with
  | case1 pos l h1 h2 ih => exact (ih (by simp; omega)).trans (swap_perm hp (by omega) (by omega))
  | case2 pos l h1 h2 => exact .refl _
  | case3 pos l h1 => exact .refl _
theorem supB_perm {lt : α → α → Bool} {d x : α} {pos : Nat} {l : List α} (hp : pos < l.length) : ((supB lt d pos l).2.set (supB lt d pos l).1 x).Perm (l.set pos x) := by
  fun_induction supB lt d pos l with
  | case1 pos l h1 h2 ih => exact (ih (by simp; omega)).trans (swap_perm hp (by omega) (by omega))
  | case2 pos l h1 h2 ih => exact (ih (by simp; omega)).trans (swap_perm hp (by omega) (by omega))
  | case3 pos l h1 => exact .refl _
theorem topB_perm {lt : α → α → Bool} {d x : α} {l : List α} (hl : 0 < l.length) : (topB lt d x l).Perm (l.set 0 x) := by
  have h1 := supB_lt (lt := lt) (d := d) hl
  refine (sdnB_perm (by simpa using h1)).trans ?_
  rw [List.set_set]
  exact supB_perm hl
theorem push_perm {lt : α → α → Bool} {d x : α} {l : List α} : (sdnB lt d x l.length (l ++ [x])).Perm (l ++ [x]) := by
  have := sdnB_perm (lt := lt) (d := d) (x := x) (pos := l.length) (l := l ++ [x]) (by simp)
  simpa using this
end

/-! the same over other names -/
section
variable {α β : Type} {f : α → β} {lt : α → α → Bool} {lt' : β → β → Bool} {d : α}
end
end Mine
end
section
open PySem PySem.W
set_option Elab.async false
set_option linter.unusedVariables false
namespace Mine

section
variable {c : Cx} {st : St}
/-- a def of the text, by its name -/
theorem E_CallG {x : Str} {pos' e rest pos} {Q : PV → St → Prop} {a : Addr} {o : Obj} {fd : FuncData} (hG : Gd c.toGx) (hl : c.env.scope.names.lookup x = some .globalImplicit) (hv : c.mg x = some (.ref a)) (ho : c.base.get? a = some o) (hf : o.data = .func fd)
    (h : WA c pos (e :: rest)  (fun ps st₂ => WN c VRep ps (fun vs => call (.ref a) vs)  Q st₂) st) (hd : (x == ("__debug__" : Str)) = false)
    (hev : eval (.Call (.Name x pos') (e :: rest) [] pos) c.env = (do callWith pos (← eval (.Name x pos') c.env) [] (backTo pos (starEach (e :: rest) c.env)) (backToKw pos (keywordEach [] c.env))))
    (he : starEach (e :: rest) c.env = (false, eval e c.env) :: starEach rest c.env)
    (hplain : (backTo pos (starEach rest c.env)).any (·.1) = false) : WE c (.Call (.Name x pos') (e :: rest) [] pos)  Q st :=
  E_Call (E_global hG hl hv rfl ⟨⟨o, fd, ho, hf⟩, h⟩ hd) hev he hplain
/-- a builtin function or type, by its name -/
theorem E_CallB {x : Str} {pos' e rest pos} {Q : PV → St → Prop} {id : String} (hG : Gd c.toGx) (hl : c.env.scope.names.lookup x = some .globalImplicit) (hm : c.mg x = none) (hn : x ≠ "__name__") (hv : bootBuiltins x = some (.builtin id))
    (h : WA c pos (e :: rest)  (fun ps st₂ => WN c VRep ps (fun vs => call (.builtin id) vs)  Q st₂) st) (hd : (x == ("__debug__" : Str)) = false)
    (hev : eval (.Call (.Name x pos') (e :: rest) [] pos) c.env = (do callWith pos (← eval (.Name x pos') c.env) [] (backTo pos (starEach (e :: rest) c.env)) (backToKw pos (keywordEach [] c.env))))
    (he : starEach (e :: rest) c.env = (false, eval e c.env) :: starEach rest c.env)
    (hplain : (backTo pos (starEach rest c.env)).any (·.1) = false) : WE c (.Call (.Name x pos') (e :: rest) [] pos)  Q st :=
  E_Call (E_builtin hG hl hm hn hv rfl ⟨trivial, h⟩ hd) hev he hplain
theorem E_CallT {x : Str} {pos' e rest pos} {Q : PV → St → Prop} {id : String} (hG : Gd c.toGx) (hl : c.env.scope.names.lookup x = some .globalImplicit) (hm : c.mg x = none) (hn : x ≠ "__name__") (hv : bootBuiltins x = some (.type id))
    (h : WA c pos (e :: rest)  (fun ps st₂ => WN c VRep ps (fun vs => call (.type id) vs)  Q st₂) st) (hd : (x == ("__debug__" : Str)) = false)
    (hev : eval (.Call (.Name x pos') (e :: rest) [] pos) c.env = (do callWith pos (← eval (.Name x pos') c.env) [] (backTo pos (starEach (e :: rest) c.env)) (backToKw pos (keywordEach [] c.env))))
    (he : starEach (e :: rest) c.env = (false, eval e c.env) :: starEach rest c.env)
    (hplain : (backTo pos (starEach rest c.env)).any (·.1) = false) : WE c (.Call (.Name x pos') (e :: rest) [] pos)  Q st :=
  E_Call (E_builtin hG hl hm hn hv rfl ⟨trivial, h⟩ hd) hev he hplain
end
theorem swapped_of {targets : List Expr} {value : Expr} {env : Env} {S : Scope} {r : Sem (Option (List Str))} (h : env.scope = S) (hr : swappedStores targets value { (default : Env) with scope := S } = r) : swappedStores targets value env = r := by
  rw [← hr]
  unfold swappedStores Env.kindOf Env.blockKind
  rw [h]
theorem closure_of {scope : Scope} {env : Env} {cs : List (Str × Addr)} {r : Sem (List (Str × Addr))} (h : env.cells = cs) (hr : closureFor scope { (default : Env) with cells := cs } = r) : closureFor scope env = r := by
  rw [← hr]
  unfold closureFor cellOf
  rw [h]
theorem relabel_of {scope S : Scope} {env : Env} (h : env.scope = S) : relabel scope env = relabel scope { (default : Env) with scope := S } := by
  unfold relabel Env.kindOf
  rw [h]
theorem at_set_fresh {σ : AHeap} {a b : Addr} {o o' : AObj} (h : σ a = none) (h2 : σ b = some o) : (σ.set a o') b = some o := AHeap.sub_set o' h _ _ h2
theorem ne_of_fresh {σ : AHeap} {a b : Addr} {o : AObj} (h : σ a = none) (h2 : σ b = some o) : b ≠ a := fun e => by rw [e, h] at h2; cases h2
theorem AHeap.Sub.trans {σ τ υ : AHeap} (h : σ.Sub τ) (h2 : τ.Sub υ) : σ.Sub υ := fun a o e => h2 a o (h a o e)
/-- a list that is not told of may change -/
theorem AHeap.Sub.off {σ τ : AHeap} {a : Addr} {o : AObj} (h : σ.Sub τ) (h2 : σ a = none) : σ.Sub (τ.set a o) := fun b o' e => by
  have : b ≠ a := fun q => by rw [q, h2] at e; cases e
  rw [AHeap.set_ne _ _ this]; exact h b o' e
theorem swaps_of {value : Expr} {target : Option Expr} {n : Nat} {env : Env} {S : Scope} {r : Sem Bool} (h : env.scope = S) (hr : swapsWith value target n { (default : Env) with scope := S } = r) : swapsWith value target n env = r := by
  rw [← hr]
  unfold swapsWith Env.kindOf Env.blockKind
  rw [h]
theorem mulOk2 {i : Int} : IntMulOk 2 i := IntMulOk.of_left (by decide)
end Mine
end
section
open PySem PySem.W
set_option Elab.async false
set_option linter.unusedVariables false
namespace Mine
section
variable {c : Cx} {st : St} {Q : PV → St → Prop}
theorem is_none_n (h : Q (.bool true) st) : W2 c VRep .none .none (compareOp .Is)  Q st := is_none (fun _ e => nomatch e) h
theorem is_none_r {a : Addr} (h : Q (.bool false) st) : W2 c VRep (.ref a) .none (compareOp .Is)  Q st := is_none (fun _ e => nomatch e) h
theorem is_none_i {a : Int} (h : Q (.bool false) st) : W2 c VRep (.int a) .none (compareOp .Is)  Q st := is_none (fun _ e => nomatch e) h
theorem isNot_none_n (h : Q (.bool false) st) : W2 c VRep .none .none (compareOp .IsNot)  Q st := isNot_none (fun _ e => nomatch e) h
end
end Mine
end

end
section
open PySem PySem.W PyProof.Rows
set_option Elab.async false
set_option linter.unusedVariables false
set_option maxRecDepth 10000
namespace Mine
section
variable {c : Cx} {st : St} {μ : Locals} {σ : AHeap}
noncomputable def listIter0 (a : Addr) : Obj := { cls := .type "list_iterator", data := .fields #[.ref a, .int 0 0] }
theorem get_list_last {a : Addr} {l : List PV} {i : Int} {p : PV} {Q : PV → St → Prop} (hs : seqAt σ a = some l) (h0 : i < 0) (h1 : 0 ≤ i + l.length) (hx : l[(i + l.length).toNat]? = some p) (hz : l.length ≤ 16777216) (h : Q p (μ, σ)) : GetI c (.ref a) (.int i)  Q (μ, σ) :=
  fun v u hid stk s ok R hv hu => by
    simp only [VRep] at hv hu; subst hv
    obtain ⟨t, rfl⟩ := hu
    obtain ⟨vs, hL, hvs⟩ := R.seq hs
    have e1 := hvs.length
    obtain ⟨x, hx', hr⟩ := hvs.get _ _ hx
    exact ⟨⟨"list", _, hL.isList.typeIs, slot_list_getitem.lookup⟩, wpAny_getItem_list_neg hL.isList h0 (by simp; omega) (by omega) (by simpa [e1] using hx') ⟨p, (μ, σ), R, hr, .refl _, h⟩⟩
theorem pop_list {a : Addr} {l : List PV} {p : PV} {Q : PV → St → Prop} (hs : σ a = some (.list (l ++ [p]))) (hz : l.length ≤ 16000000) (h : Q p (μ, σ.set a (.list l))) : WN c VRep [.ref a] (fun vs => call (.builtin "list.pop") vs)  Q (μ, σ) := fun vs hid stk s ok R hv => by
  obtain ⟨v1, r1, rfl, h1, hv⟩ := hv.cons_inv
  rw [hv.nil_inv]
  simp only [VRep] at h1; subst h1
  obtain ⟨hb, ws, hL, hws⟩ := R.heap _ _ hs
  have hlen := hws.length
  simp at hlen
  obtain ⟨y, hy, hr⟩ := hws.get l.length p (by simp)
  obtain ⟨n, e⟩ := id hL
  refine call_meets F.slot_list_pop ⟨_, e, rfl⟩ F.entry_list_pop (F.args_list_pop_1 _) (MeetsSeq.list_pop_last a ws.toArray n y (by rw [show ws.toArray.size - 1 = l.length from by simp; omega]; simpa using hy) (by rw [sizeLine_eq]; simp; omega)) ⟨e, ?_⟩
  obtain ⟨R', k⟩ := R.listUpd (tk := s.toks) (l' := l) (ws := ws.take l.length) hs upd_other (hL.upd (f := fun xs => xs.eraseIdxIfInBounds (ws.toArray.size - 1)) (by
    have hw : ws = ws.take l.length ++ [y] := by
      have h2 : l.length < ws.length := by omega
      have h3 : ws[l.length] = y := by have := hy; rw [List.getElem?_eq_getElem h2] at this; exact Option.some.inj this
      rw [← h3]
      have := List.take_append_drop l.length ws
      rw [List.drop_eq_getElem_cons h2, List.drop_of_length_le (by omega)] at this
      exact this.symm
    have h2 : l.length < ws.toArray.size := by simp; omega
    have e3 : ws.toArray.size - 1 = l.length := by simp; omega
    rw [e3]
    unfold Array.eraseIdxIfInBounds
    rw [dif_pos h2]
    apply Array.toList_inj.mp
    rw [Array.toList_eraseIdx]
    show ws.eraseIdx l.length = ws.take l.length
    rw [List.eraseIdx_eq_take_drop_succ, List.drop_of_length_le (by omega), List.append_nil])) (by have := hws.take l.length; simpa using this)
  exact ⟨p, (μ, _), R', hr.mono k, k, h⟩
theorem VReps.erase {h : Heap} : ∀ {ps : List PV} {vs : List Value} (i : Nat), VReps h ps vs → VReps h (ps.eraseIdx i) (vs.eraseIdx i)
  | [], _, i, x => by rw [x.nil_inv]; simpa using VReps.nil
  | p :: ps, vs, i, x => by
    obtain ⟨v, r, rfl, h1, h2⟩ := x.cons_inv
    cases i with
    | zero => exact h2
    | succ i => exact .cons h1 (h2.erase i)
theorem erase_arr (ws : List Value) (i : Nat) (h : i < ws.length) : ws.toArray.eraseIdxIfInBounds i = (ws.eraseIdx i).toArray := by
  have h2 : i < ws.toArray.size := by simpa using h
  unfold Array.eraseIdxIfInBounds
  rw [dif_pos h2]
  apply Array.toList_inj.mp
  rw [Array.toList_eraseIdx]
theorem pop_at {a : Addr} {l : List PV} {i : Int} {p : PV} {Q : PV → St → Prop} (hs : σ a = some (.list l)) (h0 : 0 ≤ i) (hp : l[i.toNat]? = some p) (hz : l.length ≤ 16000000) (h : Q p (μ, σ.set a (.list (l.eraseIdx i.toNat)))) : WN c VRep [.ref a, .int i] (fun vs => call (.builtin "list.pop") vs)  Q (μ, σ) := fun vs hid stk s ok R hv => by
  obtain ⟨v1, r1, rfl, h1, hv⟩ := hv.cons_inv
  obtain ⟨v2, r2, rfl, h2, hv⟩ := hv.cons_inv
  rw [hv.nil_inv]
  simp only [VRep] at h1; subst h1
  obtain ⟨t, rfl⟩ := h2
  obtain ⟨hb, ws, hL, hws⟩ := R.heap _ _ hs
  have hlen := hws.length
  have hi := (List.getElem?_eq_some_iff.mp hp).1
  obtain ⟨y, hy, hr⟩ := hws.get _ _ hp
  obtain ⟨n, e⟩ := id hL
  refine call_meets F.slot_list_pop ⟨_, e, rfl⟩ F.entry_list_pop (F.args_list_pop_2 _ _) (MeetsSeq.list_pop_at a ws.toArray n i t i.toNat y (fitsIndex_of h0 (by omega)) (seqIndex_of h0 (by simp; omega)) (by simpa using hy) (by rw [sizeLine_eq]; simp; omega)) ⟨e, ?_⟩
  obtain ⟨R', k⟩ := R.listUpd (tk := s.toks) (l' := l.eraseIdx i.toNat) (ws := ws.eraseIdx i.toNat) hs upd_other (hL.upd (f := fun xs => xs.eraseIdxIfInBounds i.toNat) (erase_arr _ _ (by omega))) (hws.erase _)
  exact ⟨p, (μ, _), R', hr.mono k, k, h⟩
theorem S_DelSub {o i pos' pos} {Q : AFlow → St → Prop} (h : WE c o  (fun po st₁ => WE c i  (fun pi st₂ => W2 c UnitRep po pi (fun o i => delItem o i)  (fun _ st₃ => Q .next st₃) st₂) st₁) st) : WX c (.Delete [.Subscript o i pos'] pos)  Q st := fun hid stk s ok R => by
  refine wpAny_Delete (wpAny_deleteEach_cons (wpAny_delete_Subscript (wpAny_mono (h hid stk s ok R) (fun vo s₁ hp => ?_) fun _ _ y => y)))
  obtain ⟨po, st₁, R₁, hvo, k₁, h₁⟩ := hp
  refine wpAny_mono (h₁ hid stk s₁ ok R₁) (fun vi s₂ hq => ?_) fun _ _ y => y
  obtain ⟨pi, st₂, R₂, hvi, k₂, h₂⟩ := hq
  refine wpAny_mono (h₂ vo vi hid stk s₂ ok R₂ (hvo.mono k₂) hvi) (fun _ s₃ hr => ?_) fun _ _ y => y
  obtain ⟨_, st₃, R₃, _, k₃, q⟩ := hr
  exact wpAny_deleteEach_nil ⟨.next, st₃, R₃, rfl, (k₁.trans k₂).trans k₃, q⟩
noncomputable def orV (c : Cx) (l : List Expr) (pos : Pos) (p : PV) (Q : PV → St → Prop) (b : Bool) (st : St) : Prop := if b then Q p st else WE c (.BoolOp .Or l pos)  Q st
theorem orV_true {l pos p} {Q : PV → St → Prop} (h : Q p st) : orV c l pos p  Q true st := h
theorem orV_false {l pos p} {Q : PV → St → Prop} (h : WE c (.BoolOp .Or l pos)  Q st) : orV c l pos p  Q false st := h
theorem E_Or {e₁ e₂ rest pos} {Q : PV → St → Prop} (h : WE c e₁  (fun p st₁ => W1 c BoolRep p truthy  (orV c (e₂ :: rest) pos p  Q) st₁) st) : WE c (.BoolOp .Or (e₁ :: e₂ :: rest) pos)  Q st := fun hid stk s ok R =>
  BoolOp_or (wpAny_mono (h hid stk s ok R) (fun v s₁ ⟨p, st₁, R₁, hv, k₁, h₁⟩ => wpAny_mono (h₁ v hid stk s₁ ok R₁ hv) (fun b s₂ ⟨b', st₂, R₂, hb, k₂, h₂⟩ => by
    cases hb
    cases b
    · rw [if_neg (by decide)]
      exact wpAny_mono (h₂ hid stk s₂ ok R₂) (fun _ _ y => y.keeps (k₁.trans k₂)) fun _ _ y => y
    · rw [if_pos rfl]
      exact ⟨p, st₂, R₂, hv.mono k₂, k₁.trans k₂, h₂⟩) fun _ _ y => y) fun _ _ y => y)
theorem E_Or1 {e pos} {Q : PV → St → Prop} (h : WE c e  Q st) : WE c (.BoolOp .Or [e] pos)  Q st := fun hid stk s ok R => BoolOp_one (h hid stk s ok R)
theorem call_listRange {r : Addr} {a b : Int} {Q : PV → St → Prop} (hcalm : c.lv.calm = true) (h : σ r = some (.range a b 1)) (ha : -1000000 ≤ a) (ha' : a ≤ 1000000) (hb : -1000000 ≤ b) (hb' : b ≤ 1000000)
    (hQ : ∀ x, σ x = none → Q (.ref x) (μ, σ.set x (.list (rangeL a 1 (b - a).toNat)))) : WN c VRep [.ref r] (fun vs => call (.type "list") vs)  Q (μ, σ) := fun vs hid stk s ok R hv => by
  obtain ⟨v1, r1, rfl, h1, hv⟩ := hv.cons_inv
  rw [hv.nil_inv]
  simp only [VRep] at h1; subst h1
  obtain ⟨_, t, u, w, hr⟩ := R.heap _ _ h
  have hsz : Builtin.Range.rangeSize a b 1 = (((b - a).toNat : Nat) : Int) := by rw [rangeSize_one]; split <;> omega
  refine wpAny_mono (wpAny_toks (E := PostX) (Q := fun v s' => ∃ h' tk acc' c', v = .ref s.heap.objs.size ∧ s' = { s with heap := h', toks := tk } ∧ (∀ b o, s.heap.get? b = some o → h'.get? b = some o) ∧
      h'.get? s.heap.objs.size = some { cls := .type "list", dict := none, data := .seq acc' c', slots := #[] } ∧ ItemsOf (fun i v => ∃ t, v = .int (a + i * 1) t) acc' (b - a).toNat)
    (call_list_range (ok.handled hcalm) hr (small_one (by omega) (by omega) (by omega) (by omega)) hsz (by omega) fun h' tk acc' c' hk hS hI => ⟨h', tk, acc', c', rfl, rfl, hk, hS, hI⟩)) (fun v s' hx => ?_) fun _ _ x => x.1
  obtain ⟨⟨h', tk, acc, c', rfl, rfl, hk, hS, hI⟩, htk⟩ := hx
  have k : Keeps s.heap h' := fun b vs ⟨n, e⟩ => ⟨n, hk _ _ e⟩
  have hreps : VReps h' (rangeL a 1 (b - a).toNat) acc.toList := by
    obtain ⟨e1, e2⟩ := hI
    refine VReps.of_forall (by simpa using e1) fun i p v hp hv => ?_
    obtain ⟨hi, rfl⟩ := rangeL_get hp
    exact e2 i v (by simpa using hv)
  exact ⟨.ref s.heap.objs.size, (μ, σ.set s.heap.objs.size (.list (rangeL a 1 (b - a).toNat))), R.put (s' := { s with heap := h', toks := tk }) (fun b ob _ e => hk b ob e) (fun vs ⟨_, h1⟩ => absurd (Heap.lt_size h1) (Nat.lt_irrefl _)) R.fresh_base R.fresh_hid R.fresh_stk ⟨R.fresh_base, acc.toList, ⟨c', by simpa using hS⟩, hreps⟩ rfl rfl htk, rfl, k, hQ _ R.fresh_σ⟩
theorem E_MethList0 {o name apos pos id} {Q : PV → St → Prop} (slot : Slot "list" name id) (hty : typeOf (.builtin id) = pure (.type "method_descriptor"))
    (h : WE c o  (fun ov st₁ => (∃ a l, ov = .ref a ∧ seqAt st₁.2 a = some l) ∧ WN c VRep [ov] (fun vs => call (.builtin id) vs)  Q st₁) st)
    (hbase : attributeBase o name c.env (eval o c.env) = eval o c.env)
    (hline : (apos.endLine == pos.line) = true) : WE c (.Call (.Attribute o name apos) [] [] pos)  Q st := fun hid stk s ok R => by
  refine wpAny_Call_method hbase rfl hline F.plainAttrs_list slot hty (wpAny_mono (h hid stk s ok R) (fun v s₁ hp => ?_) fun _ _ y => y)
  obtain ⟨ov, st₁, R₁, hv, k₁, ⟨a, l, rfl, hs⟩, h₁⟩ := hp
  simp only [VRep] at hv; subst hv
  obtain ⟨vs, hL, _⟩ := R₁.seq hs
  refine ⟨hL.isList.typeIs, fun b hb => ?_, callWith_method0 ?_⟩
  · cases hb; obtain ⟨n, e⟩ := hL; exact ⟨_, e, rfl⟩
  · exact wpAny_mono (h₁ [.ref a] hid stk s₁ ok R₁ (.cons rfl .nil)) (fun _ _ y => y.keeps k₁) fun _ _ y => y
theorem cmp_ne {i j : Int} {Q : PV → St → Prop} (h : Q (.bool (i != j)) st) : W2 c VRep (.int i) (.int j) (compareOp .NotEq)  Q st := W2_cmp (fun q => PySem.P.ne_int q) h
theorem forQ_cont {I : Nat → St → Prop} {k} {Q : AFlow → St → Prop} {st₃ : St} (h : I k st₃) (hl : St.le st₃ st) : forQ I k Q .cont st := ⟨st₃, h, hl⟩
end
end Mine

end
section
open PySem PySem.W PyProof.Rows
set_option Elab.async false
set_option linter.unusedVariables false
set_option maxRecDepth 100000
namespace Mine
open PySem.Builtin Builtin.ObjectAttr Builtin.Getset_descriptor
/-! a dict whose keys are names, by its names and values -/
noncomputable def EsAre : List DictEntry → List (Str × Value) → Prop
  | [], l => l = []
  | e :: es, l => ∃ n v t r, l = (n, v) :: r ∧ e.key = .str n t ∧ e.val = v ∧ EsAre es r
noncomputable def putN (n : Str) (v : Value) : List (Str × Value) → List (Str × Value)
  | [] => [(n, v)]
  | (m, w) :: r => if m = n then (m, v) :: r else (m, w) :: putN n v r
noncomputable def DictAt (h : Heap) (a : Addr) (l : List (Str × Value)) : Prop := ∃ es n, h.get? a = some { cls := .type "dict", dict := none, data := .dict es n, slots := #[] } ∧ EsAre es.toList l

theorem EsAre.isStr {n m : Str} {t : Tok} : (Value.str m t).isStrByCps n.cps.size n.cps.toList = decide (m = n) := by
  rw [Value.isStrByCps_eq]
  show (m == n) = _
  by_cases h : m = n
  · simp [h]
  · simp [h]
theorem EsAre.find {n : Str} : ∀ {es l}, EsAre es l → ∀ b, nsNameIn n.cps.size n.cps.toList es b = match l.lookup n with
    | some v => (nsNameIn n.cps.size n.cps.toList es false |>.1, b)
    | none => (none, b)
  | [], l, h, b => by rw [show l = [] from h]; rfl
  | e :: es, l, ⟨m, v, t, r, h1, h2, h3, h4⟩, b => by
    subst h1
    unfold nsNameIn
    rw [h2, EsAre.isStr, List.lookup_cons]
    have hr : e.refKey = false := by unfold DictEntry.refKey; rw [h2]
    by_cases hm : m = n
    · subst hm; simp
    · have hb : (n == m) = false := beq_eq_false_iff_ne.mpr (Ne.symm hm)
      simp only [hm, decide_false, Bool.false_eq_true, if_false, hb, hr, Bool.or_false]
      rw [h4.find b]
theorem EsAre.val {n : Str} {v : Value} : ∀ {es l}, EsAre es l → l.lookup n = some v → ∃ e, (nsNameIn n.cps.size n.cps.toList es false).1 = some e ∧ e.val = v
  | [], l, h, e => by rw [show l = [] from h] at e; cases e
  | e :: es, l, ⟨m, w, t, r, h1, h2, h3, h4⟩, q => by
    subst h1
    unfold nsNameIn
    rw [h2, EsAre.isStr]
    rw [List.lookup_cons] at q
    have hr : e.refKey = false := by unfold DictEntry.refKey; rw [h2]
    by_cases hm : m = n
    · subst hm; simp at q; subst q; simp; exact h3
    · have hb : (n == m) = false := beq_eq_false_iff_ne.mpr (Ne.symm hm)
      simp only [hb] at q
      simp only [hm, decide_false, Bool.false_eq_true, if_false, hr, Bool.or_false]
      exact h4.val q
theorem EsAre.put {n : Str} {v : Value} {t : Tok} {hh : Int} {f : Option DictEntry → DictEntry} (f0 : f none = ⟨hh, .str n t, v⟩) (f1 : ∀ e, f (some e) = { e with val := v }) : ∀ {es l}, EsAre es l → EsAre (nsPutIn n.cps.size n.cps.toList f es).1 (putN n v l)
  | [], l, h => by rw [show l = [] from h]; exact ⟨n, v, t, [], rfl, by rw [f0], by rw [f0], rfl⟩
  | e :: es, l, ⟨m, w, t', r, h1, h2, h3, h4⟩ => by
    subst h1
    unfold nsPutIn putN
    rw [h2, EsAre.isStr]
    by_cases hm : m = n
    · simp only [hm, decide_true, if_true]; exact ⟨n, v, t', r, rfl, by rw [f1]; simp only; rw [h2, hm], by rw [f1], h4⟩
    · simp only [hm, decide_false, Bool.false_eq_true, if_false]
      exact ⟨m, w, t', _, rfl, h2, h3, EsAre.put f0 f1 h4⟩
theorem EsAre.length : ∀ {es l}, EsAre es l → es.length = l.length
  | [], l, h => by rw [show l = [] from h]; rfl
  | e :: es, l, ⟨m, w, t', r, h1, h2, h3, h4⟩ => by subst h1; simp [h4.length]

section
variable {M : Model} {A : Around} {E : Value → Shared → Prop} {s : Shared} {a : Addr} {l : List (Str × Value)} {name : Str} {v : Value}
theorem dn_set {Q : Unit → Shared → Prop} (hd : DictAt s.heap a l) (h : ∀ h', DictAt h' a (putN name v l) → Heap.SameBut a s.heap h' → Q () { s with heap := h', toks := s.toks + 1 }) : wpAny M A (nsSet a name v) Q E s := by
  obtain ⟨es, n, h1, h2⟩ := hd
  unfold nsSet strHash
  refine wpAny_bind (wpAny_bind (nd_ask (wpAny_pure (wpAny_pure (wpAny_bind (wpAny_mkText (wpAny_bind (wpAny_loadPart h1 ?_))))))))
  have hf : aRefKeyMayBeTheName name es = false := by
    unfold aRefKeyMayBeTheName
    rw [h2.find false]
    cases q : l.lookup name with
    | none => rfl
    | some v => obtain ⟨e, h1, h2⟩ := h2.val q; simp only [h1]
  simp only [hf, Bool.false_eq_true, if_false]
  refine wpAny_updatePart h1 (h _ ?_ (Heap.SameBut.update ..))
  obtain ⟨es', b, e⟩ : ∃ es' b, Obj.putName name (if name.cps.isEmpty = true then 0 else reduceHash (M.w.params.strHash name.cps)) (.str name s.toks) v { cls := .type "dict", dict := none, data := .dict es n, slots := #[] } = { cls := .type "dict", dict := none, data := .dict es' b, slots := #[] } ∧ EsAre es'.toList (putN name v l) := by
    have z := EsAre.put (n := name) (v := v) (t := s.toks) (hh := if name.cps.isEmpty = true then 0 else reduceHash (M.w.params.strHash name.cps)) (f := fun | some e => { e with val := v } | none => ⟨_, .str name s.toks, v⟩) rfl (fun _ => rfl) h2
    unfold Obj.putName
    simp only
    revert z
    generalize nsPutIn name.cps.size name.cps.toList _ es.toList = x
    intro z
    obtain ⟨x1, x2⟩ := x
    cases x2
    · exact ⟨_, _, rfl, z⟩
    · exact ⟨_, _, rfl, z⟩
  refine ⟨es', b, ?_, e.2⟩
  rw [Heap.get?_update_self _ h1 (by rw [e.1]; rfl), e.1]
end
section
variable {α β : Type} {M : Model} {A : Around} {Q : α → Shared → Prop} {E : Value → Shared → Prop} {s : Shared}
theorem w_ff {c : Prop} [Decidable c] {a b : Sem α} (hc : ¬ c) (h : wpAny M A b Q E s) : wpAny M A (if c then a else b) Q E s := by rw [if_neg hc]; exact h
theorem w_tt {c : Prop} [Decidable c] {a b : Sem α} (hc : c) (h : wpAny M A a Q E s) : wpAny M A (if c then a else b) Q E s := by rw [if_pos hc]; exact h
theorem w_eq {t : Sem α} {v : α} (e : t = pure v) (h : Q v s) : wpAny M A t Q E s := by rw [e]; exact wpAny_pure h
theorem w_setSlot {a : Addr} {i : Nat} {v : Option Value} {o : Obj} {Q : Unit → Shared → Prop} (ho : s.heap.get? a = some o) (hi : ¬ (i ≥ sizeLine)) (h : Q () { s with heap := s.heap.update a fun o => { o with slots := (o.slots ++ Array.replicate (i + 1 - o.slots.size) none).setIfInBounds i v } }) :
    wpAny M A (setSlotAt a i v) Q E s := by
  unfold setSlotAt
  exact w_ff hi (wpAny_updatePart ho h)
theorem w_typeOf {a : Addr} {o : Obj} {Q : Value → Shared → Prop} (ho : s.heap.get? a = some o) (h : Q o.cls s) : wpAny M A (typeOf (.ref a)) Q E s := wpAny_bind (wpAny_loadPart ho (wpAny_pure h))
end

section
variable {M : Model} {A : Around} {E : Value → Shared → Prop} {s : Shared}
end

theorem EsAre.findE {n : Str} {v : Value} {es : Array DictEntry} {l} (h : EsAre es.toList l) (e : l.lookup n = some v) : ∃ e, es.find? (·.key.isStr n) = some e ∧ e.val = v := by
  obtain ⟨x, h1, h2⟩ := h.val e
  exact ⟨x, by rw [← nsNameIn_fst]; exact h1, h2⟩
/-! things of instances -/
/-- the dict of an instance -/
noncomputable def attrsR (l : List (Str × PV)) : ORel where
  R h o := ∃ es n vs, o = { cls := .type "dict", dict := none, data := .dict es n, slots := #[] } ∧ EsAre es.toList ((l.map (·.1)).zip vs) ∧ VReps h (l.map (·.2)) vs
  mono := fun h h' o k x => by obtain ⟨es, n, vs, a, b, c⟩ := x; exact ⟨es, n, vs, a, b, c.mono k⟩
  nt := fun h o ⟨es, n, vs, a, _⟩ ws m e => by rw [a] at e; simp at e
  lab := .attrs l
/-- an instance of a class with slots -/
noncomputable def slotsR (C dx : Addr) (l : List PV) : ORel where
  R h o := ∃ vs, o = { cls := .ref C, dict := some dx, data := .plain, slots := (vs.map some).toArray } ∧ VReps h l vs
  mono := fun h h' o k x => by obtain ⟨vs, a, c⟩ := x; exact ⟨vs, a, c.mono k⟩
  nt := fun h o ⟨vs, a, _⟩ ws m e => by rw [a] at e; simp at e
  lab := .slots C l
theorem slots_inj {C C' dx dx' : Addr} {l l' : List PV} (h : some (AObj.own (slotsR C dx l)) = some (AObj.own (slotsR C' dx' l'))) : l = l' := by
  have e := congrArg ORel.lab (AObj.own.inj (Option.some.inj h))
  exact (Lab.slots.inj e).2
theorem zip_get {h : Heap} {name : Str} {p : PV} : ∀ {l : List (Str × PV)} {vs : List Value}, VReps h (l.map (·.2)) vs → l.lookup name = some p → ∃ v, ((l.map (·.1)).zip vs).lookup name = some v ∧ VRep h p v
  | [], _, _, e => by cases e
  | (x, q) :: r, vs, hv, e => by
    obtain ⟨v, ws, rfl, h1, h2⟩ := hv.cons_inv
    simp only [List.map_cons, List.zip_cons_cons, List.lookup_cons] at e ⊢
    cases hx : name == x with
    | true => rw [hx] at e; cases e; exact ⟨v, rfl, h1⟩
    | false => rw [hx] at e; exact zip_get h2 e
theorem zip_put {h : Heap} {name : Str} {p : PV} {v : Value} (hr : VRep h p v) : ∀ {l : List (Str × PV)} {vs : List Value}, VReps h (l.map (·.2)) vs →
    ∃ ws, putN name v ((l.map (·.1)).zip vs) = ((setL name p l).map (·.1)).zip ws ∧ VReps h ((setL name p l).map (·.2)) ws
  | [], vs, hv => by rw [hv.nil_inv]; exact ⟨[v], rfl, .cons hr .nil⟩
  | (x, q) :: r, vs, hv => by
    obtain ⟨u, ws, rfl, h1, h2⟩ := hv.cons_inv
    simp only [List.map_cons, List.zip_cons_cons, putN, setL]
    by_cases hx : x = name
    · rw [if_pos hx, if_pos hx.symm, hx]; exact ⟨v :: ws, rfl, .cons hr h2⟩
    · rw [if_neg hx, if_neg (Ne.symm hx)]
      obtain ⟨zs, e1, e2⟩ := zip_put hr h2
      exact ⟨u :: zs, by rw [e1]; rfl, .cons h1 e2⟩
theorem setL_len {x : Str} {p : PV} : ∀ (l : Locals), (setL x p l).length ≤ l.length + 1
  | [] => by simp [setL]
  | (y, q) :: r => by
    unfold setL
    split
    · simp
    · have := setL_len (x := x) (p := p) r
      simp; omega
theorem EsAre.lookIn {n : Str} {v : Value} {es : Array DictEntry} {l} (h : EsAre es.toList l) (e : l.lookup n = some v) {c d ep sl} : PySem.W.lookIn n ⟨c, d, .dict es ep, sl⟩ = some (some v) := by
  obtain ⟨en, h1, h2⟩ := h.findE e
  unfold PySem.W.lookIn
  simp only
  rw [← Array.find?_toList] at h1
  rw [h1]
  simp only [h2]
theorem EsAre.lookNo {n : Str} : ∀ {es : List DictEntry} {l}, EsAre es l → l.lookup n = none → es.find? (·.key.isStr n) = none ∧ es.any (·.refKey) = false
  | [], l, h, _ => ⟨rfl, rfl⟩
  | e :: es, l, ⟨m, w, t', r, h1, h2, h3, h4⟩, q => by
    subst h1
    rw [List.lookup_cons] at q
    have hr : e.refKey = false := by unfold DictEntry.refKey; rw [h2]
    cases hm : n == m with
    | true => rw [hm] at q; cases q
    | false =>
      rw [hm] at q
      obtain ⟨a, b⟩ := EsAre.lookNo h4 q
      have hk : e.key.isStr n = false := by
        rw [h2]
        show (m == n) = false
        rw [beq_eq_false_iff_ne] at hm ⊢
        exact Ne.symm hm
      exact ⟨by rw [List.find?_cons, hk]; exact a, by rw [List.any_cons, hr, b]; rfl⟩
theorem EsAre.lookIn_none {n : Str} {es : Array DictEntry} {l} (h : EsAre es.toList l) (e : l.lookup n = none) {c d ep sl} : PySem.W.lookIn n ⟨c, d, .dict es ep, sl⟩ = some none := by
  obtain ⟨h1, h2⟩ := h.lookNo e
  unfold PySem.W.lookIn
  simp only
  rw [h1, h2]
  rfl
theorem zip_none {name : Str} : ∀ {l : List (Str × PV)} {vs : List Value}, l.lookup name = none → ((l.map (·.1)).zip vs).lookup name = none
  | [], _, e => rfl
  | _ :: _, [], e => rfl
  | (x, q) :: r, v :: vs, e => by
    rw [List.lookup_cons] at e
    simp only [List.map_cons, List.zip_cons_cons, List.lookup_cons]
    cases hx : name == x with
    | true => rw [hx] at e; cases e
    | false => rw [hx] at e; exact zip_none e

noncomputable def notBi : PV → Bool
  | .bi _ => false
  | _ => true
theorem handed_of {h : Heap} {p : PV} {v : Value} (hp : notBi p = true) (hv : VRep h p v) : handedIn v = true := by
  cases p with
  | bi n => cases hp
  | none => cases hv; rfl
  | bool b => cases hv; rfl
  | int i => obtain ⟨t, rfl⟩ := hv; rfl
  | str x t => cases hv; rfl
  | ref a => cases hv; rfl
  | ty n => cases hv; rfl
  | tup l => simp only [VRep] at hv; obtain ⟨a, vs, rfl, _⟩ := hv; rfl
/-- what a class says of the names of its instances' dicts -/
noncomputable def ownName (K : Frag) (C : Addr) (name : Str) : Bool := plainGet K C name && hasDictIn K C && findIn K (.ref C) name == some none
noncomputable def setName (K : Frag) (C : Addr) (name : Str) : Bool := findIn K (.ref C) "__setattr__" == some (some (.builtin "object.__setattr__")) && plainOver K C && takerIn K C name == some none && hasDictIn K C
noncomputable def slotName (K : Frag) (C p : Addr) (name : Str) (i : Nat) : Bool := plainGet K C name && isClsIn K C && findIn K (.ref C) name == some (some (.ref p)) && specialIn K (.ref p) "__get__" == some (some (.builtin "member_descriptor.__get__")) && takesIn K (.ref p) == some true && slotIn K p C == some i
noncomputable def slotSet (K : Frag) (C p : Addr) (name : Str) (i : Nat) : Bool := findIn K (.ref C) "__setattr__" == some (some (.builtin "object.__setattr__")) && plainOver K C && takerIn K C name == some (some (.ref p)) && typeIn K (.ref p) == some (.type "member_descriptor") && slotIn K p C == some i && decide (i < 1000)
noncomputable def methName (K : Frag) (C f : Addr) (name : Str) : Bool := plainGet K C name && findIn K (.ref C) name == some (some (.ref f)) && typeIn K (.ref f) == some (.type "function")

section
variable {prog : Program} {w : World} {A : Around} {E : Value → Shared → Prop} {s : Shared} {K : Frag} {C x p : Addr} {R : Result → Shared → Prop}
/-- a slot stored -/
theorem slot_put {ox : Obj} {od : Option Obj} {v : Value} {i : Nat} (X : K.In s.heap) (I : InstAt s.heap x ox C od) (hp : slotIn K p C = some i) (hi : i < 1000)
    (h : R (.ok (.ret .none)) { s with heap := s.heap.update x fun o => { o with slots := (o.slots ++ Array.replicate (i + 1 - o.slots.size) none).setIfInBounds i (some v) } }) :
    codeAny (model prog w) A (.call (.builtin "member_descriptor.__set__") ⟨[.ref p, .ref x, v], []⟩) R s := by
  obtain ⟨n, tn, owner, behind, tb, d, sl, cd, ho, hc, hm, hb, rfl⟩ := slot_of X hp
  have cf : ∀ i v, (#[.str n tn, owner, .builtin "proto.slot", .builtin "proto.slot#set", .int behind tb] : Array Value)[i]? = some v → ∀ {A : Around} {E : Value → Shared → Prop} {Q : Value → Shared → Prop}, Q v s → wpAny (model prog w) A (field (.ref p) i) Q E s := fun i v e A E Q q => wpAny_field ho rfl e q
  refine codeAny_call_builtin KF.slot_mset.plain KF.entry_mset (KF.slot_mset.check _ _ _ _ _ _ _ _ ⟨_, ho, rfl⟩ (KF.args_mset _ _ _) ?_)
  unfold Builtin.«member_descriptor.__set__» descrSet
  refine w_ff (show ¬ (false = true) from Bool.false_ne_true) ?_
  unfold descrStoreThrough descrCheckInstance descrNameAndClass
  refine wpAny_bind (wpAny_bind (wpAny_bind (cf 0 _ rfl (wpAny_bind (cf 1 _ rfl (wpAny_pure ?_))))))
  refine wpAny_bind (wpAny_bind (I.type.here ((looks_mroIn X hm).here ?_)))
  refine w_ff (by decide) (wpAny_pure ?_)
  unfold descrItself fieldsOf
  refine wpAny_bind (wpAny_bind (wpAny_bind (wpAny_load ho (wpAny_pure (wpAny_pure ?_)))))
  refine wpAny_bind (cf 3 _ rfl (wpAny_bind (wpAny_rule ?_)))
  refine wpAny_pure ⟨Code.quiet_builtin _ (by decide +kernel), codeAny_builtin KF.entry_slotset ?_⟩
  unfold Builtin.«proto.slot#set» Slots.target
  refine wpAny_bind (wpAny_bind (cf 4 _ rfl (wpAny_bind (cf 0 _ rfl ?_))))
  refine wpAny_bind (I.type.here (wpAny_bind (wpAny_bind ((looks_clsIn X hc).here (wpAny_pure ?_)))))
  refine w_ff hb (wpAny_pure ?_)
  exact wpAny_bind (w_setSlot I.at_ (by rw [sizeLine_eq]; omega) (wpAny_pure h))
end

section
variable {c : Cx} {st : St} {μ : Locals} {σ : AHeap} {K : Frag} {C x dx p : Addr} {name : Str}
theorem Rep.inst {base os₀ hid stk} {s : Shared} {l : List (Str × PV)} (R : Rep base os₀ hid stk σ s) (hx : σ x = some (.raw (instObj C dx))) (hd : σ dx = some (.own (attrsR l))) :
    ∃ es n vs, InstAt s.heap x (instObj C dx) C (some { cls := .type "dict", dict := none, data := .dict es n, slots := #[] }) ∧ s.heap.get? dx = some { cls := .type "dict", dict := none, data := .dict es n, slots := #[] } ∧ EsAre es.toList ((l.map (·.1)).zip vs) ∧ VReps s.heap (l.map (·.2)) vs := by
  obtain ⟨_, hx', _⟩ := R.heap _ _ hx
  obtain ⟨_, o, hd', es, n, vs, rfl, h1, h2⟩ := R.heap _ _ hd
  exact ⟨es, n, vs, ⟨hx', rfl, rfl, hd'⟩, hd', h1, h2⟩
theorem get_attr {l : List (Str × PV)} {p : PV} {Q : PV → St → Prop} (hK : K.In c.base) (hc : ownName K C name = true) (hx : σ x = some (.raw (instObj C dx))) (hd : σ dx = some (.own (attrsR l))) (hl : l.lookup name = some p) (hp : notBi p = true)
    (h : Q p (μ, σ)) : W1 c VRep (.ref x) (fun v => getAttr v name true) Q (μ, σ) := fun v hid stk s ok R hv => by
  cases hv
  obtain ⟨es, n, vs, I, hd', h1, h2⟩ := R.inst hx hd
  obtain ⟨u, h3, h4⟩ := zip_get h2 hl
  simp only [ownName, Bool.and_eq_true, beq_iff_eq] at hc
  exact get_value (hK.keeps R.stays) I (plainGet_of hc.1.1).1 (findObj_own hc.1.2 hc.2 rfl (h1.lookIn h3)) (handed_of hp h4) ⟨p, (μ, σ), R.toks _, h4, .refl _, h⟩
theorem set_attr {l : List (Str × PV)} {p : PV} {Q : Unit → St → Prop} (hK : K.In c.base) (hc : setName K C name = true) (hx : σ x = some (.raw (instObj C dx))) (hd : σ dx = some (.own (attrsR l))) (hz : l.length ≤ 50)
    (h : Q () (μ, σ.set dx (.own (attrsR (setL name p l))))) : W2 c UnitRep (.ref x) p (fun o v => setAttr o name v) Q (μ, σ) := fun v u hid stk s ok R hv hu => by
  cases hv
  obtain ⟨es, n, vs, I, hd', h1, h2⟩ := R.inst hx hd
  simp only [setName, Bool.and_eq_true, beq_iff_eq] at hc
  obtain ⟨⟨⟨c1, c2⟩, c3⟩, c4⟩ := hc
  obtain ⟨cd, hcd, hdict⟩ := any_some c4
  have X := hK.keeps R.stays
  have hb := (R.heap _ _ hd).1
  refine set_plain X I c1 (osa_open (s := { s with toks := s.toks + 1 }) X I c2 c3 fun b => ?_)
  refine wpAny_bind (wpAny_pure (wpAny_bind (wpAny_bind (wpAny_loadPart (s := { s with toks := s.toks + 1 }) I.at_ (wpAny_bind (Looks.here (s := { s with toks := s.toks + 1 }) (looks_clsIn X hcd) ?_))))))
  rw [hdict]
  refine wpAny_pure (a := some dx) (wpAny_bind (wpAny_pure (wpAny_bind ?_)))
  refine dn_set (s := { s with toks := s.toks + 1 }) ⟨es, n, hd', h1⟩ fun h' hD hs => ?_
  obtain ⟨es', n', hd2, h3⟩ := hD
  obtain ⟨ws, e1, e2⟩ := zip_put (name := name) hu h2
  rw [e1] at h3
  have hlen : es'.size ≤ 60 := by
    have a := h3.length
    rw [Array.length_toList, List.length_zip, List.length_map, e2.length, List.length_map] at a
    have b := setL_len (x := name) (p := p) l
    omega
  refine wpAny_bind (wpAny_lookBehind hd2 (pastItsLine_dict (by rw [sizeLine_eq]; omega)) ?_)
  have hnt : ∀ vs, ¬ TU s.heap dx vs := fun vs ⟨n, e⟩ => by rw [hd'] at e; simp at e
  have k : Keeps s.heap h' := fun b vs ⟨n, h1⟩ => ⟨n, (hs.2 b (fun e => hnt vs ⟨n, e ▸ h1⟩)).trans h1⟩
  refine wpAny_pure ⟨(), _, R.put (s' := { s with heap := h', toks := s.toks + 1 + 1 }) (o := .own (attrsR (setL name p l))) (fun b ob hne e => (hs.2 b hne).trans e) hnt hb (R.hid_ne hd) (R.stk_ne hd) ⟨hb, _, hd2, _, _, ws, rfl, h3, e2.mono k⟩ rfl rfl (Nat.le_add_right _ 2), trivial, k, h⟩
theorem Rep.instS {base os₀ hid stk} {s : Shared} {l : List PV} (R : Rep base os₀ hid stk σ s) (hx : σ x = some (.own (slotsR C dx l))) (hd : σ dx = some (.raw emptyDict)) :
    ∃ vs, InstAt s.heap x { cls := .ref C, dict := some dx, data := .plain, slots := (vs.map some).toArray } C (some emptyDict) ∧ VReps s.heap l vs := by
  obtain ⟨_, o, hx', vs, rfl, h2⟩ := R.heap _ _ hx
  obtain ⟨_, hd', _⟩ := R.heap _ _ hd
  exact ⟨vs, ⟨hx', rfl, rfl, hd'⟩, h2⟩
theorem get_slotP {l : List PV} {i : Nat} {q : PV} {Q : PV → St → Prop} (hK : K.In c.base) (hc : slotName K C p name i = true) (hx : σ x = some (.own (slotsR C dx l))) (hd : σ dx = some (.raw emptyDict)) (hl : l[i]? = some q) (hp : notBi q = true)
    (h : Q q (μ, σ)) : W1 c VRep (.ref x) (fun v => getAttr v name true) Q (μ, σ) := fun v hid stk s ok R hv => by
  cases hv
  obtain ⟨vs, I, h1⟩ := R.instS hx hd
  obtain ⟨u, h3, h4⟩ := h1.get _ _ hl
  simp only [slotName, Bool.and_eq_true, beq_iff_eq] at hc
  obtain ⟨⟨⟨⟨⟨c1, c2⟩, c3⟩, c4⟩, c5⟩, c6⟩ := hc
  have X := hK.keeps R.stays
  exact get_bind X I (plainGet_of c1).1 (findObj_data c2 c3 c4 c5) (plainGet_of c1).2 (wpAny_call (slot_get (s := { s with toks := s.toks + 1 }) X I c6 (by simp [h3]) (PySem.W.handed_on (handed_of hp h4) ⟨q, (μ, σ), R.toks _, h4, .refl _, h⟩)))
theorem slots_put {vs : List Value} {i : Nat} {v : Value} (hi : i ≤ vs.length) : ((vs.map some).toArray ++ Array.replicate (i + 1 - (vs.map some).toArray.size) none).setIfInBounds i (some v) = ((vs.take i ++ v :: vs.drop (i + 1)).map some).toArray := by
  apply Array.toList_inj.mp
  rw [Array.toList_setIfInBounds, Array.toList_append, Array.toList_replicate]
  simp only [List.size_toArray, List.length_map]
  rcases Nat.lt_or_eq_of_le hi with hlt | rfl
  · rw [show i + 1 - vs.length = 0 by omega, List.replicate_zero, List.append_nil]
    rw [List.set_eq_take_append_cons_drop, if_pos (by simpa using hlt)]
    simp [List.map_take, List.map_drop]
  · rw [show vs.length + 1 - vs.length = 1 by omega]
    simp [List.set_append]
theorem set_slotP {l : List PV} {i : Nat} {q : PV} {Q : Unit → St → Prop} (hK : K.In c.base) (hc : slotSet K C p name i = true) (hx : σ x = some (.own (slotsR C dx l))) (hd : σ dx = some (.raw emptyDict)) (hi : i ≤ l.length)
    (h : Q () (μ, σ.set x (.own (slotsR C dx (l.take i ++ q :: l.drop (i + 1)))))) : W2 c UnitRep (.ref x) q (fun o v => setAttr o name v) Q (μ, σ) := fun v u hid stk s ok R hv hu => by
  cases hv
  obtain ⟨vs, I, h1⟩ := R.instS hx hd
  have hb := (R.heap _ _ hx).1
  simp only [slotSet, Bool.and_eq_true, beq_iff_eq, decide_eq_true_eq] at hc
  obtain ⟨⟨⟨⟨⟨c1, c2⟩, c3⟩, c4⟩, c5⟩, c6⟩ := hc
  have X := hK.keeps R.stays
  refine set_plain X I c1 (osa_descr (s := { s with toks := s.toks + 1 }) KF.slot_mset X I c2 c3 c4 (slot_put (s := { s with toks := s.toks + 1 }) X I c5 c6 ?_))
  have hx' := I.at_
  have hs : Heap.SameBut x s.heap (s.heap.update x fun o => { o with slots := (o.slots ++ Array.replicate (i + 1 - o.slots.size) none).setIfInBounds i (some u) }) := Heap.SameBut.update ..
  have hnew := Heap.get?_update_self (fun o => { o with slots := (o.slots ++ Array.replicate (i + 1 - o.slots.size) none).setIfInBounds i (some u) }) hx' rfl
  simp only [slots_put (v := u) (show i ≤ vs.length by rw [h1.length]; exact hi)] at hnew
  have hnt : ∀ vs, ¬ TU s.heap x vs := fun vs ⟨n, e⟩ => by rw [hx'] at e; simp at e
  generalize s.heap.update x _ = h' at hs hnew ⊢
  have k : Keeps s.heap h' := fun b vs ⟨n, h1⟩ => ⟨n, (hs.2 b (fun e => hnt vs ⟨n, e ▸ h1⟩)).trans h1⟩
  exact ⟨(), _, R.put (s' := { s with heap := h', toks := s.toks + 1 }) (o := .own (slotsR C dx (l.take i ++ q :: l.drop (i + 1)))) (fun b ob hne e => (hs.2 b hne).trans e) hnt hb (R.hid_ne hx) (R.stk_ne hx) ⟨hb, _, hnew, _, rfl, ((h1.take i).append (.cons hu (h1.drop (i + 1)))).mono k⟩ rfl rfl (Nat.le_succ _), trivial, k, h⟩
end
end Mine

end
section
open PySem PySem.W PyProof.Rows
set_option Elab.async false
set_option linter.unusedVariables false
set_option maxRecDepth 100000
namespace Mine
section
variable {G : Gx} {c : Cx} {st : St} {μ : Locals} {σ : AHeap}
noncomputable def IsTIt (a : Addr) (k : Nat) (o : Obj) : Prop := o.cls = .type "tuple_iterator" ∧ o.data = .fields #[.ref a, .int k 0]
theorem iter_tuple (target : Expr) (it a : Addr) (vs : List Value) (l : List PV) : IterAt G target it (fun k hs => ∃ o, hs = [(it, o)] ∧ IsTIt a k o) (fun h => TU h a vs ∧ VReps h l vs) (fun _ => True) l where
  mono := fun _ _ k x => ⟨k _ _ x.1, x.2.mono k⟩
  next := fun k p hp A hid stk σ s hs E Q hh hsk hK hσ R hQ => by
    obtain ⟨o, rfl, hc, hd⟩ := hsk
    obtain ⟨hL, hvs⟩ := hK
    obtain ⟨v, hv, hr⟩ := hvs.get _ _ hp
    have ho := (R.hid (it, o) (List.mem_cons_self ..)).1
    refine wpAny_pyNext_tuple_item ⟨_, ho, hc, hd⟩ hL.isTuple (by simpa using hv) fun h' hit' hs' => ?_
    obtain ⟨o', ho', hc', hd'⟩ := hit'
    obtain ⟨R', kp⟩ := R.hidChange (hs' := [(it, o')]) (tk := s.toks) (h' := h') rfl (fun q hq => by simp at hq; subst hq; exact ⟨ho', by rw [hc']; decide⟩) (fun b ob hb e => (hs'.2 b (by simpa using hb)).trans e) (fun q hq => by simp at hq; subst hq; show o.cls ≠ _; rw [hc]; decide)
    exact hQ v _ (fun Q' E' A' hq => letOwned_other ho' (fun n e => by rw [hc'] at e; cases e; rfl) (hq _ _ ⟨o', rfl, hc', by simpa using hd'⟩ R' (.refl _))) (hr.mono kp) kp
  stop := fun A hid stk σ s hs E Q hh hsk hK hσ R hQ => by
    obtain ⟨o, rfl, hc, hd⟩ := hsk
    obtain ⟨hL, hvs⟩ := hK
    have ho := (R.hid (it, o) (List.mem_cons_self ..)).1
    refine wpAny_pyNext_tuple_end hh ⟨_, ho, hc, hd⟩ hL.isTuple (by simp [hvs.length]) fun h' he => ?_
    obtain ⟨R', k⟩ := R.hidForget (tk := s.toks) (h' := h') (fun b o hb e => he b o (by simpa using hb) e) (fun q hq => by simp at hq; subst hq; show o.cls ≠ _; rw [hc]; decide)
    exact hQ _ R' k
  self := fun k A hid stk σ s hs E Q hsk R hQ => by
    obtain ⟨o, rfl, hc, hd⟩ := hsk
    have ho := (R.hid (it, o) (List.mem_cons_self ..)).1
    exact wpAny_pyIter_tupleiter ⟨_, ho, hc, hd⟩ hQ
theorem it_tuple {target : Expr} {l : List PV} : ItOk c target (.tup l) (μ, σ) l (fun _ => True) := fun v hid stk s E Q ok R hv hQ => by
  simp only [VRep] at hv
  obtain ⟨a, vs, rfl, hT, hvs⟩ := hv
  refine wpAny_pyIter_tuple hT.isTuple (hQ _ _ _ [(s.heap.objs.size, { cls := .type "tuple_iterator", data := .fields #[.ref a, .int 0 0] })] _ (iter_tuple target s.heap.objs.size a vs l) ⟨_, rfl, rfl, rfl⟩ ⟨Keeps.push _ _ _ _ hT, hvs.mono (Keeps.push _ _)⟩ ?_ (Keeps.push _ _))
  exact R.hidNew (by show Value.type "tuple_iterator" ≠ Value.type "tuple"; decide) rfl
end
section
variable {G : Gx}
/-! dicts and sets of ints -/
theorem pairs_tr {prog prog' : Program} {w w' : World} {es : List DictEntry} {kvs : List (Int × Value)} (h : Pairs (intKind prog w) es kvs) : Pairs (intKind prog' w') es kvs := by
  induction h with
  | nil => exact .nil
  | cons a b _ ih => exact .cons a b ih
noncomputable def IDict (o : Obj) (kvs : List (Int × Value)) (ep : Nat) : Prop := o.cls = .type "dict" ∧ ∀ (prog : Program) (w : World), ∃ es, o.ExactDict ∧ o.data = .dict es ep ∧ KeysOf (intKind prog w) es ∧ Pairs (intKind prog w) es.toList kvs ∧ (kvs.map (·.1)).Nodup
theorem IDict.at {o : Obj} {kvs ep} (x : IDict o kvs ep) {h : Heap} {a : Addr} (ho : h.get? a = some o) (prog : Program) (w : World) : h.DictAt (intKind prog w) a kvs ep := let ⟨es, r⟩ := x.2 prog w; ⟨o, es, ho, r⟩
theorem IDict.of {h : Heap} {a : Addr} {kvs} {prog : Program} {w : World} (x : h.DictOf (intKind prog w) a kvs) : ∃ o ep, h.get? a = some o ∧ IDict o kvs ep := by
  obtain ⟨o, es, ep, h1, h2, h3, h4, h5, h6⟩ := x
  exact ⟨o, ep, h1, h2.1, fun p' w' => ⟨es, h2, h3, h4, pairs_tr h5, h6⟩⟩
/-- a dict of ints; ep: how often its keys have changed -/
noncomputable def idictR (l : List (Int × PV)) (ep : Nat) : ORel where
  R h o := ∃ vs, IDict o ((l.map (·.1)).zip vs) ep ∧ VReps h (l.map (·.2)) vs
  mono := fun h h' o k x => by obtain ⟨vs, a, b⟩ := x; exact ⟨vs, a, b.mono k⟩
  nt := fun h o ⟨vs, a, _⟩ ws m e => by have := a.1; rw [e] at this; simp at this
  lab := .idict l
noncomputable def isetR (l : List Int) : ORel where
  R h o := o.cls = .type "set" ∧ o.IntSetOf (fun k => decide (k ∈ l)) l.length
  mono := fun h h' o k x => x
  nt := fun h o x ws m e => by have := x.1; rw [e] at this; simp at this
  lab := .iset l
theorem zipI_get {h : Heap} {k : Int} {p : PV} : ∀ {l : List (Int × PV)} {vs : List Value}, VReps h (l.map (·.2)) vs → l.lookup k = some p → ∃ v, valueAt ((l.map (·.1)).zip vs) k = some v ∧ VRep h p v
  | [], _, _, e => by cases e
  | (x, q) :: r, vs, hv, e => by
    obtain ⟨v, ws, rfl, h1, h2⟩ := hv.cons_inv
    simp only [List.map_cons, List.zip_cons_cons, List.lookup_cons] at e ⊢
    unfold valueAt
    rw [List.find?_cons]
    by_cases hx : k = x
    · subst hx
      simp only [beq_self_eq_true] at e
      cases e
      exact ⟨v, by simp, h1⟩
    · have hb : (k == x) = false := beq_eq_false_iff_ne.mpr hx
      simp only [hb] at e
      have hd : decide (x = k) = false := by simp [Ne.symm hx]
      simp only [hd]
      exact zipI_get h2 e
theorem zipI_none {h : Heap} {k : Int} : ∀ {l : List (Int × PV)} {vs : List Value}, l.lookup k = none → valueAt ((l.map (·.1)).zip vs) k = none
  | [], _, _ => rfl
  | _ :: _, [], _ => rfl
  | (x, q) :: r, v :: vs, e => by
    rw [List.lookup_cons] at e
    simp only [List.map_cons, List.zip_cons_cons]
    unfold valueAt
    rw [List.find?_cons]
    by_cases hx : k = x
    · subst hx; simp at e
    · have hb : (k == x) = false := beq_eq_false_iff_ne.mpr hx
      simp only [hb] at e
      have hd : decide (x = k) = false := by simp [Ne.symm hx]
      simp only [hd]
      exact zipI_none (h := h) e
theorem lookup_none_iff {k : Int} : ∀ {l : List (Int × PV)}, l.lookup k = none ↔ k ∉ l.map (·.1)
  | [] => by simp
  | (x, q) :: r => by
    rw [List.lookup_cons]
    by_cases hx : k = x
    · subst hx; simp
    · have hb : (k == x) = false := beq_eq_false_iff_ne.mpr hx
      simp only [hb]
      rw [lookup_none_iff]
      simp [hx]
theorem stored_new {kvs : List (Int × Value)} {k : Int} {v : Value} (h : k ∉ kvs.map (·.1)) : stored kvs k v = kvs ++ [(k, v)] := by
  unfold stored
  rw [if_neg]
  simp only [List.any_eq_true, decide_eq_true_eq, not_exists, not_and]
  intro x hx e
  exact h (e ▸ List.mem_map_of_mem hx)
theorem zip_snoc {α β : Type} {ks : List α} {vs : List β} {k : α} {v : β} (h : ks.length = vs.length) : (ks ++ [k]).zip (vs ++ [v]) = ks.zip vs ++ [(k, v)] := by rw [List.zip_append h]; rfl
theorem zip_fst {α β : Type} {ks : List α} {vs : List β} (h : ks.length = vs.length) : (ks.zip vs).map (·.1) = ks := List.map_fst_zip (by omega)
theorem without_last {kvs : List (Int × Value)} {k : Int} {v : Value} (h : k ∉ kvs.map (·.1)) : without (kvs ++ [(k, v)]) k = kvs := by
  unfold without
  rw [List.filter_append]
  have h1 : kvs.filter (fun kv => decide (kv.1 ≠ k)) = kvs := List.filter_eq_self.mpr fun x hx => by
    simp only [decide_eq_true_eq]; intro e; exact h (e ▸ List.mem_map_of_mem hx)
  rw [h1]; simp

section
variable {c : Cx} {st : St} {μ : Locals} {σ : AHeap} {d : Addr} {l : List (Int × PV)} {ep : Nat}
theorem Rep.idict {base os₀ hid stk} {s : Shared} (R : Rep base os₀ hid stk σ s) (hd : σ d = some (.own (idictR l ep))) :
    ∃ o vs, s.heap.get? d = some o ∧ IDict o ((l.map (·.1)).zip vs) ep ∧ VReps s.heap (l.map (·.2)) vs ∧ base.get? d = none := by
  obtain ⟨hb, o, h1, vs, h2, h3⟩ := R.heap _ _ hd
  exact ⟨o, vs, h1, h2, h3, hb⟩
theorem idict_nt {h : Heap} {o : Obj} {kvs} (h1 : h.get? d = some o) (h2 : IDict o kvs ep) : ∀ vs, ¬ TU h d vs := fun vs ⟨n, e⟩ => by
  rw [h1] at e; cases e; have := h2.1; simp at this
theorem Keeps.same {h h' : Heap} {a : Addr} (hnt : ∀ vs, ¬ TU h a vs) (hs : Heap.SameBut a h h') : Keeps h h' := fun b vs ⟨n, h1⟩ => ⟨n, (hs.2 b (fun e => hnt vs ⟨n, e ▸ h1⟩)).trans h1⟩
/-- a fresh place is none of the first three -/
theorem Rep.fresh_big {os₀ hid stk} {s : Shared} (hG : Gd c.toGx) (R : Rep c.base os₀ hid stk σ s) : (s.heap.objs.size == sysModules) = false := by
  obtain ⟨o, es, ep, h1, _⟩ := hG.g
  have := Heap.lt_size (R.stays _ _ h1)
  have e : mainGlobals = 3 := by decide
  have e2 : sysModules = 1 := by decide
  rw [e] at this
  rw [e2]
  apply beq_eq_false_iff_ne.mpr
  intro q
  rw [q] at this
  exact absurd this (by decide)
theorem E_Dict0 {pos} {Q : PV → St → Prop} (hG : Gd c.toGx) (h : ∀ d ep, st.2 d = none → (d == sysModules) = false → Q (.ref d) (st.1, st.2.set d (.own (idictR [] ep)))) : WE c (.Dict [] [] pos) Q st := fun hid stk s ok R => by
  refine wpAny_Dict_empty ?_
  have hI : IDict { cls := .type "dict", data := .dict #[] } ([] : List (Int × Value)) 0 := ⟨rfl, fun p w => ⟨#[], ⟨rfl, rfl, rfl⟩, rfl, fun e he => by simp at he, .nil, List.nodup_nil⟩⟩
  have hn : ORep c.base (s.heap.push { cls := .type "dict", data := .dict #[] }) s.heap.objs.size (.own (idictR [] 0)) := ⟨R.fresh_base, _, Heap.get?_push_size _ rfl, [], hI, .nil⟩
  exact ⟨.ref s.heap.objs.size, (st.1, _), R.alloc hn, by simp only [VRep], Keeps.push _ _, h _ 0 R.fresh_σ (R.fresh_big hG)⟩
theorem get_dict {k : Int} {p : PV} {Q : PV → St → Prop} (hd : σ d = some (.own (idictR l ep))) (hl : l.lookup k = some p) (h : Q p (μ, σ)) : GetI c (.ref d) (.int k) Q (μ, σ) := fun v u hid stk s ok R hv hu => by
  cases hv
  obtain ⟨t, rfl⟩ := hu
  obtain ⟨o, vs, h1, h2, h3, _⟩ := R.idict hd
  obtain ⟨x, h4, h5⟩ := zipI_get h3 hl
  have hm := (h2.at h1 c.prog c.w).dictOf.mapOf
  exact ⟨⟨"dict", _, hm.typeIs, slot_dict_getitem.lookup⟩, wpAny_getItem_of (intKind_is c.prog c.w k t) hm h4 ⟨p, (μ, σ), R.toks _, h5, .refl _, h⟩⟩
theorem set_dict {k : Int} {p : PV} {Q : Unit → St → Prop} (hd : σ d = some (.own (idictR l ep))) (hl : l.lookup k = none) (hz : l.length ≤ 10000) (h : ∀ ep', Q () (μ, σ.set d (.own (idictR (l ++ [(k, p)]) ep')))) :
    W3 c UnitRep (.ref d) (.int k) p (fun o i v => setItem o i v) Q (μ, σ) := fun v u w hid stk s ok R hv hu hw => by
  cases hv
  obtain ⟨t, rfl⟩ := hu
  obtain ⟨o, vs, h1, h2, h3, hb⟩ := R.idict hd
  have hlen : (l.map (·.1)).length = vs.length := by rw [h3.length]; simp
  have hDO := (h2.at h1 c.prog c.w).dictOf
  refine wpAny_setItem_pairs (knd := intKind c.prog c.w) (intKind_is c.prog c.w k t) hDO (fun h' hD hs => ?_) (by simp only [List.length_zip, List.length_map, sizeLine_eq]; omega)
  rw [stored_new (by rw [zip_fst hlen]; exact lookup_none_iff.mp hl)] at hD
  obtain ⟨o', ep', h4, h5⟩ := IDict.of hD
  have hnt := idict_nt h1 h2
  have k' : Keeps s.heap h' := .same hnt hs
  refine ⟨(), _, R.put (s' := { s with heap := h', toks := s.toks + 1 }) (o := .own (idictR (l ++ [(k, p)]) ep')) (fun b ob hne e => (hs.2 b hne).trans e) hnt hb (R.hid_ne hd) (R.stk_ne hd) ⟨hb, o', h4, vs ++ [w], ?_, ?_⟩ rfl rfl (Nat.le_succ _), trivial, k', h ep'⟩
  · rw [List.map_append, List.map_cons, List.map_nil, zip_snoc hlen]; exact h5
  · rw [List.map_append]; exact (h3.mono k').append (.cons (hw.mono k') .nil)
theorem del_dict {k : Int} {p : PV} {Q : Unit → St → Prop} (hd : σ d = some (.own (idictR (l ++ [(k, p)]) ep))) (hl : l.lookup k = none) (hz : l.length ≤ 10000) (h : ∀ ep', Q () (μ, σ.set d (.own (idictR l ep')))) :
    W2 c UnitRep (.ref d) (.int k) (fun o i => delItem o i) Q (μ, σ) := fun v u hid stk s ok R hv hu => by
  cases hv
  obtain ⟨t, rfl⟩ := hu
  obtain ⟨o, vs, h1, h2, h3, hb⟩ := R.idict hd
  rw [List.map_append] at h2 h3
  have hDO := (h2.at h1 c.prog c.w).dictOf
  obtain ⟨us, v, rfl, hu1, hu2⟩ : ∃ us v, vs = us ++ [v] ∧ VReps s.heap (l.map (·.2)) us ∧ VRep s.heap p v := by
    have e := h3.length
    simp only [List.length_append, List.length_map, List.length_cons, List.length_nil] at e
    have a := h3.take l.length
    have b := h3.drop l.length
    rw [List.take_left' (by simp)] at a
    rw [List.drop_left' (by simp)] at b
    obtain ⟨v, r, e1, e2, e3⟩ := b.cons_inv
    rw [e3.nil_inv] at e1
    exact ⟨_, v, by rw [← e1, List.take_append_drop], a, e2⟩
  have hlen : (l.map (·.1)).length = us.length := by rw [hu1.length]; simp
  have hk := lookup_none_iff.mp hl
  have hnot : k ∉ ((l.map (·.1)).zip us).map (·.1) := by rw [zip_fst hlen]; exact hk
  simp only [List.map_cons, List.map_nil] at hDO h2
  rw [zip_snoc hlen] at hDO h2
  refine wpAny_delItem_slot (T := "dict") (id := "dict.__delitem__") hDO.typeIs (by decide) F.slot_dict_delitem ?_
  refine call_meetsIn F.slot_dict_delitem hDO.typeIs F.entry_dict_delitem (F.args_dict_delitem_2 _ _) (meets_dict_delitem_pairs (intKind c.prog c.w) d (intKind_is c.prog c.w k t)) ⟨_, hDO, ?_, ?_, fun h' hD hs => ?_⟩
  · simp only [List.length_append, List.length_zip, List.length_map, List.length_cons, List.length_nil, sizeLine_eq]; omega
  · unfold valueAt
    rw [List.find?_append, List.find?_cons]
    simp
  · rw [without_last hnot] at hD
    obtain ⟨o', ep', h4, h5⟩ := IDict.of hD
    have hnt := idict_nt h1 h2
    have k' : Keeps s.heap h' := .same hnt hs
    exact ⟨(), _, R.put (s' := { s with heap := h', toks := s.toks + 1 }) (o := .own (idictR l ep')) (fun b ob hne e => (hs.2 b hne).trans e) hnt hb (R.hid_ne hd) (R.stk_ne hd) ⟨hb, o', h4, us, h5, hu1.mono k'⟩ rfl rfl (Nat.le_succ _), trivial, k', h ep'⟩
theorem in_dict {k : Int} {Q : PV → St → Prop} (hd : σ d = some (.own (idictR l ep))) (hs : (d == sysModules) = false) (h : Q (.bool (l.lookup k).isSome) (μ, σ)) : W2 c VRep (.int k) (.ref d) (compareOp .In) Q (μ, σ) := fun v u hid stk s ok R hv hu => by
  cases hu
  obtain ⟨t, rfl⟩ := hv
  obtain ⟨o, vs, h1, h2, h3, hb⟩ := R.idict hd
  have hm := (h2.at h1 c.prog c.w).dictOf.mapOf
  refine wpAny_in_of (intKind_is c.prog c.w k t) hs hm ⟨.bool (l.lookup k).isSome, (μ, σ), R.toks _, ?_, .refl _, h⟩
  simp only [VRep]
  cases q : l.lookup k with
  | none => rw [zipI_none (h := s.heap) q]; rfl
  | some p => obtain ⟨x, h4, _⟩ := zipI_get h3 q; rw [h4]; rfl
theorem dict_get {k : Int} {Q : PV → St → Prop} (hd : σ d = some (.own (idictR l ep))) (hs : (d == sysModules) = false) (h : Q ((l.lookup k).getD .none) (μ, σ)) : WN c VRep [.ref d, .int k] (fun vs => call (.builtin "dict.get") vs) Q (μ, σ) := fun vs hid stk s ok R hv => by
  obtain ⟨v1, r1, rfl, h1, hv⟩ := hv.cons_inv
  obtain ⟨v2, r2, rfl, h2, hv⟩ := hv.cons_inv
  rw [hv.nil_inv]
  cases h1
  obtain ⟨t, rfl⟩ := h2
  obtain ⟨o, vs, h1, h2, h3, hb⟩ := R.idict hd
  have hm := (h2.at h1 c.prog c.w).dictOf.mapOf
  refine call_meetsIn F.slot_dict_get hm.typeIs F.entry_dict_get (F.args_dict_get_2 _ _) (meets_dict_get (intKind c.prog c.w) d (intKind_is c.prog c.w k t) hs) ⟨_, hm, ?_⟩
  cases q : l.lookup k with
  | none =>
    rw [zipI_none (h := s.heap) q]
    rw [q] at h
    exact ⟨.none, (μ, σ), R.toks _, by simp only [VRep]; rfl, .refl _, h⟩
  | some p =>
    obtain ⟨x, h4, h5⟩ := zipI_get h3 q
    rw [h4]
    rw [q] at h
    exact ⟨p, (μ, σ), R.toks _, h5, .refl _, h⟩

/-! sets of ints -/
theorem Rep.iset {base os₀ hid stk} {s : Shared} {l : List Int} (R : Rep base os₀ hid stk σ s) (hd : σ d = some (.own (isetR l))) : ∃ o, s.heap.get? d = some o ∧ o.IntSetOf (fun k => decide (k ∈ l)) l.length ∧ base.get? d = none ∧ o.cls = .type "set" := by
  obtain ⟨hb, o, h1, hc, h2⟩ := R.heap _ _ hd
  exact ⟨o, h1, h2, hb, hc⟩
theorem call_set0 {Q : PV → St → Prop} (h : ∀ d, σ d = none → Q (.ref d) (μ, σ.set d (.own (isetR [])))) : WN c VRep [] (fun vs => call (.type "set") vs) Q (μ, σ) := fun vs hid stk s ok R hv => by
  rw [hv.nil_inv]
  refine call_set_0 fun led => ?_
  have hI := intSetOf_fresh led
  have hn : ORep c.base (s.heap.push { cls := .type "set", dict := none, data := .set #[] 0 (.fresh 0 0 led) }) s.heap.objs.size (.own (isetR [])) := ⟨R.fresh_base, _, Heap.get?_push_size _ rfl, rfl, fun p w => by have := hI p w; simpa using this⟩
  exact ⟨.ref s.heap.objs.size, (μ, _), R.alloc hn, by simp only [VRep], Keeps.push _ _, h _ R.fresh_σ⟩
theorem in_set {k : Int} {l : List Int} {Q : PV → St → Prop} (hd : σ d = some (.own (isetR l))) (hz : l.length ≤ 1000) (h : Q (.bool (decide (k ∈ l))) (μ, σ)) : W2 c VRep (.int k) (.ref d) (compareOp .In) Q (μ, σ) := fun v u hid stk s ok R hv hu => by
  cases hu
  obtain ⟨t, rfl⟩ := hv
  obtain ⟨o, h1, h2, hb, hcl⟩ := R.iset hd
  exact wpAny_inSet_of (intKind_is c.prog c.w k t) rfl ((h2 c.prog c.w).setOf h1 (Nat.lt_of_le_of_lt hz (by decide))) ⟨.bool (decide (k ∈ l)), (μ, σ), R.toks _, by simp only [VRep], .refl _, h⟩
theorem set_add {k : Int} {l : List Int} {Q : PV → St → Prop} (hd : σ d = some (.own (isetR l))) (hk : k ∉ l) (hz : l.length ≤ 1000) (h : Q .none (μ, σ.set d (.own (isetR (l ++ [k]))))) : WN c VRep [.ref d, .int k] (fun vs => call (.builtin "set.add") vs) Q (μ, σ) := fun vs hid stk s ok R hv => by
  obtain ⟨v1, r1, rfl, h1, hv⟩ := hv.cons_inv
  obtain ⟨v2, r2, rfl, h2, hv⟩ := hv.cons_inv
  rw [hv.nil_inv]
  cases h1
  obtain ⟨t, rfl⟩ := h2
  obtain ⟨o, h1, h2, hb, hcl⟩ := R.iset hd
  refine call_set_add (intKind_is c.prog c.w k t) rfl ((h2 c.prog c.w).setOf h1 (Nat.lt_of_le_of_lt hz (by decide))) (Nat.lt_of_le_of_lt (Nat.succ_le_succ hz) (by decide)) fun h' hs hS => ?_
  obtain ⟨o', h3, h4⟩ := hS.objOf
  have hnt : ∀ vs, ¬ TU s.heap d vs := fun vs ⟨n, e⟩ => by rw [h1] at e; cases e; simp at hcl
  have k' : Keeps s.heap h' := .same hnt hs
  refine ⟨.none, _, R.put (s' := { s with heap := h', toks := s.toks + 1 }) (o := .own (isetR (l ++ [k]))) (fun b ob hne e => (hs.2 b hne).trans e) hnt hb (R.hid_ne hd) (R.stk_ne hd) ⟨hb, o', h3, h4.1.1, ?_⟩ rfl rfl (Nat.le_succ _), by simp only [VRep], k', h⟩
  have e1 : (fun k' => decide (k' ∈ l) || decide (k' = k)) = fun k' => decide (k' ∈ l ++ [k]) := by funext k'; simp
  have e2 : (if decide (k ∈ l) = true then l.length else l.length + 1) = (l ++ [k]).length := by rw [if_neg (by simpa using hk)]; simp
  rw [e1, e2] at h4
  exact h4.intSetOf

/-! turns over a dict -/
noncomputable def keyIt (it d : Addr) (n ep k : Nat) (o : Obj) : Prop := ∀ h : Heap, h.get? it = some o → h.IsKeyIter it d k n ep
theorem iter_keys (target : Expr) (it d : Addr) (l : List (Int × PV)) (ep : Nat) : IterAt G target it (fun k hs => ∃ o, hs = [(it, o)] ∧ o.cls = .type "dict_keyiterator" ∧ keyIt it d l.length ep k o) (fun _ => True) (fun σ => σ d = some (.own (idictR l ep))) (intL (l.map (·.1))) where
  mono := fun _ _ _ _ => trivial
  next := fun k p hp A hid stk σ s hs E Q hh hsk _ hσ R hQ => by
    obtain ⟨o, rfl, hc, hd⟩ := hsk
    have ho := (R.hid (it, o) (List.mem_cons_self ..)).1
    obtain ⟨od, vs, h1, h2, h3, hb⟩ := R.idict hσ
    have hlen : (l.map (·.1)).length = vs.length := by rw [h3.length]; simp
    have hzl : ((l.map (·.1)).zip vs).length = l.length := by rw [List.length_zip, ← hlen]; simp
    obtain ⟨z, hz, rfl⟩ : ∃ z, (l.map (·.1))[k]? = some z ∧ p = .int z := by
      unfold intL at hp
      rw [List.getElem?_map] at hp
      cases q : (l.map (·.1))[k]? with
      | none => rw [q] at hp; cases hp
      | some z => rw [q] at hp; exact ⟨z, rfl, (Option.some.inj hp).symm⟩
    have hkl : k < vs.length := by rw [← hlen]; exact (List.getElem?_eq_some_iff.mp hz).1
    have hx : ((l.map (·.1)).zip vs)[k]? = some (z, vs[k]) := by rw [List.getElem?_zip_eq_some]; exact ⟨hz, List.getElem?_eq_getElem hkl⟩
    have hit := hd s.heap ho
    rw [← hzl] at hit
    refine wpAny_pyNext_dict_item (knd := intKind G.prog G.w) hit (h2.at h1 G.prog G.w) hx fun key h' hkey hit' hs' => ?_
    rw [hzl] at hit'
    obtain ⟨o', ho', hc', hd'⟩ := id hit'
    obtain ⟨t, rfl⟩ := Value.isInt_shape hkey
    obtain ⟨R', kp⟩ := R.hidChange (hs' := [(it, o')]) (tk := s.toks) (h' := h') rfl (fun q hq => by simp at hq; subst hq; exact ⟨ho', by rw [hc']; decide⟩) (fun b ob hb e => (hs'.2 b (by simpa using hb)).trans e) (fun q hq => by simp at hq; subst hq; show o.cls ≠ _; rw [hc]; decide)
    exact hQ _ _ (fun Q' E' A' hq => letOwned_other ho' (fun n e => by rw [hc'] at e; cases e; rfl) (hq _ _ ⟨o', rfl, hc', fun h e => ⟨o', e, hc', hd'⟩⟩ R' (.refl _))) ⟨t, rfl⟩ kp
  stop := fun A hid stk σ s hs E Q hh hsk _ hσ R hQ => by
    obtain ⟨o, rfl, hc, hd⟩ := hsk
    have ho := (R.hid (it, o) (List.mem_cons_self ..)).1
    obtain ⟨od, vs, h1, h2, h3, hb⟩ := R.idict hσ
    have hlen : (l.map (·.1)).length = vs.length := by rw [h3.length]; simp
    have hzl : ((l.map (·.1)).zip vs).length = l.length := by rw [List.length_zip, ← hlen]; simp
    have hit := hd s.heap ho
    rw [← hzl] at hit
    refine wpAny_pyNext_dict_end (knd := intKind G.prog G.w) hh hit (h2.at h1 G.prog G.w) (List.getElem?_eq_none (by rw [hzl]; simp [intL])) fun h' he => ?_
    obtain ⟨R', k⟩ := R.hidForget (tk := s.toks) (h' := h') (fun b o hb e => he b o (by simpa using hb) e) (fun q hq => by simp at hq; subst hq; show o.cls ≠ _; rw [hc]; decide)
    exact hQ _ R' k
  self := fun k A hid stk σ s hs E Q hsk R hQ => by
    obtain ⟨o, rfl, hc, hd⟩ := hsk
    have ho := (R.hid (it, o) (List.mem_cons_self ..)).1
    exact wpAny_pyIter_keyiter (hd _ ho) hQ
theorem it_keys {target : Expr} (hd : σ d = some (.own (idictR l ep))) (hs : (d == sysModules) = false) : ItOk c target (.ref d) (μ, σ) (intL (l.map (·.1))) (fun σ => σ d = some (.own (idictR l ep))) := fun v hid stk s E Q ok R hv hQ => by
  cases hv
  obtain ⟨od, vs, h1, h2, h3, hb⟩ := R.idict hd
  have hlen : (l.map (·.1)).length = vs.length := by rw [h3.length]; simp
  have hzl : ((l.map (·.1)).zip vs).length = l.length := by rw [List.length_zip, ← hlen]; simp
  refine wpAny_pyIter_dict (knd := intKind c.prog c.w) hs (h2.at h1 c.prog c.w) ?_
  rw [hzl]
  exact hQ _ _ _ [(s.heap.objs.size, { cls := .type "dict_keyiterator", data := .fields #[.ref d, .int 0 0, .int l.length 0, .int ep 0] })] _ (iter_keys target s.heap.objs.size d l ep) ⟨_, rfl, rfl, fun h e => ⟨_, e, rfl, rfl⟩⟩ trivial (R.hidNew (by show Value.type "dict_keyiterator" ≠ Value.type "tuple"; decide) rfl) (Keeps.push _ _)
end
end
end Mine

end
section
open PySem PySem.W PyProof.Rows
set_option Elab.async false
set_option linter.unusedVariables false
set_option maxRecDepth 100000
namespace Mine
open PySem.Builtin Builtin.ObjectAttr
section
variable {calm : Bool} {n : Nat} {c : Cx} {st : St} {μ : Locals} {σ : AHeap} {K : Frag} {C : Addr}
theorem S_AssignAttr {o attr pos' value pos} {Q : AFlow → St → Prop} (h : WE c value  (fun p st₁ => WE c o  (fun po st₂ => W2 c UnitRep po p (fun ov v => setAttr ov attr v)  (fun _ st₃ => Q .next st₃) st₂) st₁) st)
    (hs : swapsWith value (some (.Attribute o attr pos')) pos.line c.env = pure false) : WX c (.Assign [.Attribute o attr pos'] value pos)  Q st := fun hid stk s ok R =>
  plainObj_wpAny_Assign_Attribute (wpAny_mono (h hid stk s ok R) (fun v s₁ ⟨p, st₁, R₁, hv, k₁, h₁⟩ =>
    wpAny_mono (h₁ hid stk s₁ ok R₁) (fun u s₂ ⟨po, st₂, R₂, hu, k₂, h₂⟩ =>
      wpAny_mono (h₂ u v hid stk s₂ ok R₂ hu (hv.mono k₂)) (fun _ _ ⟨_, st₃, R₃, _, k₃, q⟩ => ⟨.next, st₃, R₃, rfl, (k₁.trans k₂).trans k₃, q⟩) fun _ _ y => y) fun _ _ y => y) fun _ _ y => y) hs
theorem E_AttrName {n attr : Str} {np pos : Pos} {Q : PV → St → Prop} (h : WE c (.Name n np)  (fun p st₁ => W1 c VRep p (fun v => getAttr v attr true)  Q st₁) st) : WE c (.Attribute (.Name n np) attr pos)  Q st := fun hid stk s ok R =>
  Attribute_name (wpAny_mono (h hid stk s ok R) (fun v s₁ ⟨p, st₁, R₁, hv, k₁, h₁⟩ => wpAny_mono (h₁ v hid stk s₁ ok R₁ hv) (fun _ _ y => y.keeps k₁) fun _ _ y => y) fun _ _ y => y)
noncomputable def compL (f : Nat → Option PV) (k : Nat) : List PV := (List.range k).filterMap f
theorem compL_len (f : Nat → Option PV) (k : Nat) : (compL f k).length ≤ k := by
  have := List.length_filterMap_le f (List.range k); rw [List.length_range] at this; exact this
theorem compL_some {f : Nat → Option PV} {k : Nat} {q : PV} (h : f k = some q) : compL f (k + 1) = compL f k ++ [q] := by
  unfold compL; rw [List.range_succ, List.filterMap_append]; simp [h]
theorem compL_none {f : Nat → Option PV} {k : Nat} (h : f k = none) : compL f (k + 1) = compL f k := by
  unfold compL; rw [List.range_succ, List.filterMap_append]; simp [h]
theorem compL_map {α : Type} (l : List α) (g : α → PV) : compL (fun k => l[k]?.map g) l.length = l.map g := by
  apply List.ext_getElem?
  intro i
  have : ∀ n, n ≤ l.length → compL (fun k => l[k]?.map g) n = (l.take n).map g := by
    intro n
    induction n with
    | zero => intro _; rfl
    | succ n ih =>
      intro h
      rw [compL_some (q := g (l[n]'(by omega))) (by rw [List.getElem?_eq_getElem (by omega)]; rfl), ih (by omega), List.take_succ, List.map_append, List.getElem?_eq_getElem (by omega : n < l.length)]
      rfl
  rw [this _ (Nat.le_refl _), List.take_length]
theorem W1_mono' {α β : Type} {rep : Heap → β → α → Prop} {p : PV} {t : Value → Sem α} {Q Q' : β → St → Prop} (h : W1 c rep p t  Q st) (hQ : ∀ x st, Q x st → Q' x st) : W1 c rep p t  Q' st := fun v hid stk s ok R hv =>
  wpAny_mono (h v hid stk s ok R hv) (fun _ _ ⟨x, st', R', hx, k, q⟩ => ⟨x, st', R', hx, k, hQ _ _ q⟩) fun _ _ x => x
theorem comp_pure {scope : Scope} {cl : List (Str × Addr)} {elt target : Expr} {ifs : List Expr} {items : List PV} {P : AHeap → Prop} {Q : Addr → AHeap → Prop} (f : Nat → Option PV) (hz : items.length ≤ 1000000) (hP : ∀ τ, σ.Sub τ → P τ)
    (turn : ∀ c' : Cx, c'.toGx = c.toGx → c'.lv = c.lv → c'.env.scope = relabel scope c.env → c'.env.cells = cl → ∀ k p τ, items[k]? = some p → σ.Sub τ →
      WAsg c' target p (fun st₁ => WIfs c' ifs (fun b st₂ => (b = true → WE c' elt (fun q st₃ => f k = some q ∧ τ.Sub st₃.2) st₂) ∧ (b = false → f k = none ∧ τ.Sub st₂.2)) st₁) ([], τ))
    (fin : ∀ a τ, σ.Sub τ → σ a = none → τ a = some (.list (compL f items.length)) → Q a τ) : CompOk c scope cl elt target ifs items P  μ σ Q := by
  refine ⟨fun c' a h1 h2 h3 h4 h5 => ⟨fun k st => ∃ τ, st = ([], τ) ∧ σ.Sub τ ∧ τ a = some (.list (compL f k)), ⟨_, rfl, AHeap.sub_set _ h5, at_set_same⟩, ?_, ?_, ?_⟩⟩
  · rintro k _ ⟨τ, rfl, s1, _⟩; exact hP τ s1
  · rintro k p _ hp ⟨τ, rfl, s1, s2⟩
    have hk : k < items.length := (List.getElem?_eq_some_iff.mp hp).1
    have := compL_len f k
    refine W1_mono' (turn c' h1 h2 h3 h4 k p τ hp s1) fun _ st₁ y => WT.mono y (fun b st₂ ⟨y1, y2⟩ => ⟨fun hb => ?_, fun hb => ?_⟩) fun _ _ x => x
    · refine WT.mono (y1 hb) (fun q st₃ ⟨e, s3⟩ => ?_) fun _ _ x => x
      exact ⟨_, s3 _ _ s2, by omega, _, ⟨_, rfl, (s1.trans s3).off h5, by rw [at_set_same, compL_some e]⟩, ⟨(fun _ _ e => by cases e), .refl _⟩⟩
    · obtain ⟨e, s3⟩ := y2 hb
      exact ⟨_, ⟨_, rfl, s1.trans s3, by rw [compL_none e]; exact s3 _ _ s2⟩, ⟨(fun _ _ e => by cases e), .refl _⟩⟩
  · rintro _ ⟨τ, rfl, s1, s2⟩
    exact fin a τ s1 h5 s2
theorem un_neg {i : Int} {Q : PV → St → Prop} (h : Q (.int (-i)) st) : W1 c VRep (.int i) (unaryOp .USub)  Q st := fun v hid stk s ok R hv => by
  obtain ⟨t, rfl⟩ := hv
  exact PySem.P.neg_int ⟨.int (-i), st, R.toks _, ⟨_, rfl⟩, .refl _, h⟩
theorem call_min2 {a b : Int} {Q : PV → St → Prop} (hcalm : c.lv.calm = true) (h : Q (.int (if b < a then b else a)) (μ, σ)) : WN c VRep [.int a, .int b] (fun vs => call (.builtin "min") vs)  Q (μ, σ) := fun vs hid stk s ok R hv => by
  obtain ⟨v1, r1, rfl, h1, hv⟩ := hv.cons_inv
  obtain ⟨v2, r2, rfl, h2, hv⟩ := hv.cons_inv
  rw [hv.nil_inv]
  obtain ⟨t, rfl⟩ := h1
  obtain ⟨u, rfl⟩ := h2
  refine wpAny_mono (wpAny_toks (E := PostX) (Q := fun v s' => ∃ h' tk, v = (if b < a then Value.int b u else .int a t) ∧ s' = { s with heap := h', toks := tk } ∧ ∀ b o, s.heap.get? b = some o → h'.get? b = some o) (min_two_ints (ok.handled hcalm) fun h' tk hk => ⟨h', tk, rfl, rfl, hk⟩)) (fun v s' hx => ?_) fun _ _ x => x.1
  obtain ⟨⟨h', tk, rfl, rfl, hk⟩, htk⟩ := hx
  refine ⟨.int (if b < a then b else a), (μ, σ), R.grow (s' := { s with heap := h', toks := tk }) hk rfl rfl htk, ?_, fun b vs ⟨n, e⟩ => ⟨n, hk _ _ e⟩, h⟩
  split <;> exact ⟨_, rfl⟩
theorem AOk.create {lv : Lv} {A : Around} {frs : List Env} {ls : List Addr} (ok : AOk ⟨n + 1, calm⟩ A frs ls) {C : Addr} {rest : List Value} : AOk ⟨n, calm⟩ (A.under (.builtin "type.__call__" ⟨.ref C :: rest, []⟩)) frs ls := by
  have hw : (Code.builtin "type.__call__" ⟨.ref C :: rest, []⟩).weight = 1 := rfl
  have hu : (Code.builtin "type.__call__" ⟨.ref C :: rest, []⟩).cUnits = 1 := rfl
  refine ⟨?_, ok.frs, fun hc => ok.calm hc, ?_, ?_⟩
  · unfold Around.under
    dsimp only
    rw [ok.frames]; rfl
  · show A.depth + _ + n ≤ 900
    rw [hw]; have := ok.depth; simp only at this; omega
  · show A.units + _ + 20 * n ≤ 9000
    rw [hu]; have := ok.units; simp only at this; omega
theorem E_AttrAny {value : Expr} {attr : Str} {pos : Pos} {Q : PV → St → Prop} (h : WE c value (fun p st₁ => W1 c VRep p (fun v => getAttr v attr true) Q st₁) st)
    (he : eval (.Attribute value attr pos) c.env = (do
      let o ← eval value c.env
      standAt pos.atName
      let r ← holding [o] (getAttr o attr true)
      letTemporaryGo value o r
      pure r)) : WE c (.Attribute value attr pos) Q st := fun hid stk s ok R =>
  Attribute_any_ (wpAny_mono (h hid stk s ok R) (fun v s₁ ⟨p, st₁, R₁, hv, k₁, h₁⟩ => wpAny_mono (h₁ v hid stk s₁ ok R₁ hv) (fun _ _ y => y.keeps k₁) fun _ _ y => y) fun _ _ y => y) he
theorem S_AugAttr {o value : Expr} {attr : Str} {tpos pos : Pos} {op : Operator} {Q : AFlow → St → Prop}
    (h : WE c o (fun po st₁ => W1 c VRep po (fun v => getAttr v attr true) (fun p st₂ => WE c value (fun q st₃ => W2 c VRep p q (inplaceOp op) (fun r st₄ => W2 c UnitRep po r (fun ov v => setAttr ov attr v) (fun _ st₅ => Q .next st₅) st₄) st₃) st₂) st₁) st) :
    WX c (.AugAssign (.Attribute o attr tpos) op value pos) Q st := fun hid stk s ok R =>
  wpAny_AugAssign_AttributeAny (wpAny_mono (h hid stk s ok R) (fun vo s₁ ⟨po, st₁, R₁, hvo, k₁, h₁⟩ =>
    wpAny_mono (h₁ vo hid stk s₁ ok R₁ hvo) (fun v s₂ ⟨p, st₂, R₂, hv, k₂, h₂⟩ =>
      wpAny_mono (h₂ hid stk s₂ ok R₂) (fun u s₃ ⟨q, st₃, R₃, hu, k₃, h₃⟩ =>
        wpAny_mono (h₃ v u hid stk s₃ ok R₃ (hv.mono k₃) hu) (fun w s₄ ⟨r, st₄, R₄, hw, k₄, h₄⟩ =>
          wpAny_mono (h₄ vo w hid stk s₄ ok R₄ (hvo.mono (k₂.trans (k₃.trans k₄))) hw) (fun _ s₅ ⟨_, st₅, R₅, _, k₅, q⟩ => ⟨.next, st₅, R₅, rfl, (k₁.trans k₂).trans (k₃.trans (k₄.trans k₅)), q⟩) fun _ _ y => y) fun _ _ y => y) fun _ _ y => y) fun _ _ y => y) fun _ _ y => y)
theorem E_Named {t value : Expr} {pos : Pos} {Q : PV → St → Prop} (h : WE c value (fun p st₁ => WAsg c t p (fun st₂ => Q p st₂) st₁) st) : WE c (.NamedExpr t value pos) Q st := fun hid stk s ok R =>
  wpAny_NamedExpr (wpAny_mono (h hid stk s ok R) (fun v s₁ ⟨p, st₁, R₁, hv, k₁, h₁⟩ => wpAny_mono (h₁ v hid stk s₁ ok R₁ hv) (fun _ _ ⟨_, st₂, R₂, _, k₂, q⟩ => ⟨p, st₂, R₂, hv.mono k₂, k₁.trans k₂, q⟩) fun _ _ y => y) fun _ _ y => y)
theorem S_AssignTwo {t₁ t₂ value : Expr} {pos : Pos} {Q : AFlow → St → Prop} (h : WE c value (fun p st₁ => WAsg c t₁ p (fun st₂ => WAsg c t₂ p (fun st₃ => Q .next st₃) st₂) st₁) st)
    (he : (assignEach [t₁, t₂] c.env).map (·.2) = [assign t₁ c.env, assign t₂ c.env]) (hw : swappedStores [t₁, t₂] value c.env = pure none) : WX c (.Assign [t₁, t₂] value pos) Q st := fun hid stk s ok R =>
  wpAny_Assign_two (wpAny_mono (h hid stk s ok R) (fun v s₁ ⟨p, st₁, R₁, hv, k₁, h₁⟩ => wpAny_mono (h₁ v hid stk s₁ ok R₁ hv) (fun _ s₂ ⟨_, st₂, R₂, _, k₂, h₂⟩ =>
    wpAny_mono (h₂ v hid stk s₂ ok R₂ (hv.mono k₂)) (fun _ _ ⟨_, st₃, R₃, _, k₃, q⟩ => ⟨.next, st₃, R₃, rfl, (k₁.trans k₂).trans k₃, q⟩) fun _ _ y => y) fun _ _ y => y) fun _ _ y => y) he hw
theorem inp_add {i j : Int} {Q : PV → St → Prop} (h : Q (.int (i + j)) st) : W2 c VRep (.int i) (.int j) (inplaceOp .Add) Q st := fun v u hid stk s ok R hv hu => by
  obtain ⟨t, rfl⟩ := hv; obtain ⟨t', rfl⟩ := hu
  exact PySem.P.iadd_int ⟨.int (i + j), st, R.toks _, ⟨_, rfl⟩, .refl _, h⟩
theorem inp_sub {i j : Int} {Q : PV → St → Prop} (h : Q (.int (i - j)) st) : W2 c VRep (.int i) (.int j) (inplaceOp .Sub) Q st := fun v u hid stk s ok R hv hu => by
  obtain ⟨t, rfl⟩ := hv; obtain ⟨t', rfl⟩ := hu
  exact PySem.P.isub_int ⟨.int (i - j), st, R.toks _, ⟨_, rfl⟩, .refl _, h⟩

/-! methods of instances -/
noncomputable def InstOf (σ : AHeap) (C : Addr) (name : Str) (p : PV) : Prop := ∃ x dx l, p = .ref x ∧ σ x = some (.raw (instObj C dx)) ∧ σ dx = some (.own (attrsR l)) ∧ l.lookup name = none
theorem wp_method {prog : Program} {w : World} {A : Around} {E : Value → Shared → Prop} {base os₀ hid stk} {s : Shared} {f : Addr} {name : Str} {p : PV} {v : Value} {pl : Sem Bool} {Q : Value × List Value → Shared → Prop} (hK : K.In base) (hm : methName K C f name = true) (R : Rep base os₀ hid stk σ s)
    (hi : InstOf σ C name p) (hv : VRep s.heap p v) (h : Q (.ref f, [v]) s) : wpAny (model prog w) A (getMethod v name pl) Q E s := by
  obtain ⟨x, dx, l, rfl, hx, hd, hl⟩ := hi
  cases hv
  obtain ⟨es, n, vs, I, _, h1, h2⟩ := R.inst hx hd
  simp only [methName, Bool.and_eq_true, beq_iff_eq] at hm
  refine method_fn (hK.keeps R.stays) I (plainGet_of hm.1.1).1 (plainGet_of hm.1.1).2 hm.1.2 hm.2 ?_ h
  unfold shadowIn
  simp only
  rw [h1.lookIn_none (zip_none hl)]
  rfl
theorem E_MethI {f : Addr} {o e : Expr} {rest : List Expr} {name : Str} {apos pos : Pos} {pl : Sem Bool} {Q : PV → St → Prop} (hK : K.In c.base) (hm : methName K C f name = true) (hk : keepIn K (.ref f) = true)
    (h : WE c o (fun ov st₁ => InstOf st₁.2 C name ov ∧ WA c pos (e :: rest) (fun ps st₂ => WN c VRep (ov :: ps) (fun vs => call (.ref f) vs) Q st₂) st₁) st)
    (hev : eval (.Call (.Attribute o name apos) (e :: rest) [] pos) c.env = (do
      let ov ← eval o c.env
      standAt apos.atName
      let (f, first) ← holding [ov] (getMethod ov name pl)
      callWith pos f first (backTo pos (starEach (e :: rest) c.env)) (backToKw pos (keywordEach [] c.env))))
    (he : starEach (e :: rest) c.env = (false, eval e c.env) :: starEach rest c.env) (hplain : (backTo pos (starEach rest c.env)).any (·.1) = false) : WE c (.Call (.Attribute o name apos) (e :: rest) [] pos) Q st := fun hid stk s ok R => by
  refine methodCall_KW (pl := pl) (wpAny_mono (h hid stk s ok R) (fun v s₁ hp => ?_) fun _ _ y => y) hev
  obtain ⟨ov, st₁, R₁, hv, k₁, hi, h₁⟩ := hp
  refine wp_method hK hm R₁ hi hv ?_
  refine callWith_K (hK.keeps R₁.stays) hk (wpAny_mono (h₁ hid stk s₁ ok R₁) (fun vs s₂ hq => ?_) fun _ _ y => y) he hplain
  obtain ⟨ps, st₂, R₂, hvs, k₂, q⟩ := hq
  exact ⟨hK.keeps R₂.stays, wpAny_mono (q (v :: vs) hid stk s₂ ok R₂ (.cons (hv.mono k₂) hvs)) (fun _ _ y => y.keeps (k₁.trans k₂)) fun _ _ y => y⟩
theorem E_MethI0 {f : Addr} {o : Expr} {name : Str} {apos pos : Pos} {pl : Sem Bool} {Q : PV → St → Prop} (hK : K.In c.base) (hm : methName K C f name = true) (hk : keepIn K (.ref f) = true)
    (h : WE c o (fun ov st₁ => InstOf st₁.2 C name ov ∧ WN c VRep [ov] (fun vs => call (.ref f) vs) Q st₁) st)
    (hev : eval (.Call (.Attribute o name apos) [] [] pos) c.env = (do
      let ov ← eval o c.env
      standAt apos.atName
      let (f, first) ← holding [ov] (getMethod ov name pl)
      callWith pos f first (backTo pos (starEach [] c.env)) (backToKw pos (keywordEach [] c.env)))) : WE c (.Call (.Attribute o name apos) [] [] pos) Q st := fun hid stk s ok R => by
  refine methodCall_KW (pl := pl) (wpAny_mono (h hid stk s ok R) (fun v s₁ hp => ?_) fun _ _ y => y) hev
  obtain ⟨ov, st₁, R₁, hv, k₁, hi, h₁⟩ := hp
  refine wp_method hK hm R₁ hi hv ?_
  exact callWith_K0 (hK.keeps R₁.stays) hk (wpAny_mono (h₁ [v] hid stk s₁ ok R₁ (.cons hv .nil)) (fun _ _ y => y.keeps k₁) fun _ _ y => y)
/-- a class of the text, called -/
theorem E_CallC {x : Str} {pos' : Pos} {e : Expr} {rest : List Expr} {pos : Pos} {Q : PV → St → Prop} (hG : Gd c.toGx) (hl : c.env.scope.names.lookup x = some .globalImplicit) (hv : c.mg x = some (.ref C)) (hK : K.In c.base) (hk : keepIn K (.ref C) = true)
    (h : WA c pos (e :: rest) (fun ps st₂ => WN c VRep ps (fun vs => call (.ref C) vs) Q st₂) st) (hd : (x == ("__debug__" : Str)) = false)
    (hev : eval (.Call (.Name x pos') (e :: rest) [] pos) c.env = (do callWith pos (← eval (.Name x pos') c.env) [] (backTo pos (starEach (e :: rest) c.env)) (backToKw pos (keywordEach [] c.env))))
    (he : starEach (e :: rest) c.env = (false, eval e c.env) :: starEach rest c.env) (hplain : (backTo pos (starEach rest c.env)).any (·.1) = false) : WE c (.Call (.Name x pos') (e :: rest) [] pos) Q st := fun hid stk s ok R => by
  rw [hev]
  refine wpAny_bind (wpAny_mono (E_global (Q := fun p st' => p = .ref C ∧ st' = st) hG hl hv rfl ⟨rfl, rfl⟩ hd hid stk s ok R) (fun v s₁ hp => ?_) fun _ _ y => y)
  obtain ⟨p, st₁, R₁, hv', k₁, rfl, rfl⟩ := hp
  cases hv'
  refine callWith_K (first := []) (hK.keeps R₁.stays) hk (wpAny_mono (h hid stk s₁ ok R₁) (fun vs s₂ hq => ?_) fun _ _ y => y) he hplain
  obtain ⟨ps, st₂, R₂, hvs, k₂, q⟩ := hq
  exact ⟨hK.keeps R₂.stays, wpAny_mono (q vs hid stk s₂ ok R₂ hvs) (fun _ _ y => y.keeps (k₁.trans k₂)) fun _ _ y => y⟩
theorem E_CallC0 {x : Str} {pos' pos : Pos} {Q : PV → St → Prop} (hG : Gd c.toGx) (hl : c.env.scope.names.lookup x = some .globalImplicit) (hv : c.mg x = some (.ref C)) (hK : K.In c.base) (hk : keepIn K (.ref C) = true)
    (h : WN c VRep [] (fun vs => call (.ref C) vs) Q st) (hd : (x == ("__debug__" : Str)) = false)
    (hev : eval (.Call (.Name x pos') [] [] pos) c.env = (do callWith pos (← eval (.Name x pos') c.env) [] (backTo pos (starEach [] c.env)) (backToKw pos (keywordEach [] c.env)))) : WE c (.Call (.Name x pos') [] [] pos) Q st := fun hid stk s ok R => by
  rw [hev]
  refine wpAny_bind (wpAny_mono (E_global (Q := fun p st' => p = .ref C ∧ st' = st) hG hl hv rfl ⟨rfl, rfl⟩ hd hid stk s ok R) (fun v s₁ hp => ?_) fun _ _ y => y)
  obtain ⟨p, st₁, R₁, hv', k₁, rfl, rfl⟩ := hp
  cases hv'
  exact callWith_K0 (first := []) (hK.keeps R₁.stays) hk (wpAny_mono (h [] hid stk s₁ ok R₁ .nil) (fun _ _ y => y.keeps k₁) fun _ _ y => y)
theorem E_CallT0 {x : Str} {pos' pos : Pos} {id : String} {Q : PV → St → Prop} (hG : Gd c.toGx) (hl : c.env.scope.names.lookup x = some .globalImplicit) (hm : c.mg x = none) (hn : x ≠ "__name__") (hv : bootBuiltins x = some (.type id))
    (h : WN c VRep [] (fun vs => call (.type id) vs) Q st) (hd : (x == ("__debug__" : Str)) = false)
    (hev : eval (.Call (.Name x pos') [] [] pos) c.env = (do callWith pos (← eval (.Name x pos') c.env) [] (backTo pos (starEach [] c.env)) (backToKw pos (keywordEach [] c.env)))) : WE c (.Call (.Name x pos') [] [] pos) Q st := fun hid stk s ok R => by
  rw [hev]
  refine wpAny_bind (wpAny_mono (E_builtin (Q := fun p st' => p = .ty id ∧ st' = st) hG hl hm hn hv rfl ⟨rfl, rfl⟩ hd hid stk s ok R) (fun v s₁ hp => ?_) fun _ _ y => y)
  obtain ⟨p, st₁, R₁, hv', k₁, rfl, rfl⟩ := hp
  cases hv'
  exact callWith_type0 (wpAny_mono (h [] hid stk s₁ ok R₁ .nil) (fun _ _ y => y.keeps k₁) fun _ _ y => y)

/-! instances made -/
theorem fresh_sub' {σ τ : AHeap} {a : Addr} (h : σ.Sub τ) (ha : τ a = none) : σ a = none := by
  cases q : σ a with
  | none => rfl
  | some o => rw [h _ _ q] at ha; cases ha
theorem make_inst {G : Gx} {n : Nat} {calm : Bool} {fI : Addr} {ps : List PV} {Q : PV → AHeap → Prop} {o1 o2 : Addr → AObj} (hK : K.In G.base) (hm : makesIn K C = true) (hi : findIn K (.ref C) "__init__" = some (some (.ref fI))) (hf : typeIn K (.ref fI) = some (.type "function"))
    (h1 : ∀ h b dx, ORep b h dx (.raw emptyDict) → ORep b h dx (o1 dx)) (h2 : ∀ h b x dx, ORep b h x (.raw (instObj C dx)) → ORep b h x (o2 dx))
    (h : ∀ x dx, x ≠ dx → σ x = none → σ dx = none → CallS G ⟨n, calm⟩ (.ref fI) (.ref x :: ps) (fun p τ => p = .none ∧ Q (.ref x) τ) ((σ.set dx (o1 dx)).set x (o2 dx))) : CallS G ⟨n + 1, calm⟩ (.ref C) ps Q σ := fun A frs hid stk s vs ks ok R hv hks => by
  cases hks.nil_inv
  have hdn := R.fresh_σ
  have R1 := R.alloc (ob := emptyDict) (o := o1 s.heap.objs.size) (h1 _ _ _ ⟨R.fresh_base, Heap.get?_push_size _ rfl, by show Value.type "dict" ≠ _; decide⟩)
  have hxn := R1.fresh_σ
  have R2 := R1.alloc (ob := instObj C s.heap.objs.size) (o := o2 s.heap.objs.size) (h2 _ _ _ _ ⟨R1.fresh_base, Heap.get?_push_size _ rfl, by show Value.ref C ≠ _; intro q; cases q⟩)
  have hsz : (s.heap.push emptyDict).objs.size = s.heap.objs.size + 1 := Heap.size_push ..
  have I := h (s.heap.objs.size + 1) s.heap.objs.size (Nat.ne_of_gt (Nat.lt_succ_self _)) (fresh_sub' (AHeap.sub_set _ hdn) (by rw [← hsz]; exact hxn)) hdn
  have X := hK.keeps R.stays
  obtain ⟨hh, g, d, t', os⟩ := s
  refine make_core (makes_of X hm) (looks_findIn X hi) (fun self => bind_fn X self hf) (.inl rfl) ?_
  have kk : Keeps hh ((hh.push emptyDict).push (instObj C hh.objs.size)) := (Keeps.push _ _).trans (Keeps.push _ _)
  refine codeAny_mono (I _ frs hid stk _ (.ref (hh.objs.size + 1) :: vs) [] (AOk.create (lv := ⟨n + 1, calm⟩) ok) (by rw [hsz] at R2; exact R2) (.cons rfl (hv.mono kk)) .nil) fun r s' x => ?_
  match r, x with
  | .ok (.ret v), ⟨p', σ', R', hv', k', e, q⟩ =>
    subst e
    cases hv'
    exact ⟨rfl, .ref (hh.objs.size + 1), σ', R', rfl, kk.trans k', q⟩
  | .error e, x => exact x.elim
theorem raw_attrs {b h : Heap} {dx : Addr} (x : ORep b h dx (.raw emptyDict)) : ORep b h dx (.own (attrsR [])) := ⟨x.1, _, x.2.1, #[], 0, [], rfl, rfl, .nil⟩
theorem raw_slots {b h : Heap} {x dx : Addr} (y : ORep b h x (.raw (instObj C dx))) : ORep b h x (.own (slotsR C dx [])) := ⟨y.1, _, y.2.1, [], rfl, .nil⟩
end
end Mine

end
section
open PySem PySem.W PyProof.Rows
set_option Elab.async false
set_option linter.unusedVariables false
set_option maxRecDepth 100000
namespace Mine
open PySem.Builtin Builtin.ObjectAttr
theorem ExcNoted.typeIs {base hid σ x cls} {s : Shared} (h : ExcNoted base hid σ s.heap x cls) : s.TypeIs (.ref x) cls := by
  obtain ⟨_, ob, _, _, _, _, h1, h2, _⟩ := h; exact ⟨ob, h1, h2⟩
theorem COk.mark {lv A env ls} (ok : COk lv A env ls) (e : Option Value) : COk ⟨lv.d, false⟩ (A.mark e) env ls := by
  obtain ⟨e₀, rest, h, he⟩ := ok.ok
  exact ⟨⟨e₀, rest, ⟨h.frames, h.frs, (fun x => by cases x), h.depth, h.units⟩, he⟩, ok.kind, ok.globals, ok.builtins⟩
theorem Rep.notTU {base os₀ hid stk σ} {s : Shared} (R : Rep base os₀ hid stk σ s) {a vs} (h : TU s.heap a vs) : σ a = none ∧ a ∉ stk.map (·.1) := by
  obtain ⟨n, h⟩ := h
  constructor
  · cases q : σ a with
    | none => rfl
    | some o =>
      exfalso
      have := R.heap _ _ q
      cases o with
      | list l => obtain ⟨_, vs, ⟨n, h1⟩, _⟩ := this; rw [h] at h1; simp at h1
      | rlist l => obtain ⟨vs, ⟨n, h1⟩, _⟩ := this; rw [h] at h1; simp at h1
      | cell v => obtain ⟨_, x, ⟨ob, h1, h2⟩, _⟩ := this; rw [h] at h1; cases h1; cases h2
      | range x y z => obtain ⟨_, t, u, v, h1⟩ := this; unfold IsRange at h1; rw [h] at h1; simp at h1
      | raw o => obtain ⟨_, h1, h2⟩ := this; rw [h] at h1; cases h1; exact h2 rfl
      | own r => obtain ⟨_, o, h1, h2⟩ := this; rw [h] at h1; cases h1; exact r.nt _ _ h2 _ _ rfl
  · intro q
    obtain ⟨f, hf, rfl⟩ := List.mem_map.mp q
    obtain ⟨⟨_, m, ⟨o, es, ep, h2, h3, _⟩, _⟩, _⟩ := R.frames f hf
    rw [h] at h2; cases h2; cases h3
theorem Rep.tups {base os₀ hid stk σ} {s : Shared} (R : Rep base os₀ hid stk σ s) :
    ∃ T, Rep base os₀ (T ++ hid) stk σ s ∧ ∀ stk' σ' (s' : Shared), Rep base os₀ (T ++ hid) stk' σ' s' → Keeps s.heap s'.heap := by
  classical
  let P : Addr → Bool := fun a => decide ((∃ vs, TU s.heap a vs) ∧ base.get? a = none ∧ a ∉ hid.map (·.1))
  let L := (List.range s.heap.objs.size).filter P
  let T : List (Addr × Obj) := L.map fun a => (a, (s.heap.get? a).getD default)
  have hT : ∀ p ∈ T, (∃ vs, TU s.heap p.1 vs) ∧ base.get? p.1 = none ∧ p.1 ∉ hid.map (·.1) ∧ s.heap.get? p.1 = some p.2 := fun p hp => by
    obtain ⟨a, ha, rfl⟩ := List.mem_map.mp hp
    have := of_decide_eq_true (List.mem_filter.mp ha).2
    refine ⟨this.1, this.2.1, this.2.2, ?_⟩
    obtain ⟨vs, n, h⟩ := this.1
    simp [h]
  have hm : T.map (·.1) = L := by simp [T, Function.comp_def]
  refine ⟨T, ⟨R.stays, R.gens, R.os, fun p hp => ?_, R.frames, R.nodup, ?_, R.heap, R.tk⟩, fun stk' σ' s' R' a vs ht => ?_⟩
  · rcases List.mem_append.mp hp with hp | hp
    · obtain ⟨⟨vs, h1⟩, h2, h3, h4⟩ := hT p hp
      exact ⟨h4, h2, (R.notTU h1).1, (R.notTU h1).2, trivial⟩
    · exact R.hid p hp
  · rw [List.map_append, hm, List.nodup_append]
    refine ⟨List.Pairwise.filter _ (by exact List.nodup_range), R.hnd, fun a ha b hb e => ?_⟩
    have := of_decide_eq_true (List.mem_filter.mp ha).2
    exact this.2.2 (e ▸ hb)
  · obtain ⟨n, h⟩ := id ht
    refine ⟨n, ?_⟩
    cases hb : base.get? a with
    | some ob =>
      have e1 := R.stays a ob hb
      rw [h] at e1; cases e1
      exact R'.stays a _ hb
    | none =>
      by_cases hh : a ∈ hid.map (·.1)
      · obtain ⟨p, hp, rfl⟩ := List.mem_map.mp hh
        have e1 := (R.hid p hp).1
        rw [h] at e1
        exact ((R'.hid p (List.mem_append_right _ hp)).1).trans e1.symm
      · have hL : a ∈ L := List.mem_filter.mpr ⟨List.mem_range.mpr (Heap.lt_size h), decide_eq_true ⟨⟨vs, ht⟩, hb, hh⟩⟩
        have := (R'.hid (a, (s.heap.get? a).getD default) (List.mem_append_left _ (List.mem_map_of_mem hL))).1
        simpa [h] using this
theorem sub_SS : ExcSub "StopIteration" "StopIteration" true := ⟨by rw [isSubtype_type]; kernel_rfl, by rw [show ((Manifest.find? "StopIteration").elim "type" fun x => x.metatype) = "type" from by kernel_rfl, isSubtype_type]; kernel_rfl, by rw [isSubtype_type]; kernel_rfl⟩
theorem ln_ga : Slot "list_iterator" "__getattribute__" "object.__getattribute__" :=
  .of (owner := "object") (n := "__getattribute__") (by rw [typeLookup_type, builtinLookup_eq_fast]; kernel_rfl) (by decide +kernel) (by decide +kernel) (by decide +kernel)
    (.inl (by decide +kernel)) (by rw [isSubtype_type]; kernel_rfl)
theorem ln_next : typeLookup (.type "list_iterator") "__next__" = pure (some (.builtin "list_iterator.__next__")) := by rw [typeLookup_type, builtinLookup_eq_fast]; kernel_rfl
theorem ln_tp : typeOf (.builtin "list_iterator.__next__") = pure (.type "wrapper_descriptor") := by show builtinType _ = _; rw [builtinType_eq_fast]; kernel_rfl
theorem nilIn (h : Heap) : Frag.In [] h := fun a o e => by cases e
theorem ln_spec : specialIn [] (.builtin "list_iterator.__next__") "__get__" = some (some (.builtin "wrapper_descriptor.__get__")) := by decide +kernel
theorem ln_take : takesIn [] (.builtin "list_iterator.__next__") = some false := by decide +kernel
theorem ln_gat : typeLookup (.type "list_iterator") "__getattribute__" = pure (some (.builtin "object.__getattribute__")) := by rw [typeLookup_type, builtinLookup_eq_fast]; kernel_rfl
theorem wg_entry : entryFor table "wrapper_descriptor.__get__" = some Builtin.«wrapper_descriptor.__get__» := entryFor_of_tree (by kernel_rfl)
theorem wg_slot : Slot "wrapper_descriptor" "__get__" "wrapper_descriptor.__get__" :=
  .of (owner := "wrapper_descriptor") (n := "__get__") (by rw [typeLookup_type, builtinLookup_eq_fast]; kernel_rfl) (by decide +kernel) (by decide +kernel) (by decide +kernel)
    (.inl (by decide +kernel)) (by rw [isSubtype_type]; kernel_rfl)
theorem wg_args (a b c : Value) : argsOk "wrapper_descriptor.__get__" ⟨[a, b, c], []⟩ := by unfold argsOk; kernel_rfl
noncomputable def bnObj (it : Addr) : Obj := { cls := .type "method-wrapper", data := .fields #[.builtin "list_iterator.__next__", .ref it] }
section
variable {prog : Program} {w : World} {A : Around} {E : Value → Shared → Prop} {s : Shared} {it : Addr} {vs : Array Value}
theorem ln_find (ho : s.heap.get? it = some { cls := .type "list_iterator", dict := none, data := .fields vs, slots := #[] }) {Q : Found → Shared → Prop} (h : Q (.bind (.builtin "wrapper_descriptor.__get__") (.builtin "list_iterator.__next__")) s) :
    wpAny (model prog w) A (find (.ref it) (.type "list_iterator") "__next__") Q E s := by
  unfold find
  refine wpAny_bind (w_eq ln_next ?_)
  refine wpAny_bind ((looks_specialIn (nilIn _) ln_spec).here ?_)
  refine wpAny_bind (wpAny_bind ((looks_takesIn (nilIn _) ln_take).here ?_))
  refine w_ff (by decide) (wpAny_pure ?_)
  show wpAny _ _ (ownThenClass _ _ _ _) _ _ _
  unfold ownThenClass
  refine wpAny_bind (wpAny_bind (wpAny_bind (wpAny_loadPart ho ?_)))
  refine wpAny_bind (wpAny_loadPart ho ?_)
  refine wpAny_pure (wpAny_pure ?_)
  refine wpAny_bind ?_
  show wpAny _ _ (pure ()) _ _ _
  refine wpAny_pure ?_
  exact wpAny_bind (wpAny_rule (wpAny_pure h))
theorem wg_run (ho : s.heap.get? it = some { cls := .type "list_iterator", dict := none, data := .fields vs, slots := #[] }) {Q : PySem.Fin → Shared → Prop} (h : Q (.done (.ret (.ref s.heap.objs.size))) { s with heap := s.heap.push (bnObj it) }) :
    wpAny (model prog w) A (Builtin.«wrapper_descriptor.__get__» ⟨[.builtin "list_iterator.__next__", .ref it, .type "list_iterator"], []⟩) Q E s := by
  obtain ⟨hp, g, d, tk, os⟩ := s
  have L0 : Looks (model prog w) hp (isInstance (.ref it) (.type "list_iterator")) true := ((Looks.ld (part := some headPart) ho).andThen .now).andThen (Looks.of_pure (show isSubtype (.type "list_iterator") (.type "list_iterator") = pure true by rw [isSubtype_type]; kernel_rfl))
  unfold Builtin.«wrapper_descriptor.__get__»
  repeat lk
  exact h
theorem ln_ga_run (ho : s.heap.get? it = some { cls := .type "list_iterator", dict := none, data := .fields vs, slots := #[] }) {t : Tok} {Q : PySem.Fin → Shared → Prop} (h : Q (.done (.ret (.ref s.heap.objs.size))) { s with heap := s.heap.push (bnObj it) }) :
    wpAny (model prog w) A (Builtin.«object.__getattribute__» ⟨[.ref it, .str "__next__" t], []⟩) Q E s := by
  obtain ⟨hp, g, d, tk, os⟩ := s
  have L0 : Looks (model prog w) hp (typeOf (.ref it)) (.type "list_iterator") := (Looks.ld (part := some headPart) ho).andThen .now
  have LF : Looks (model prog w) hp (find (.ref it) (.type "list_iterator") "__next__") (.bind (.builtin "wrapper_descriptor.__get__") (.builtin "list_iterator.__next__")) := fun A Q E s k q => ln_find (k _ _ ho) q
  unfold Builtin.«object.__getattribute__»
  repeat ((fail_if_success (with_reducible show wpAny _ _ (call _ _ _) _ _ _)); lk)
  refine wpAny_call_entry (T := "wrapper_descriptor") wg_slot ln_tp wg_entry (wg_run (s := ⟨hp, g, d, tk, os⟩) ho ?_) (wg_args _ _ _)
  exact ⟨_, rfl, wpAny_pure h⟩
theorem ga_entry : entryFor table "object.__getattribute__" = some Builtin.«object.__getattribute__» := entryFor_of_tree (by kernel_rfl)
theorem ga_args (a b : Value) : argsOk "object.__getattribute__" ⟨[a, b], []⟩ := by unfold argsOk; kernel_rfl
theorem ln_getattr (ho : s.heap.get? it = some { cls := .type "list_iterator", dict := none, data := .fields vs, slots := #[] }) {Q : Value → Shared → Prop} (h : Q (.ref s.heap.objs.size) { s with heap := s.heap.push (bnObj it), toks := s.toks + 1 }) :
    wpAny (model prog w) A (getAttr (.ref it) "__next__" true) Q E s := by
  unfold getAttr getAttrBy
  refine wpAny_bind (wpAny_mkText (wpAny_holding (wpAny_bind (w_typeOf (s := { s with toks := s.toks + 1 }) ho (wpAny_bind (w_eq ln_gat ?_))))))
  show wpAny _ _ (getAttrByItsOwn _ _ _ _ _ _) _ _ _
  unfold getAttrByItsOwn
  refine wpAny_bind (w_eq (v := none) rfl ?_)
  refine wpAny_bind (wpAny_attempt (wpAny_holding ?_))
  show wpAny _ _ (boundAndCalled _ _ _) _ _ _
  unfold boundAndCalled
  rw [ln_ga.bind]
  refine wpAny_bind (wpAny_pure ?_)
  exact wpAny_call_entry ln_ga (T := "list_iterator") ⟨_, ho, rfl⟩ ga_entry (ln_ga_run (s := { s with toks := s.toks + 1 }) ho ⟨_, rfl, wpAny_pure h⟩) (ga_args _ _)
end

section
variable {prog : Program} {w : World} {A : Around} {E : Value → Shared → Prop} {s : Shared} {it l : Addr} {i : Nat} {items : Array Value}
theorem nx_item {x : Value} {Q : PySem.Fin → Shared → Prop} (hit : s.heap.IsListIter it l i) (hl : s.heap.IsList l items) (hx : items[i]? = some x)
    (hQ : ∀ h', h'.IsListIter it l (i + 1) → Heap.SameBut it s.heap h' → Q (.done (.ret x)) { s with heap := h' }) : wpAny (model prog w) A (Builtin.«list_iterator.__next__» ⟨[.ref it], []⟩) Q E s := by
  obtain ⟨o, ho, hc, hd⟩ := id hit
  obtain ⟨ol, hol, _, nl, hdl⟩ := hl
  show wpAny _ _ (field (.ref it) 0 >>= _) _ _ s
  refine wpAny_bind (wpAny_field ho hd (x := .ref l) rfl ?_)
  refine w_ff (show ¬ ((Value.ref l == Value.none) = true) from Bool.false_ne_true) ?_
  show wpAny _ _ (field (.ref it) 1 >>= _) _ _ s
  refine wpAny_bind (wpAny_field ho hd (x := .int i 0) rfl ?_)
  show wpAny _ _ (seqItems? (.ref l) >>= _) _ _ s
  refine wpAny_bind (wpAny_seqItems hol hdl ?_)
  simp only [Int.toNat_natCast, hx]
  refine wpAny_bind (wpAny_setField ho hd (by simp) (wpAny_pure (hQ _ ?_ (Heap.SameBut.update ..))))
  exact ⟨_, Heap.get?_update_self _ ho (Obj.isFreed_of_fields (Obj.data_mapFields hd _)), (Obj.cls_mapFields ..).trans hc, by
    rw [Obj.data_mapFields hd]; simp [rawInt]⟩
theorem nx_end {Q : PySem.Fin → Shared → Prop} (hh : A.handled = none) (hit : s.heap.IsListIter it l i) (hl : s.heap.IsList l items) (hx : items[i]? = none)
    (hE : ∀ h₁ h' e tk, Heap.SameBut it s.heap h₁ → Heap.NewExcOf h₁ h' e "StopIteration" → s.toks ≤ tk → E (.ref e) { s with heap := h', toks := tk }) : wpAny (model prog w) A (Builtin.«list_iterator.__next__» ⟨[.ref it], []⟩) Q E s := by
  obtain ⟨o, ho, hc, hd⟩ := id hit
  obtain ⟨ol, hol, _, nl, hdl⟩ := hl
  show wpAny _ _ (field (.ref it) 0 >>= _) _ _ s
  refine wpAny_bind (wpAny_field ho hd (x := .ref l) rfl ?_)
  refine w_ff (show ¬ ((Value.ref l == Value.none) = true) from Bool.false_ne_true) ?_
  show wpAny _ _ (field (.ref it) 1 >>= _) _ _ s
  refine wpAny_bind (wpAny_field ho hd (x := .int i 0) rfl ?_)
  show wpAny _ _ (seqItems? (.ref l) >>= _) _ _ s
  refine wpAny_bind (wpAny_seqItems hol hdl ?_)
  simp only [Int.toNat_natCast, hx]
  refine wpAny_bind (wpAny_rule (wpAny_bind (wpAny_setField ho hd (by simp) ?_)))
  have hs1 : Heap.SameBut it s.heap (s.heap.update it (Obj.mapFields (·.setIfInBounds 0 .none))) := Heap.SameBut.update ..
  show wpAny _ _ (newExc (.type "StopIteration") [] >>= _) _ _ _
  refine wpAny_bind ?_
  simp only [newExc, newTuple]
  refine wpAny_bind (wpAny_newObj_type ?_ (by size_fits))
  refine wpAny_bind (m := firstArgMember _ _) (wpAny_of_eq (a := Value.none) (by first | rfl | (simp only [firstArgMember]; rfl)) ?_)
  refine wpAny_newObj_type ?_ (by size_fits)
  simp only [raiseNew]
  refine wpAny_bind (wpAny_handled ?_)
  rw [hh]
  refine wpAny_bind (wpAny_pure (wpAny_throw ?_))
  exact hE _ _ _ _ hs1 ⟨fun b o hb => Heap.get?_push_of_some _ (Heap.get?_push_of_some _ hb), Heap.get?_none_of_le (by simp), _, _, Heap.get?_push_size _ rfl, rfl, rfl, rfl⟩ (Nat.le_refl _)
end
/-- an iterator over a list, k items on -/
noncomputable def litR (a : Addr) (k : Nat) : ORel where
  R h o := IsLIt a k o
  mono := fun h h' o k x => x
  nt := fun h o x ws m e => by have := x.1; rw [e] at this; simp at this
section
variable {c : Cx} {st : St} {μ : Locals} {σ : AHeap}
theorem call_iterO {a : Addr} {l : List PV} {Q : PV → St → Prop} (hs : seqAt σ a = some l) (h : ∀ it, σ it = none → Q (.ref it) (μ, σ.set it (.raw (listIter0 a)))) :
    WN c VRep [.ref a] (fun vs => call (.builtin "iter") vs) Q (μ, σ) := fun vs hid stk s ok R hv => by
  obtain ⟨v1, r1, rfl, h1, hv⟩ := hv.cons_inv
  rw [hv.nil_inv]
  simp only [VRep] at h1; subst h1
  obtain ⟨ws, hL, hws⟩ := R.seq hs
  refine Calls.call_function_entry (by decide +kernel) (by decide +kernel) (entryFor_of_fast (by kernel_rfl) : entryFor table "iter" = some Builtin.«iter») (by unfold argsOk; kernel_rfl) ?_
  unfold Builtin.«iter»
  refine wpAny_bind (m := someArgs "iter" 1 2 _) (wpAny_of_eq (a := [Value.ref a]) (by first | rfl | kernel_rfl!) ?_)
  show wpAny _ _ (pyIter (.ref a) >>= _) _ _ _
  refine wpAny_bind (wpAny_pyIter_list hL.isList ?_)
  refine wpAny_pure ⟨_, rfl, ⟨.ref s.heap.objs.size, (μ, σ.set s.heap.objs.size (.raw (listIter0 a))), R.alloc (o := .raw (listIter0 a)) ⟨R.fresh_base, Heap.get?_push_size _ rfl, by show Value.type "list_iterator" ≠ Value.type "tuple"; decide⟩, rfl, Keeps.push _ _, h _ R.fresh_σ⟩⟩
/-- iter(..).__next__ -/
theorem attr_next {it a : Addr} {Q : PV → St → Prop} (hi : σ it = some (.raw (listIter0 a))) (h : ∀ u, u ≠ it → σ u = none → Q (.ref u) (μ, (σ.set it (.own (litR a 0))).set u (.raw (bnObj it)))) : W1 c VRep (.ref it) (fun v => getAttr v "__next__" true) Q (μ, σ) := fun v hid stk s ok R hv => by
  cases hv
  obtain ⟨hb, ho, _⟩ := R.heap _ _ hi
  refine ln_getattr ho ?_
  have R1 : Rep c.base c.os hid ((c.env.locals, μ) :: stk) (σ.set it (.own (litR a 0))) { s with toks := s.toks + 1 } :=
    R.put (s' := { s with toks := s.toks + 1 }) (fun b ob hne e => e) (fun vs ⟨n, e⟩ => by rw [ho] at e; simp [listIter0] at e) hb (R.hid_ne hi) (R.stk_ne hi) ⟨hb, _, ho, rfl, rfl⟩ rfl rfl (Nat.le_succ _)
  have R2 := R1.alloc (ob := bnObj it) (o := .raw (bnObj it)) ⟨R1.fresh_base, Heap.get?_push_size _ rfl, by show Value.type "method-wrapper" ≠ Value.type "tuple"; decide⟩
  exact ⟨.ref s.heap.objs.size, _, R2, rfl, Keeps.push _ _, h _ (Nat.ne_of_gt (Heap.lt_size ho)) R.fresh_σ⟩
theorem AHeap.del_sub (σ : AHeap) (a : Addr) : (σ.del a).Sub σ := fun b o e => by
  unfold AHeap.del at e
  split at e
  · cases e
  · exact e
theorem AHeap.del_same (σ : AHeap) (a : Addr) : (σ.del a) a = none := by simp [AHeap.del]
theorem AHeap.del_ne {σ : AHeap} {a b : Addr} (h : b ≠ a) : (σ.del a) b = σ b := by simp [AHeap.del, h]
/-- try: x = f(); break; except StopIteration: .., f being an iterator's next -/
theorem S_TryNext {func : Expr} {x : Str} {p1 p2 p3 p4 pe ph pos : Pos} {hb : Stmt} {hbody : List Stmt} {Q : AFlow → St → Prop} (hcalm : c.lv.calm = true) (hG : Gd c.toGx) (hx : c.env.scope.names.lookup x = some .local)
    (hS : c.env.scope.names.lookup (Str.ofString "StopIteration") = some .globalImplicit) (hm : c.mg (Str.ofString "StopIteration") = none)
    (h : WE c func (fun fv st₁ => ∃ u it a k l, fv = .ref u ∧ st₁.2 u = some (.raw (bnObj it)) ∧ st₁.2 it = some (.own (litR a k)) ∧ seqAt st₁.2 a = some l ∧
      (∀ p, l[k]? = some p → Q .brk (setL x p st₁.1, st₁.2.set it (.own (litR a (k + 1))))) ∧
      (l[k]? = none → ∀ c' : Cx, c'.toGx = c.toGx → c'.env = c.env → c'.lv.d = c.lv.d → WS c' (hb :: hbody) Q (st₁.1, st₁.2.del it))) st)
    (hev : eval (.Call func [] [] p1) c.env = (do callWith p1 (← eval func c.env) [] (backTo p1 (starEach [] c.env)) (backToKw p1 (keywordEach [] c.env))))
    (hsw : swapsWith (.Call func [] [] p1) (some (.Name x p2)) p3.line c.env = pure false) :
    WX c (.Try [.Assign [.Name x p2] (.Call func [] [] p1) p3, .Break p4] [.ExceptHandler (some (.Name (Str.ofString "StopIteration") pe)) none (hb :: hbody) ph] [] [] pos) Q st := fun hid stk s ok R => by
  obtain ⟨e₀, rest, a0, he0⟩ := ok.ok
  obtain ⟨T, RT, kT⟩ := R.tups
  have hh := ok.handled hcalm
  refine wpAny_Try_except (wpAny_execs_cons (wpAny_Assign_Name ?_ hsw))
  rw [hev]
  refine wpAny_bind (wpAny_mono (h (T ++ hid) stk s ok RT) (fun fv s₁ hp => ?_) fun _ _ y => False.elim y)
  obtain ⟨_, st₁, R₁, hv, k₁, u, it, a, k, l, rfl, hu, hi, hl, hit, hend⟩ := hp
  cases hv
  obtain ⟨_, hu', _⟩ := R₁.heap _ _ hu
  obtain ⟨hbi, oi, hi', hi2⟩ := R₁.heap _ _ hi
  obtain ⟨ws, hL, hws⟩ := R₁.seq hl
  show wpAny _ _ (callWith p1 (.ref u) [] [] []) _ _ s₁
  unfold callWith
  refine wpAny_bind (wpAny_holding (PyProof.Rows.evalArgs_nil3 (wpAny_bind (wpAny_standAt ?_))))
  refine wpAny_bind (m := keeperOf (.ref u)) ?_
  unfold keeperOf
  refine wpAny_bind (wpAny_load hu' ?_)
  simp only [bnObj]
  refine w_tt (by decide) ?_
  refine w_eq (v := Keeper.machine) rfl ?_
  refine wpAny_bind (m := call (.ref u) ([] ++ []) []) ?_
  refine wpAny_call (codeAny_of_tree ?_)
  show wpAny _ _ (callAny (.ref u) _) _ _ _
  refine nd_load hu' ?_
  refine w_eq (v := PySem.Fin.again (.builtin "list_iterator.__next__" ⟨[.ref it], []⟩)) (by kernel_rfl) ?_
  refine ⟨Code.quiet_builtin _ (by decide +kernel), codeAny_builtin entry_listiter_next ?_⟩
  cases hk : l[k]? with
  | some p =>
    obtain ⟨v, hv, hr⟩ := hws.get _ _ hk
    refine nx_item ⟨oi, hi', hi2.1, hi2.2⟩ hL.isList (by simpa using hv) fun h' hit' hs' => ?_
    obtain ⟨o', ho', hc', hd'⟩ := hit'
    have hnt : ∀ vs, ¬ TU s₁.heap it vs := fun vs ⟨n, e⟩ => by rw [hi'] at e; cases e; have := hi2.1; simp at this
    have k' : Keeps s₁.heap h' := .same hnt hs'
    have R₂ := R₁.put (s' := { s₁ with heap := h' }) (o := .own (litR a (k + 1))) (fun b ob hne e => (hs'.2 b hne).trans e) hnt hbi (R₁.hid_ne hi) (R₁.stk_ne hi) ⟨hbi, o', ho', hc', by simpa using hd'⟩ rfl rfl (Nat.le_refl _)
    show wpAny _ _ (holding [v] point >>= fun _ => pure v) _ _ _
    refine wpAny_bind (wpAny_holding (wpAny_point (wpAny_pure ?_)))
    refine wpAny_mono (W1_store (Q := fun _ st' => Q .brk st') hx (hit p hk) v (T ++ hid) stk _ ok R₂ (hr.mono k')) (fun _ s₃ hq => ?_) fun _ _ y => False.elim y
    obtain ⟨_, st₃, R₃, _, k₃, q⟩ := hq
    refine wpAny_execs_cons (wpAny_Break ?_)
    exact ⟨.brk, st₃, R₃.hidDrop, rfl, k₁.trans (k'.trans k₃), q⟩
  | none =>
    refine nx_end hh ⟨oi, hi', hi2.1, hi2.2⟩ hL.isList ?_ fun h₁ h' e tk hs1 hx htk => ?_
    · rw [List.getElem?_toArray]
      exact List.getElem?_eq_none (by rw [hws.length]; exact List.getElem?_eq_none_iff.mp hk)
    show wpAny _ _ (noteFrame (.ref e) c.env) _ _ _
    have hnt : ∀ vs, ¬ TU s₁.heap it vs := fun vs ⟨n, e⟩ => by rw [hi'] at e; cases e; have := hi2.1; simp at this
    have R₂ := R₁.weaken (AHeap.del_sub st₁.2 it)
    have R₃ := R₂.aside (s' := { s₁ with heap := h₁ }) (a := it) (fun b ob hne e => (hs1.2 b hne).trans e) ⟨hbi, AHeap.del_same _ _, R₁.hid_ne hi⟩ hnt (R₁.stk_ne hi)
    have R₄ := R₃.grow (s' := { s₁ with heap := h', toks := tk }) hx.keeps rfl rfl htk
    obtain ⟨ob, vs, e1, e2, e3, e4⟩ := hx.there
    have hxa : ExcAt c.base (T ++ hid) (st₁.2.del it) h' e "StopIteration" := by
      refine ⟨⟨?_, ?_, fun p hp q => ?_⟩, ob, vs, e1, e2, by rw [e2]; decide, e3, .inl e4⟩
      · cases q : c.base.get? e with
        | none => rfl
        | some o => have := R₃.stays _ _ q; rw [show ({ s₁ with heap := h₁ } : Shared).heap = h₁ from rfl, hx.new] at this; cases this
      · cases q : (st₁.2.del it) e with
        | none => rfl
        | some o =>
          obtain ⟨ob', h4 | ⟨v, ob', h4, _⟩⟩ := (R₃.heap _ _ q).there
          · have := h4.1; rw [show ({ s₁ with heap := h₁ } : Shared).heap = h₁ from rfl, hx.new] at this; cases this
          · rw [show ({ s₁ with heap := h₁ } : Shared).heap = h₁ from rfl, hx.new] at h4; cases h4
      · have := (R₃.hid p hp).1; rw [q, show ({ s₁ with heap := h₁ } : Shared).heap = h₁ from rfl, hx.new] at this; cases this
    refine wp_note a0.frames (by simpa using a0.frs) R₄ rfl he0 hxa fun s₅ R₅ n₅ => wp_flight R₅ n₅ fun s₆ R₆ n₆ => ?_
    refine wpAny_handleBy_builtin sub_SS.exc sub_SS.nt sub_SS.sub (Calls.Name_function_global ok.kind hS (Calls.loadGlobal_builtin (by rw [ok.globals]; exact hG.g.keeps R₆.stays) hm (by rw [ok.builtins]; exact hG.b.keeps R₆.stays) ((hG.builtins _ (by decide)).trans (show bootBuiltins (Str.ofString "StopIteration") = some (.type "StopIteration") from by kernel_rfl)) ⟨rfl, n₆.typeIs, ?_⟩) (by decide +kernel))
    rw [if_pos rfl]
    refine wp_flight R₆ n₆ fun s₇ R₇ n₇ => ?_
    refine wpAny_mono (hend hk { c with A := c.A.mark (some (.ref e)), lv := ⟨c.lv.d, false⟩ } rfl rfl rfl (T ++ hid) stk s₇ (ok.mark (some (.ref e))) R₇) (fun f s' hq => ?_) fun e s' y => False.elim y
    obtain ⟨fl, st', R', hf, _, q⟩ := hq
    exact ⟨fl, st', R'.hidDrop, hf, kT _ _ _ R', q⟩
end
end Mine

end
section
open PySem PySem.W PyProof.Rows PySem.SeqAt
set_option Elab.async false
set_option linter.unusedVariables false
set_option maxRecDepth 100000
namespace Mine
open PySem.Builtin Builtin.ObjectAttr
section
variable {c : Cx} {st : St} {μ : Locals} {σ : AHeap}
/-! methods of builtin types -/
noncomputable def TypB (T : String) (c : Cx) (σ : AHeap) (ov : PV) : Prop := ∃ a, ov = .ref a ∧ ∀ hid stk (s : Shared), Rep c.base c.os hid stk σ s → s.TypeIs (.ref a) T ∧ ∃ ob, s.heap.get? a = some ob ∧ ob.dict = none
theorem typB_dict {d : Addr} {l : List (Int × PV)} {ep : Nat} (hd : σ d = some (.own (idictR l ep))) : TypB "dict" c σ (.ref d) := ⟨d, rfl, fun hid stk s R => by
  obtain ⟨hb, o, h1, vs, h2, h3⟩ := R.heap _ _ hd
  obtain ⟨es, a, _⟩ := h2.2 c.prog c.w
  exact ⟨⟨o, h1, a.1⟩, o, h1, a.2.1⟩⟩
theorem typB_set {d : Addr} {l : List Int} (hd : σ d = some (.own (isetR l))) : TypB "set" c σ (.ref d) := ⟨d, rfl, fun hid stk s R => by
  obtain ⟨hb, o, h1, h2, h3⟩ := R.heap _ _ hd
  exact ⟨⟨o, h1, h2⟩, o, h1, (h3 c.prog c.w).1.2.1⟩⟩
theorem E_MethB {T : String} {o e : Expr} {rest : List Expr} {name : Str} {apos pos : Pos} {id : String} {Q : PV → St → Prop} (pa : PlainAttrs T) (slot : Slot T name id) (hty : typeOf (.builtin id) = pure (.type "method_descriptor"))
    (h : WE c o (fun ov st₁ => TypB T c st₁.2 ov ∧ WA c pos (e :: rest) (fun ps st₂ => WN c VRep (ov :: ps) (fun vs => call (.builtin id) vs) Q st₂) st₁) st)
    (hbase : attributeBase o name c.env (eval o c.env) = eval o c.env)
    (hfew : ((backTo pos (starEach (e :: rest) c.env)).all (fun x => !x.1) && (backToKw pos (keywordEach [] c.env)).all (fun x => x.1.isSome)
      && decide ((e :: rest).length + ([] : List Keyword).length + (if ([] : List Keyword).isEmpty then 0 else 1) < 30)) = true)
    (hline : (apos.endLine == pos.line) = true)
    (he : starEach (e :: rest) c.env = (false, eval e c.env) :: starEach rest c.env)
    (hplain : (backTo pos (starEach rest c.env)).any (·.1) = false) : WE c (.Call (.Attribute o name apos) (e :: rest) [] pos) Q st := fun hid stk s ok R => by
  refine wpAny_Call_method hbase hfew hline pa slot hty (wpAny_mono (h hid stk s ok R) (fun v s₁ hp => ?_) fun _ _ y => y)
  obtain ⟨ov, st₁, R₁, hv, k₁, ⟨a, rfl, hT⟩, h₁⟩ := hp
  cases hv
  obtain ⟨hT1, ob, hob, hdict⟩ := hT _ _ _ R₁
  refine ⟨hT1, fun b hb => ?_, callWith_method1 (wpAny_mono (h₁ hid stk s₁ ok R₁) (fun vs s₂ hq => ?_) fun _ _ y => y) he hplain⟩
  · cases hb; exact ⟨_, hob, hdict⟩
  · obtain ⟨ps, st₂, R₂, hvs, k₂, q⟩ := hq
    exact wpAny_mono (q (.ref a :: vs) hid stk s₂ ok R₂ (.cons rfl hvs)) (fun _ _ y => y.keeps (k₁.trans k₂)) fun _ _ y => y
theorem E_MethB0 {T : String} {o : Expr} {name : Str} {apos pos : Pos} {id : String} {Q : PV → St → Prop} (pa : PlainAttrs T) (slot : Slot T name id) (hty : typeOf (.builtin id) = pure (.type "method_descriptor"))
    (h : WE c o (fun ov st₁ => TypB T c st₁.2 ov ∧ WN c VRep [ov] (fun vs => call (.builtin id) vs) Q st₁) st)
    (hbase : attributeBase o name c.env (eval o c.env) = eval o c.env) (hline : (apos.endLine == pos.line) = true) : WE c (.Call (.Attribute o name apos) [] [] pos) Q st := fun hid stk s ok R => by
  refine wpAny_Call_method hbase rfl hline pa slot hty (wpAny_mono (h hid stk s ok R) (fun v s₁ hp => ?_) fun _ _ y => y)
  obtain ⟨ov, st₁, R₁, hv, k₁, ⟨a, rfl, hT⟩, h₁⟩ := hp
  cases hv
  obtain ⟨hT1, ob, hob, hdict⟩ := hT _ _ _ R₁
  refine ⟨hT1, fun b hb => ?_, callWith_method0 ?_⟩
  · cases hb; exact ⟨_, hob, hdict⟩
  · exact wpAny_mono (h₁ [.ref a] hid stk s₁ ok R₁ (.cons rfl .nil)) (fun _ _ y => y.keeps k₁) fun _ _ y => y
/-! the values of a dict -/
noncomputable def valView (d : Addr) : Obj := { cls := .type "dict_values", data := .fields #[.ref d] }
theorem dict_values {d : Addr} {l : List (Int × PV)} {ep : Nat} {Q : PV → St → Prop} (hd : σ d = some (.own (idictR l ep))) (hs : (d == sysModules) = false) (h : ∀ v, σ v = none → Q (.ref v) (μ, σ.set v (.raw (valView d)))) : WN c VRep [.ref d] (fun vs => call (.builtin "dict.values") vs) Q (μ, σ) := fun vs hid stk s ok R hv => by
  obtain ⟨v1, r1, rfl, h1, hv⟩ := hv.cons_inv
  rw [hv.nil_inv]
  cases h1
  obtain ⟨o, vs, h1, h2, h3, hb⟩ := R.idict hd
  have hDO := (h2.at h1 c.prog c.w).dictOf
  refine call_meetsIn F.slot_dict_values hDO.typeIs F.entry_dict_values (F.args_dict_values_1 _) (meets_dict_values (intKind c.prog c.w) d hs) ⟨⟨_, hDO⟩, ?_⟩
  exact ⟨.ref s.heap.objs.size, _, R.alloc (o := .raw (valView d)) ⟨R.fresh_base, Heap.get?_push_size _ rfl, by show Value.type "dict_values" ≠ _; decide⟩, rfl, Keeps.push _ _, h _ R.fresh_σ⟩
end
section
variable {G : Gx} {c : Cx} {st : St} {μ : Locals} {σ : AHeap}
noncomputable def valIt (it d : Addr) (n ep k : Nat) (o : Obj) : Prop := ∀ h : Heap, h.get? it = some o → h.IsValIter it d k n ep
theorem iter_vals (target : Expr) (it d : Addr) (l : List (Int × PV)) (ep : Nat) : IterAt G target it (fun k hs => ∃ o, hs = [(it, o)] ∧ o.cls = .type "dict_valueiterator" ∧ valIt it d l.length ep k o) (fun _ => True) (fun σ => σ d = some (.own (idictR l ep))) (l.map (·.2)) where
  mono := fun _ _ _ _ => trivial
  next := fun k p hp A hid stk σ s hs E Q hh hsk _ hσ R hQ => by
    obtain ⟨o, rfl, hc, hd⟩ := hsk
    have ho := (R.hid (it, o) (List.mem_cons_self ..)).1
    obtain ⟨od, vs, h1, h2, h3, hb⟩ := R.idict hσ
    have hlen : (l.map (·.1)).length = vs.length := by rw [h3.length]; simp
    have hzl : ((l.map (·.1)).zip vs).length = l.length := by rw [List.length_zip, ← hlen]; simp
    obtain ⟨v, hv, hr⟩ := h3.get _ _ hp
    have hkl : k < (l.map (·.1)).length := by rw [hlen]; exact (List.getElem?_eq_some_iff.mp hv).1
    have hx : ((l.map (·.1)).zip vs)[k]? = some ((l.map (·.1))[k], v) := by rw [List.getElem?_zip_eq_some]; exact ⟨List.getElem?_eq_getElem hkl, hv⟩
    have hit := hd s.heap ho
    rw [← hzl] at hit
    refine wpAny_pyNext_values_item (knd := intKind G.prog G.w) hit (h2.at h1 G.prog G.w) hx fun h' hit' hs' => ?_
    rw [hzl] at hit'
    obtain ⟨o', ho', hc', hd'⟩ := id hit'
    obtain ⟨R', kp⟩ := R.hidChange (hs' := [(it, o')]) (tk := s.toks) (h' := h') rfl (fun q hq => by simp at hq; subst hq; exact ⟨ho', by rw [hc']; decide⟩) (fun b ob hb e => (hs'.2 b (by simpa using hb)).trans e) (fun q hq => by simp at hq; subst hq; show o.cls ≠ _; rw [hc]; decide)
    exact hQ _ _ (fun Q' E' A' hq => letOwned_other ho' (fun n e => by rw [hc'] at e; cases e; rfl) (hq _ _ ⟨o', rfl, hc', fun h e => ⟨o', e, hc', hd'⟩⟩ R' (.refl _))) (hr.mono kp) kp
  stop := fun A hid stk σ s hs E Q hh hsk _ hσ R hQ => by
    obtain ⟨o, rfl, hc, hd⟩ := hsk
    have ho := (R.hid (it, o) (List.mem_cons_self ..)).1
    obtain ⟨od, vs, h1, h2, h3, hb⟩ := R.idict hσ
    have hlen : (l.map (·.1)).length = vs.length := by rw [h3.length]; simp
    have hzl : ((l.map (·.1)).zip vs).length = l.length := by rw [List.length_zip, ← hlen]; simp
    have hit := hd s.heap ho
    rw [← hzl] at hit
    refine wpAny_pyNext_values_end (knd := intKind G.prog G.w) hh hit (h2.at h1 G.prog G.w) (List.getElem?_eq_none (by rw [hzl]; simp)) fun h' he => ?_
    obtain ⟨R', k⟩ := R.hidForget (tk := s.toks) (h' := h') (fun b o hb e => he b o (by simpa using hb) e) (fun q hq => by simp at hq; subst hq; show o.cls ≠ _; rw [hc]; decide)
    exact hQ _ R' k
  self := fun k A hid stk σ s hs E Q hsk R hQ => by
    obtain ⟨o, rfl, hc, hd⟩ := hsk
    have ho := (R.hid (it, o) (List.mem_cons_self ..)).1
    exact wpAny_pyIter_valiter (hd _ ho) hQ
theorem it_vals {target : Expr} {v d : Addr} {l : List (Int × PV)} {ep : Nat} (hv : σ v = some (.raw (valView d))) (hd : σ d = some (.own (idictR l ep))) : ItOk c target (.ref v) (μ, σ) (l.map (·.2)) (fun σ => σ d = some (.own (idictR l ep))) := fun u hid stk s E Q ok R hu hQ => by
  cases hu
  obtain ⟨od, vs, h1, h2, h3, hb⟩ := R.idict hd
  obtain ⟨_, hv', _⟩ := R.heap _ _ hv
  have hlen : (l.map (·.1)).length = vs.length := by rw [h3.length]; simp
  have hzl : ((l.map (·.1)).zip vs).length = l.length := by rw [List.length_zip, ← hlen]; simp
  refine wpAny_pyIter_values (knd := intKind c.prog c.w) ⟨_, hv', rfl, rfl⟩ (h2.at h1 c.prog c.w) ?_
  rw [hzl]
  exact hQ _ _ _ [(s.heap.objs.size, { cls := .type "dict_valueiterator", data := .fields #[.ref d, .int 0 0, .int l.length 0, .int ep 0] })] _ (iter_vals target s.heap.objs.size d l ep) ⟨_, rfl, rfl, fun h e => ⟨_, e, rfl, rfl⟩⟩ trivial (R.hidNew (by show Value.type "dict_valueiterator" ≠ Value.type "tuple"; decide) rfl) (Keeps.push _ _)

/-! lists, tuples, least and greatest -/
theorem bool_list {a : Addr} {l : List PV} {Q : PV → St → Prop} (hs : seqAt σ a = some l) (hz : l.length ≤ 100000) (h : Q (.bool (!l.isEmpty)) (μ, σ)) : WN c VRep [.ref a] (fun vs => call (.type "bool") vs) Q (μ, σ) := fun vs hid stk s ok R hv => by
  obtain ⟨v1, r1, rfl, h1, hv⟩ := hv.cons_inv
  rw [hv.nil_inv]
  cases h1
  obtain ⟨ws, hL, hws⟩ := R.seq hs
  have hlen := hws.length
  have g : Meets (Builtin.«bool.__new__» ⟨[.type "bool", .ref a], []⟩) (fun A R s => s.heap.IsList a ws.toArray ∧ R (.ok (.ret (.bool (!ws.toArray.isEmpty)))) { s with toks := s.toks + 1 + 1 }) :=
    Meets.of_wp fun prog w A R s hs => by
      obtain ⟨hp, g, d, tk, os⟩ := s
      obtain ⟨hs1, hs2⟩ := hs
      have f1 := F.conv_sub_bool
      have hz' : ws.toArray.size ≤ 100000 := by simp; omega
      repeat (any_goals (first | assumption | (with_reducible refine wpAny_truthy_list hs1 (by omega) ?_) | wp_step))
      all_goals first | exact ⟨_, rfl, hs2⟩ | skip
  refine call_bool_1 g ⟨hL.isList, rfl, ⟨.bool (!l.isEmpty), (μ, σ), R.toks _, ?_, .refl _, h⟩⟩
  simp only [VRep]
  cases l <;> cases ws <;> simp_all
theorem tuple_of_list {a : Addr} {l : List PV} {Q : PV → St → Prop} (hs : seqAt σ a = some l) (hz : l.length ≤ 100000) (h : Q (.tup l) (μ, σ)) : WN c VRep [.ref a] (fun vs => call (.type "tuple") vs) Q (μ, σ) := fun vs hid stk s ok R hv => by
  obtain ⟨v1, r1, rfl, h1, hv⟩ := hv.cons_inv
  rw [hv.nil_inv]
  cases h1
  obtain ⟨ws, hL, hws⟩ := R.seq hs
  refine call_tuple_list hL.isList (fun h' hk => ?_) (by rw [List.size_toArray, hws.length, sizeLine_eq]; omega)
  have hk' : ∀ b o', s.heap.get? b = some o' → (h'.push { cls := .type "tuple", data := .seq ws.toArray }).get? b = some o' := fun b o' e => Heap.get?_push_of_some _ (hk b o' e)
  have k : Keeps s.heap (h'.push { cls := .type "tuple", data := .seq ws.toArray }) := fun b vs ⟨n, e⟩ => ⟨n, hk' _ _ e⟩
  exact ⟨.tup l, (μ, σ), R.grow (s' := { s with heap := h'.push { cls := .type "tuple", data := .seq ws.toArray } }) hk' rfl rfl, by simp only [VRep]; exact ⟨_, ws, rfl, ⟨_, Heap.get?_push_size _ rfl⟩, hws.mono k⟩, k, h⟩
theorem clear_list {a : Addr} {l : List PV} {Q : PV → St → Prop} (hs : σ a = some (.list l)) (hz : l.length ≤ 100000) (h : Q .none (μ, σ.set a (.list []))) : WN c VRep [.ref a] (fun vs => call (.builtin "list.clear") vs) Q (μ, σ) := fun vs hid stk s ok R hv => by
  obtain ⟨v1, r1, rfl, h1, hv⟩ := hv.cons_inv
  rw [hv.nil_inv]
  cases h1
  obtain ⟨hb, ws, hL, hws⟩ := R.heap _ _ hs
  obtain ⟨n, e⟩ := id hL
  refine call_meets F.slot_list_clear ⟨_, e, rfl⟩ F.entry_list_clear (F.args_list_clear_1 _) (AutoSeq1.list_clear_list_0 a ws.toArray n (by rw [List.size_toArray, hws.length, sizeLine_eq]; omega)) ⟨e, ?_⟩
  obtain ⟨R', k⟩ := R.listUpd (tk := s.toks) (l' := []) (ws := []) hs upd_other (hL.upd (f := fun _ => #[]) rfl) .nil
  exact ⟨.none, (μ, _), R', by simp only [VRep], k, h⟩
theorem map_erase {α β : Type} (f : α → β) : ∀ (l : List α) (j : Nat), (l.map f).eraseIdx j = (l.eraseIdx j).map f
  | [], _ => rfl
  | _ :: _, 0 => rfl
  | x :: l, j + 1 => by simp [map_erase f l j]
theorem remove_int {a : Addr} {l : List Int} {i : Int} {j : Nat} {Q : PV → St → Prop} (hs : σ a = some (.list (intL l))) (hz : l.length ≤ 100000) (hj : l[j]? = some i) (hno : ∀ m < j, l[m]? ≠ some i) (h : Q .none (μ, σ.set a (.list (intL (l.eraseIdx j))))) :
    WN c VRep [.ref a, .int i] (fun vs => call (.builtin "list.remove") vs) Q (μ, σ) := fun vs hid stk s ok R hv => by
  obtain ⟨v1, r1, rfl, h1, hv⟩ := hv.cons_inv
  obtain ⟨v2, r2, rfl, h2, hv⟩ := hv.cons_inv
  rw [hv.nil_inv]
  cases h1
  obtain ⟨t, rfl⟩ := h2
  obtain ⟨hb, ws, hL, hws⟩ := R.heap _ _ hs
  obtain ⟨n, e⟩ := id hL
  have hlen : ws.length = l.length := by rw [hws.length]; simp [intL]
  have hat : ∀ m (hm : m < ws.length), ∃ (hm' : m < l.length) (t : Tok), ws[m] = .int l[m] t := fun m hm => intsAre_get hws.intsAre m hm
  obtain ⟨hjl, hje⟩ := List.getElem?_eq_some_iff.mp hj
  refine call_meets F.slot_list_remove ⟨_, e, rfl⟩ F.entry_list_remove (F.args_list_remove_2 _ _) (MeetsSeq.list_remove a ws.toArray n (.int i t) (fun y => match y with | .int k _ => k == i | _ => false) (fun y hy => ?_) j (by simp; omega) ?_ (fun m hm hmj => ?_) (by rw [List.size_toArray, hlen, sizeLine_eq]; omega)) ⟨e, ?_⟩
  · obtain ⟨m, hm, rfl⟩ := List.getElem_of_mem (List.mem_toArray.mp hy)
    obtain ⟨_, u, e⟩ := hat m hm
    rw [e]; exact .int _ _ _ _
  · obtain ⟨_, u, e⟩ := hat j (by omega)
    simp only [List.getElem_toArray, e, hje, beq_self_eq_true]
  · obtain ⟨hm', u, e⟩ := hat m (by simpa using hm)
    simp only [List.getElem_toArray, e]
    rw [beq_eq_false_iff_ne]
    intro q
    exact hno m hmj (by rw [List.getElem?_eq_getElem hm', q])
  obtain ⟨R', k⟩ := R.listUpd (tk := s.toks) (l' := intL (l.eraseIdx j)) (ws := ws.eraseIdx j) hs upd_other (hL.upd (f := fun xs => xs.eraseIdxIfInBounds j) (erase_arr ws j (by omega))) (by have := hws.erase j; rw [intL, ← map_erase]; exact this)
  exact ⟨.none, (μ, _), R', by simp only [VRep], k, h⟩
theorem len_tup {l : List PV} {Q : PV → St → Prop} (hz : l.length ≤ 100000) (h : Q (.int l.length) st) : WN c VRep [.tup l] (fun vs => call (.builtin "len") vs) Q st := fun vs hid stk s ok R hv => by
  obtain ⟨v1, r1, rfl, h1, hv⟩ := hv.cons_inv
  rw [hv.nil_inv]
  simp only [VRep] at h1
  obtain ⟨a, ws, rfl, hT, hws⟩ := h1
  obtain ⟨n, e⟩ := hT
  have hlen := hws.length
  refine PyProof.Rows.len_tuple (items := ws.toArray) ⟨_, e, rfl, _, rfl⟩ (by simp; omega) ⟨.int l.length, st, R.toks _, ⟨s.toks + 1, ?_⟩, .refl _, h⟩
  simp [hlen]
theorem isi_tup {l : List PV} {Q : PV → St → Prop} (h : Q (.bool true) st) : WN c VRep [.tup l, .ty "tuple"] (fun vs => call (.builtin "isinstance") vs) Q st := fun vs hid stk s ok R hv => by
  obtain ⟨v1, r1, rfl, h1, hv⟩ := hv.cons_inv
  obtain ⟨v2, r2, rfl, h2, hv⟩ := hv.cons_inv
  rw [hv.nil_inv]
  simp only [VRep] at h1
  obtain ⟨a, ws, rfl, ⟨n, e⟩, hws⟩ := h1
  cases h2
  exact PySem.IsiPair.tuple_tuple e rfl ⟨.bool true, st, R, by simp only [VRep], .refl _, h⟩
noncomputable def isI (i : Int) : PV → Bool
  | .int k => k == i
  | _ => false
noncomputable def intNo : PV → Bool
  | .int _ => true
  | .none => true
  | _ => false
theorem in_gen {a : Addr} {l : List PV} {i : Int} {A : Around} {s : Shared} {hid stk} {base os₀} {t : Tok} (R : Rep base os₀ hid stk σ s) (hs : seqAt σ a = some l) (hl : ∀ p ∈ l, intNo p = true) : ∃ (ws : List Value) (e : Value → Bool), s.heap.IsList a ws.toArray ∧ (∀ y, y ∈ ws.toArray → EqAt A s y (.int i t) (e y)) ∧ ws.toArray.any e = l.any (isI i) := by
  obtain ⟨ws, hL, hws⟩ := R.seq hs
  refine ⟨ws, (fun y => match y with | .int k _ => k == i | _ => false), hL.isList, fun y hy => ?_, ?_⟩
  · obtain ⟨m, hm, rfl⟩ := List.getElem_of_mem (List.mem_toArray.mp hy)
    have hm' : m < l.length := by rw [← hws.length]; exact hm
    obtain ⟨v, hv, hr⟩ := hws.get m _ (List.getElem?_eq_getElem hm')
    rw [List.getElem?_eq_getElem hm] at hv
    cases Option.some.inj hv
    have := hl _ (List.getElem_mem hm')
    cases hq : l[m] with
    | int k => rw [hq] at hr; obtain ⟨u, e⟩ := hr; rw [e]; exact .int_int _ _ _ _
    | none => rw [hq] at hr; rw [show ws[m] = .none from hr]; exact .none_int _ _
    | _ => rw [hq] at this; cases this
  · rw [List.any_toArray]
    clear hs hl hL R
    induction l generalizing ws with
    | nil => rw [hws.nil_inv]; rfl
    | cons p l ih =>
      obtain ⟨v, r, rfl, h1, h2⟩ := hws.cons_inv
      simp only [List.any_cons]
      rw [ih r h2]
      congr 1
      cases p with
      | int k => obtain ⟨u, rfl⟩ := h1; rfl
      | none => cases h1; rfl
      | bool b => cases h1; rfl
      | str x u => cases h1; rfl
      | ref b => cases h1; rfl
      | ty n => cases h1; rfl
      | bi n => cases h1; rfl
      | tup q => simp only [VRep] at h1; obtain ⟨b, us, rfl, _⟩ := h1; rfl
theorem notin_list {a : Addr} {l : List PV} {i : Int} {Q : PV → St → Prop} (hs : seqAt σ a = some l) (hl : ∀ p ∈ l, intNo p = true) (h : Q (.bool (!l.any (isI i))) (μ, σ)) : W2 c VRep (.int i) (.ref a) (compareOp .NotIn) Q (μ, σ) := fun v u hid stk s ok R hv hu => by
  cases hu
  obtain ⟨t, rfl⟩ := hv
  obtain ⟨ws, e, h1, h2, h3⟩ := in_gen (A := c.A.in1) (t := t) (i := i) R hs hl
  refine notIn_listAt e h1 h2 ⟨.bool (!l.any (isI i)), (μ, σ), R, ?_, .refl _, h⟩
  simp only [VRep]
  rw [h3]
theorem call_max2 {a b : Int} {Q : PV → St → Prop} (hcalm : c.lv.calm = true) (h : Q (.int (if b > a then b else a)) (μ, σ)) : WN c VRep [.int a, .int b] (fun vs => call (.builtin "max") vs) Q (μ, σ) := fun vs hid stk s ok R hv => by
  obtain ⟨v1, r1, rfl, h1, hv⟩ := hv.cons_inv
  obtain ⟨v2, r2, rfl, h2, hv⟩ := hv.cons_inv
  rw [hv.nil_inv]
  obtain ⟨t, rfl⟩ := h1
  obtain ⟨u, rfl⟩ := h2
  refine wpAny_mono (wpAny_toks (E := PostX) (Q := fun v s' => ∃ h' tk, v = (if b > a then Value.int b u else .int a t) ∧ s' = { s with heap := h', toks := tk } ∧ ∀ b o, s.heap.get? b = some o → h'.get? b = some o) (max_two_ints (ok.handled hcalm) fun h' tk hk => ⟨h', tk, rfl, rfl, hk⟩)) (fun v s' hx => ?_) fun _ _ x => x.1
  obtain ⟨⟨h', tk, rfl, rfl, hk⟩, htk⟩ := hx
  refine ⟨.int (if b > a then b else a), (μ, σ), R.grow (s' := { s with heap := h', toks := tk }) hk rfl rfl htk, ?_, fun b vs ⟨n, e⟩ => ⟨n, hk _ _ e⟩, h⟩
  split <;> exact ⟨_, rfl⟩
/-- the items of a list of ints, their ways to stand -/
theorem ints_items {ws : List Value} {ns : List Int} (h : IntsAre ws ns) : ∃ xs : Array (Int × Tok), ws.toArray = intItems xs ∧ xs.toList.map (·.1) = ns := by
  obtain ⟨xs, e⟩ := h.allInts.items
  refine ⟨xs, e, ?_⟩
  rw [← nums_intItems, ← e]
  exact h.numsOf
theorem call_maxL {a : Addr} {ns : List Int} {Q : PV → St → Prop} (hcalm : c.lv.calm = true) (hs : seqAt σ a = some (intL ns)) (hne : 0 < ns.length) (h : ∀ m, m ∈ ns → (∀ x ∈ ns, x ≤ m) → Q (.int m) (μ, σ)) : WN c VRep [.ref a] (fun vs => call (.builtin "max") vs) Q (μ, σ) := fun vs hid stk s ok R hv => by
  obtain ⟨v1, r1, rfl, h1, hv⟩ := hv.cons_inv
  rw [hv.nil_inv]
  cases h1
  obtain ⟨ws, hL, hws⟩ := R.seq hs
  obtain ⟨xs, e1, e2⟩ := ints_items hws.intsAre
  have hl := hL.isList
  rw [e1] at hl
  have hxl : xs.size = ns.length := by rw [← e2]; simp
  refine wpAny_mono (wpAny_toks (E := PostX) (Q := fun v s' => ∃ h' tk t m, v = Value.int m t ∧ s' = { s with heap := h', toks := tk } ∧ (∀ b o, s.heap.get? b = some o → h'.get? b = some o) ∧ m ∈ ns ∧ ∀ x ∈ ns, x ≤ m)
    (max_intList (ok.handled hcalm) hl (by omega) fun v h' tk hv hk => ?_)) (fun v s' hx => ?_) fun _ _ x => x.1
  · obtain ⟨t, rfl⟩ := intItems_at hv
    obtain ⟨h1, h2⟩ := argBest_gt (numAt xs) (xs.size - 1)
    refine ⟨h', tk, t, _, rfl, rfl, hk, ?_, fun x hx => ?_⟩
    · rw [numAt_eq, e2]; exact PySem.getD_mem (by omega)
    · rw [← e2] at hx
      obtain ⟨j, hj, rfl⟩ := PySem.mem_getD hx
      rw [List.length_map, Array.length_toList] at hj
      rw [← numAt_eq]; exact h2 j (by omega)
  · obtain ⟨⟨h', tk, t, m, rfl, rfl, hk, hm, hall⟩, htk⟩ := hx
    exact ⟨.int m, (μ, σ), R.grow (s' := { s with heap := h', toks := tk }) hk rfl rfl htk, ⟨_, rfl⟩, fun b vs ⟨n, e⟩ => ⟨n, hk _ _ e⟩, h m hm hall⟩
theorem call_minL {a : Addr} {ns : List Int} {Q : PV → St → Prop} (hcalm : c.lv.calm = true) (hs : seqAt σ a = some (intL ns)) (hne : 0 < ns.length) (h : ∀ m, m ∈ ns → (∀ x ∈ ns, m ≤ x) → Q (.int m) (μ, σ)) : WN c VRep [.ref a] (fun vs => call (.builtin "min") vs) Q (μ, σ) := fun vs hid stk s ok R hv => by
  obtain ⟨v1, r1, rfl, h1, hv⟩ := hv.cons_inv
  rw [hv.nil_inv]
  cases h1
  obtain ⟨ws, hL, hws⟩ := R.seq hs
  obtain ⟨xs, e1, e2⟩ := ints_items hws.intsAre
  have hl := hL.isList
  rw [e1] at hl
  have hxl : xs.size = ns.length := by rw [← e2]; simp
  refine wpAny_mono (wpAny_toks (E := PostX) (Q := fun v s' => ∃ h' tk t m, v = Value.int m t ∧ s' = { s with heap := h', toks := tk } ∧ (∀ b o, s.heap.get? b = some o → h'.get? b = some o) ∧ m ∈ ns ∧ ∀ x ∈ ns, m ≤ x)
    (min_intList (ok.handled hcalm) hl (by omega) fun v h' tk hv hk => ?_)) (fun v s' hx => ?_) fun _ _ x => x.1
  · obtain ⟨t, rfl⟩ := intItems_at hv
    obtain ⟨h1, h2⟩ := argBest_lt (numAt xs) (xs.size - 1)
    refine ⟨h', tk, t, _, rfl, rfl, hk, ?_, fun x hx => ?_⟩
    · rw [numAt_eq, e2]; exact PySem.getD_mem (by omega)
    · rw [← e2] at hx
      obtain ⟨j, hj, rfl⟩ := PySem.mem_getD hx
      rw [List.length_map, Array.length_toList] at hj
      rw [← numAt_eq]; exact h2 j (by omega)
  · obtain ⟨⟨h', tk, t, m, rfl, rfl, hk, hm, hall⟩, htk⟩ := hx
    exact ⟨.int m, (μ, σ), R.grow (s' := { s with heap := h', toks := tk }) hk rfl rfl htk, ⟨_, rfl⟩, fun b vs ⟨n, e⟩ => ⟨n, hk _ _ e⟩, h m hm hall⟩
end
end Mine

end
section
open PySem PySem.W PyProof.Rows
set_option Elab.async false
set_option linter.unusedVariables false
namespace Mine
section
variable (key : Nat → Int)
variable {key}
end
end Mine
open PySem PySem.W PyProof.Rows PySem.Calls
set_option maxRecDepth 100000
namespace Mine

noncomputable def tupI (ns : List Int) : PV := .tup (intL ns)
noncomputable def TupAt (h : Heap) (v : Value) (ns : List Int) : Prop := ∃ a vs n, v = .ref a ∧ h.get? a = some { cls := .type "tuple", dict := none, data := .seq (List.toArray vs) n, slots := #[] } ∧ IntsAre vs ns
theorem tupAt_of {h : Heap} {v : Value} {q : List Int} (x : VRep h (tupI q) v) : TupAt h v q := by
  obtain ⟨a, vs, rfl, ⟨n, hn⟩, hv⟩ := x
  exact ⟨a, vs, n, rfl, hn, hv.intsAre⟩
theorem w_ff' {α : Type} {M : Model} {A : Around} {Q : α → Shared → Prop} {E : Value → Shared → Prop} {s : Shared} {c : Prop} [Decidable c] {a b : Sem α} (hc : ¬ c) (h : wpAny M A b Q E s) : wpAny M A (if c then a else b) Q E s := by rw [if_neg hc]; exact h
section
variable {prog : Program} {w : World} {A : Around} {E : Value → Shared → Prop} {s : Shared}
theorem katLex_ints {fin : Bool} {Q : Bool → Shared → Prop} : ∀ {vs us : List Value} {ns ms : List Int} (i : Nat), IntsAre vs ns → IntsAre us ms → ns.length = ms.length → fin = false → Q (lexI ns ms) s → KatLex prog w A true fin Q (vs.zip us) i s
  | _, _, _, _, i, .nil, .nil, _, hf, h => kat_nil (by rw [hf]; exact h)
  | _, _, _, _, i, .cons x t hv, .cons y u hu, hl, hf, h => by
    refine kat_cons (wpAny_eqBool_int (kat_go (fun e => kat_yes ?_) fun e => kat_no ?_))
    · have e' : x = y := by simpa using e
      refine katLex_ints (i + 1) hv hu (by simpa using hl) hf ?_
      rw [lexI, if_pos (by simp [e'])] at h; exact h
    · have e' : x ≠ y := by simpa using e
      rw [lexI, if_neg (by simp [e'])] at h
      by_cases hi : i = 0
      · subst hi; exact oneLt_int h
      · rw [show (true && i == 0) = false by simp [hi]]
        exact kat_one _ _ (PySem.P.lt_int h)
theorem pair_lt {x y : Value} {p q : List Int} {Q : Bool → Shared → Prop} (hx : TupAt s.heap x p) (hy : TupAt s.heap y q) (hl : p.length = q.length) (h : Q (lexI p q) s) : wpAny (model prog w) A (keyLt' (tuples' true) x y) Q E s := by
  obtain ⟨a, vs, n, rfl, ha, hv⟩ := hx
  obtain ⟨b, us, m, rfl, hb, hu⟩ := hy
  refine kat_lt ha rfl hb rfl (katLex_ints 0 hv hu hl ?_ h)
  have e1 := intsAre_len hv; have e2 := intsAre_len hu
  simp only [List.size_toArray]
  exact decide_eq_false (by omega)
theorem pairs_kind {vs : List Value} {ps : List (List Int)} {Q : SortKind → Shared → Prop} (hl : vs.length = ps.length) (hv : ∀ (i : Nat) v q, vs[i]? = some v → ps[i]? = some q → TupAt s.heap v q) (hw : ∀ q ∈ ps, q ≠ []) (h2 : 1 ≤ vs.length) (h : Q (tuples' true) s) : wpAny (model prog w) A (keyKind' vs.toArray) Q E s := by
  have tt : ∀ (vs : List Value) (ps : List (List Int)), vs.length = ps.length → (∀ (i : Nat) v q, vs[i]? = some v → ps[i]? = some q → TupAt s.heap v q) → (∀ q ∈ ps, q ≠ []) → ∃ fs, KatTups s.heap vs fs ∧ fs.length = vs.length ∧ ∀ v ∈ fs, Looks (model prog w) s.heap (typeOf v) (.type "int") := by
    intro vs
    induction vs with
    | nil => intro ps _ _ _; exact ⟨[], KatTups.nil, rfl, by simp⟩
    | cons v vs ih =>
      intro ps hl hv hw
      cases ps with
      | nil => simp at hl
      | cons q ps =>
        obtain ⟨a, ws, n, rfl, ha, hi⟩ := hv 0 v q rfl rfl
        cases hi with
        | nil => exact absurd rfl (hw _ (List.mem_cons_self ..))
        | cons x t hi =>
          obtain ⟨fs, f1, f2, f3⟩ := ih ps (by simpa using hl) (fun i v q a b => hv (i + 1) v q (by simpa using a) (by simpa using b)) fun q hq => hw q (List.mem_cons_of_mem _ hq)
          refine ⟨.int x t :: fs, KatTups.cons ha rfl rfl rfl f1, by simp [f2], fun v hv => ?_⟩
          rcases List.mem_cons.mp hv with rfl | hv
          · exact Looks.of_pure rfl
          · exact f3 v hv
  obtain ⟨fs, f1, f2, f3⟩ := tt vs ps hl hv hw
  exact kat_kind f1 (by omega) f3 (by decide) h
end
section
variable {c : Cx} {μ : Locals} {σ : AHeap}
end
end Mine

end
section
open PySem PySem.W PyProof.Rows
set_option Elab.async false
set_option linter.unusedVariables false
set_option linter.unusedSimpArgs false
set_option maxRecDepth 100000
namespace Mine
noncomputable abbrev SS := StateT SortSt Sem
noncomputable abbrev onRet {α β : Type} (o : Option α) (f : α → SS β) (g : SS β) : SS β := Break.runK.match_1 (fun _ => SS β) o f (fun _ => g)
noncomputable def gallop' : Bool → Keyed → Array Keyed → Nat → Nat → Nat → SS (Option Nat) := sortPriv% PySem.Builtin.gallop
noncomputable def setMinGallop' : Nat → SS Unit := sortPriv% PySem.Builtin.setMinGallop
noncomputable def mergeLo' : Array Keyed → Array Keyed → SS (Array Keyed) := sortPriv% PySem.Builtin.mergeLo
noncomputable def mergeHi' : Array Keyed → Array Keyed → SS (Array Keyed) := sortPriv% PySem.Builtin.mergeHi
theorem setMinGallop'_eq (g : Nat) : setMinGallop' g = modify fun s => SortSt.mk' (kindOf s) (arrOf s) (pendingOf s) g (failedOf s) := rfl
/-- is the item on this side -/
noncomputable def beyond (left : Bool) (key : Keyed) (arr : Array Keyed) (i : Nat) : SS (Option Bool) :=
  elem' arr i >>= fun x => if left = true then lt' x key else lt' key x >>= fun o => pure (o.map fun c => !c)
noncomputable abbrev GaC := Option (Option Nat) × Nat × Nat
/-- halving -/
noncomputable def gaFin (left : Bool) (key : Keyed) (arr : Array Keyed) (base n lo hi : Nat) : SS (Option Nat) :=
  forIn [0:n] ((none, lo, hi) : GaC) (fun _ c => if c.2.1 ≥ c.2.2 then pure (.done (none, c.2.1, c.2.2)) else beyond left key arr (base + (c.2.1 + (c.2.2 - c.2.1) / 2)) >>= fun o => match o with
    | some m => if m = true then pure (.yield (none, c.2.1 + (c.2.2 - c.2.1) / 2 + 1, c.2.2)) else pure (.yield (none, c.2.1, c.2.1 + (c.2.2 - c.2.1) / 2))
    | _ => pure (.done (some none, c.2.1, c.2.2))) >>= fun c => onRet c.1 (fun r => pure r) (pure (some c.2.2))
/-- a turn of the leaps: stop where the test says -/
noncomputable def gaLeap (left : Bool) (key : Keyed) (arr : Array Keyed) (at_ : Nat → Nat) (most : Nat) (stop : Bool → Bool) (c : GaC) : SS (ForInStep GaC) :=
  if c.2.2 ≥ most then pure (.done (none, c.2.1, c.2.2)) else beyond left key arr (at_ c.2.2) >>= fun o => match o with
    | some m => if stop m = true then pure (.done (none, c.2.1, c.2.2)) else pure (.yield (none, c.2.2, 2 * c.2.2 + 1))
    | _ => pure (.done (some none, c.2.1, c.2.2))
theorem gallop'_eq (left : Bool) (key : Keyed) (arr : Array Keyed) (base n hint : Nat) : gallop' left key arr base n hint = (beyond left key arr (base + hint) >>= fun o => match o with
    | some r => if r = true then forIn [0:n] ((none, 0, 1) : GaC) (fun _ c => gaLeap left key arr (fun k => base + (hint + k)) (n - hint) (fun b => !b) c) >>= fun c => onRet c.1 (fun r => pure r) (gaFin left key arr base n (hint + c.2.1 + 1) (hint + min c.2.2 (n - hint)))
        else forIn [0:n] ((none, 0, 1) : GaC) (fun _ c => gaLeap left key arr (fun k => base + (hint - k)) (hint + 1) (fun b => b) c) >>= fun c => onRet c.1 (fun r => pure r) (gaFin left key arr base n (hint + 1 - min c.2.2 (hint + 1)) (hint - c.2.1))
    | _ => pure none) := rfl
/-! sorting, whatever the comparisons say: the same items come out -/
section
variable {prog : Program} {w : World} {A : Around} {E : Value → Shared → Prop} {s : Shared} {a₀ : Array Keyed} {κ : SortKind}
noncomputable def CmpOk (prog : Program) (w : World) (A : Around) (s : Shared) (κ : SortKind) (a₀ : Array Keyed) : Prop :=
  ∀ x ∈ a₀.toList, ∀ y ∈ a₀.toList, ∃ b, ∀ (E : Value → Shared → Prop) (Q : Bool → Shared → Prop), Q b s → wpAny (model prog w) A (keyLt' κ x.1 y.1) Q E s
noncomputable def AllIn (a₀ a : Array Keyed) : Prop := ∀ x ∈ a.toList, x ∈ a₀.toList
theorem wpS_ite {α : Type} {c : Prop} [Decidable c] {x y : StateT SortSt Sem α} {Q : α → SortSt → Prop} {st : SortSt} (h1 : c → wpS (model prog w) A E s x Q st) (h2 : ¬ c → wpS (model prog w) A E s y Q st) : wpS (model prog w) A E s (if c then x else y) Q st := by
  by_cases h : c
  · rw [if_pos h]; exact h1 h
  · rw [if_neg h]; exact h2 h
theorem fr_lt (C : CmpOk prog w A s κ a₀) {x y : Keyed} {st : SortSt} {Q : Option Bool → SortSt → Prop} (hk : kindOf st = κ) (hx : x ∈ a₀.toList) (hy : y ∈ a₀.toList) (h : ∀ b, Q (some b) st) : wpS (model prog w) A E s (lt' x y) Q st := by
  rw [lt'_eq]
  refine wpS_bind (wpS_get ?_)
  rw [hk]
  obtain ⟨b, hb⟩ := C x hx y hy
  refine wpS_bind (wpS_lift (wpAny_attempt (hb _ _ ?_)))
  exact ⟨rfl, wpS_pure (h b)⟩
theorem fr_elem {a : Array Keyed} {i : Nat} {st : SortSt} {Q : Keyed → SortSt → Prop} (hi : i < a.size) (h : ∀ x, a[i]? = some x → x ∈ a.toList → Q x st) : wpS (model prog w) A E s (elem' a i) Q st := by
  rw [elem'_eq, Array.getElem?_eq_getElem hi]
  exact wpS_pure (h _ (Array.getElem?_eq_getElem hi) (by simp))
theorem fr_beyond (C : CmpOk prog w A s κ a₀) {left : Bool} {key : Keyed} {arr : Array Keyed} {i : Nat} {st : SortSt} {Q : Option Bool → SortSt → Prop} (hk : kindOf st = κ) (hx : key ∈ a₀.toList) (ha : AllIn a₀ arr) (hi : i < arr.size) (h : ∀ b, Q (some b) st) :
    wpS (model prog w) A E s (beyond left key arr i) Q st := by
  unfold beyond
  refine wpS_bind (fr_elem hi fun x _ hm => wpS_ite (fun _ => fr_lt C hk (ha x hm) hx h) (fun _ => wpS_bind (fr_lt C hk hx (ha x hm) fun b => wpS_pure (h _))))
section
variable {left : Bool} {key : Keyed} {arr : Array Keyed} {base n : Nat} {st : SortSt}
theorem fr_gaFin (C : CmpOk prog w A s κ a₀) {Q : Option Nat → SortSt → Prop} {lo hi : Nat} (hk : kindOf st = κ) (hx : key ∈ a₀.toList) (ha : AllIn a₀ arr) (hb : base + n ≤ arr.size) (hhi : hi ≤ n)
    (h : ∀ k ≤ n, Q (some k) st) : wpS (model prog w) A E s (gaFin left key arr base n lo hi) Q st := by
  unfold gaFin
  refine wpS_bind (wpS_mono (wpS_forRange (I := fun _ c st' => st' = st ∧ c.1 = none ∧ c.2.2 ≤ n) (Q := fun c st' => st' = st ∧ c.1 = none ∧ c.2.2 ≤ n) ?_ (fun _ _ x => x) ⟨rfl, rfl, hhi⟩) ?_)
  · rintro i ⟨_, lo, hi⟩ _ _ _ ⟨rfl, rfl, hn⟩
    dsimp only at hn
    refine wpS_ite (fun _ => wpS_pure ⟨rfl, rfl, hn⟩) (fun hge => ?_)
    dsimp only at hge
    have hm : lo + (hi - lo) / 2 < hi := by omega
    refine wpS_bind (fr_beyond C hk hx ha (Nat.lt_of_lt_of_le (Nat.add_lt_add_left (Nat.lt_of_lt_of_le hm hn) base) hb) fun b => ?_)
    exact wpS_ite (fun _ => wpS_pure ⟨rfl, rfl, hn⟩) (fun _ => wpS_pure ⟨rfl, rfl, Nat.le_trans (Nat.le_of_lt hm) hn⟩)
  · rintro ⟨_, lo, hi⟩ _ ⟨rfl, rfl, hn⟩
    exact wpS_pure (h _ hn)
theorem fr_gaLeap (C : CmpOk prog w A s κ a₀) {at_ : Nat → Nat} {most i : Nat} {stop : Bool → Bool} {c : GaC} (hk : kindOf st = κ) (hx : key ∈ a₀.toList) (ha : AllIn a₀ arr) (hat : ∀ k < most, at_ k < arr.size) :
    wpS (model prog w) A E s (gaLeap left key arr at_ most stop c) (fun r st' => match r with | .done c' => st' = st ∧ c'.1 = none | .yield c' => st' = st ∧ c'.1 = none) st := by
  unfold gaLeap
  refine wpS_ite (fun _ => wpS_pure ⟨rfl, rfl⟩) (fun hge => ?_)
  refine wpS_bind (fr_beyond C hk hx ha (hat _ (Nat.lt_of_not_le hge)) fun b => ?_)
  exact wpS_ite (fun _ => wpS_pure ⟨rfl, rfl⟩) (fun _ => wpS_pure ⟨rfl, rfl⟩)
theorem fr_gallop (C : CmpOk prog w A s κ a₀) {hint : Nat} {Q : Option Nat → SortSt → Prop} (hk : kindOf st = κ) (hx : key ∈ a₀.toList) (ha : AllIn a₀ arr) (hh : hint < n) (hb : base + n ≤ arr.size)
    (h : ∀ k ≤ n, Q (some k) st) : wpS (model prog w) A E s (gallop' left key arr base n hint) Q st := by
  rw [gallop'_eq]
  have in1 : ∀ k, k < n → base + k < arr.size := fun k hk => Nat.lt_of_lt_of_le (Nat.add_lt_add_left hk base) hb
  refine wpS_bind (fr_beyond C hk hx ha (in1 _ hh) fun b => ?_)
  refine wpS_ite (fun _ => ?_) (fun _ => ?_)
  · refine wpS_bind (wpS_mono (wpS_forRange (I := fun _ c st' => st' = st ∧ c.1 = none) (Q := fun c st' => st' = st ∧ c.1 = none) ?_ (fun _ _ x => x) ⟨rfl, rfl⟩) ?_)
    · rintro i c st2 _ _ ⟨rfl, _⟩
      exact wpS_mono (fr_gaLeap C (i := i) hk hx ha fun k hk => in1 _ (by omega)) fun r st' x => by cases r <;> exact x
    · rintro ⟨_, lo, ofs⟩ st2 ⟨rfl, rfl⟩
      exact fr_gaFin (lo := hint + lo + 1) (hi := hint + min ofs (n - hint)) C hk hx ha hb (by omega) h
  · refine wpS_bind (wpS_mono (wpS_forRange (I := fun _ c st' => st' = st ∧ c.1 = none) (Q := fun c st' => st' = st ∧ c.1 = none) ?_ (fun _ _ x => x) ⟨rfl, rfl⟩) ?_)
    · rintro i c st2 _ _ ⟨rfl, _⟩
      exact wpS_mono (fr_gaLeap C (i := i) hk hx ha fun k hk => in1 _ (by omega)) fun r st' x => by cases r <;> exact x
    · rintro ⟨_, lo, ofs⟩ st2 ⟨rfl, rfl⟩
      exact fr_gaFin (lo := hint + 1 - min ofs (hint + 1)) (hi := hint - lo) C hk hx ha hb (by omega) h
end
end
end Mine

end
section
open PySem PySem.W PyProof.Rows PySem.Calls
set_option Elab.async false
set_option linter.unusedVariables false
set_option linter.unusedSimpArgs false
set_option maxRecDepth 100000
namespace Mine
section
variable {prog : Program} {w : World} {A : Around} {E : Value → Shared → Prop} {s : Shared} {a₀ : Array Keyed} {κ : SortKind}
noncomputable abbrev StepQ {β : Type} (I : Nat → β → SortSt → Prop) (Q : β → SortSt → Prop) (i : Nat) : ForInStep β → SortSt → Prop
  | .done c, st => Q c st
  | .yield c, st => I (i + 1) c st
theorem wpS_forR {β : Type} {a b : Nat} {f : Nat → β → StateT SortSt Sem (ForInStep β)} (I : Nat → β → SortSt → Prop) {Q : β → SortSt → Prop}
    (hstep : ∀ i c st, a ≤ i → i < b → I i c st → wpS (model prog w) A E s (f i c) (StepQ I Q i) st)
    (hend : ∀ c st, I (max a b) c st → Q c st) {c : β} {st : SortSt} (h : I a c st) : wpS (model prog w) A E s (forIn [a:b] c f) Q st :=
  wpS_forRange I (fun i c st h1 h2 h3 => wpS_mono (hstep i c st h1 h2 h3) fun r st' x => by cases r <;> exact x) hend h
/-- nothing but the gallop's bound changes -/
structure Sm (st st' : SortSt) : Prop where
  kind : kindOf st' = kindOf st
  arr : arrOf st' = arrOf st
  pend : pendingOf st' = pendingOf st
  fail : failedOf st' = failedOf st
theorem Sm.refl (st : SortSt) : Sm st st := ⟨rfl, rfl, rfl, rfl⟩
theorem fr_setMin {g : Nat} {st st' : SortSt} {Q : Unit → SortSt → Prop} (H : Sm st st') (h : ∀ st'', Sm st st'' → Q () st'') : wpS (model prog w) A E s (setMinGallop' g) Q st' := by
  rw [setMinGallop'_eq]
  exact wpS_modify (h _ ⟨H.kind, H.arr, H.pend, H.fail⟩)
theorem ext_list (a : Array Keyed) (i j : Nat) : (a.extract i j).toList = (a.toList.drop i).take (j - i) := by
  rw [Array.toList_extract]
structure LoI (a b out : Array Keyed) (ia ib : Nat) : Prop where
  perm : out.toList.Perm (a.toList.take ia ++ b.toList.take ib)
  la : ia + 1 < a.size
  lb : ib < b.size
theorem lo_done {a b : Array Keyed} {out : List Keyed} {ia ib : Nat} (h : out.Perm (a.toList.take ia ++ b.toList.take ib)) : (out ++ a.toList.drop ia ++ b.toList.drop ib).Perm (a.toList ++ b.toList) := by
  have e1 := List.take_append_drop ia a.toList
  have e2 := List.take_append_drop ib b.toList
  generalize a.toList.take ia = p, a.toList.drop ia = q, b.toList.take ib = r, b.toList.drop ib = t at *
  rw [← e1, ← e2]
  refine ((h.append_right q).append_right t).trans ?_
  simp only [List.append_assoc]
  refine List.Perm.append_left p ?_
  rw [← List.append_assoc, ← List.append_assoc]
  exact List.Perm.append_right t List.perm_append_comm
theorem lo_done2 {a b : Array Keyed} {out : List Keyed} {ia ib : Nat} (h : out.Perm (a.toList.take ia ++ b.toList.take ib)) : (out ++ b.toList.drop ib ++ a.toList.drop ia).Perm (a.toList ++ b.toList) := by
  refine List.Perm.trans ?_ (lo_done h)
  rw [List.append_assoc, List.append_assoc]
  exact List.Perm.append_left out List.perm_append_comm
theorem ext_all (a : Array Keyed) (i : Nat) : (a.extract i a.size).toList = a.toList.drop i := by
  rw [ext_list, List.take_of_length_le (by simp)]
theorem done_lo {a b out : Array Keyed} {ia ib : Nat} (h : out.toList.Perm (a.toList.take ia ++ b.toList.take ib)) : (out ++ a.extract ia a.size ++ b.extract ib b.size).toList.Perm (a.toList ++ b.toList) := by
  rw [Array.toList_append, Array.toList_append, ext_all, ext_all]; exact lo_done h
theorem done_lo2 {a b out : Array Keyed} {ia ib : Nat} (h : out.toList.Perm (a.toList.take ia ++ b.toList.take ib)) : (out ++ b.extract ib b.size ++ a.extract ia a.size).toList.Perm (a.toList ++ b.toList) := by
  rw [Array.toList_append, Array.toList_append, ext_all, ext_all]; exact lo_done2 h
theorem lo_pa {a b out : Array Keyed} {ia ib k : Nat} (h : out.toList.Perm (a.toList.take ia ++ b.toList.take ib)) : (out ++ a.extract ia (ia + k)).toList.Perm (a.toList.take (ia + k) ++ b.toList.take ib) := by
  rw [Array.toList_append, ext_list, Nat.add_sub_cancel_left, List.take_add]
  refine (h.append_right _).trans ?_
  rw [List.append_assoc, List.append_assoc]
  exact List.Perm.append_left _ List.perm_append_comm
theorem lo_pb {a b out : Array Keyed} {ia ib k : Nat} (h : out.toList.Perm (a.toList.take ia ++ b.toList.take ib)) : (out ++ b.extract ib (ib + k)).toList.Perm (a.toList.take ia ++ b.toList.take (ib + k)) := by
  rw [Array.toList_append, ext_list, Nat.add_sub_cancel_left, List.take_add, ← List.append_assoc]
  exact h.append_right _
theorem lo_pa1 {a b out : Array Keyed} {ia ib : Nat} {x : Keyed} (h : out.toList.Perm (a.toList.take ia ++ b.toList.take ib)) (e : a[ia]? = some x) : (out.push x).toList.Perm (a.toList.take (ia + 1) ++ b.toList.take ib) := by
  rw [Array.toList_push, List.take_add_one, Array.getElem?_toList, e]
  refine (h.append_right _).trans ?_
  rw [List.append_assoc, List.append_assoc]
  exact List.Perm.append_left _ List.perm_append_comm
theorem lo_pb1 {a b out : Array Keyed} {ia ib : Nat} {x : Keyed} (h : out.toList.Perm (a.toList.take ia ++ b.toList.take ib)) (e : b[ib]? = some x) : (out.push x).toList.Perm (a.toList.take ia ++ b.toList.take (ib + 1)) := by
  rw [Array.toList_push, List.take_add_one, Array.getElem?_toList, e, ← List.append_assoc]
  exact h.append_right _
noncomputable def LoQ (a b : Array Keyed) (st : SortSt) (X : Nat) {R : Type} (c : Option (Array Keyed) × Array Keyed × Nat × Nat × R) (st' : SortSt) : Prop :=
  Sm st st' ∧ match c.1 with
    | some r => r.toList.Perm (a.toList ++ b.toList)
    | none => LoI a b c.2.1 c.2.2.1 c.2.2.2.1 ∧ X ≤ c.2.2.1 + c.2.2.2.1
noncomputable abbrev LoC := Option (Array Keyed) × Array Keyed × Nat × Nat × Nat × Nat
noncomputable abbrev LoG := Option (Array Keyed) × Array Keyed × Nat × Nat × Nat × Nat × Nat
noncomputable abbrev LoO := Option (Array Keyed) × Array Keyed × Nat × Nat × Nat
noncomputable def loD (a b out : Array Keyed) (ia ib : Nat) : Array Keyed := out ++ a.extract ia a.size ++ b.extract ib b.size
noncomputable def loA (a b out : Array Keyed) (ia ib : Nat) : Array Keyed := out ++ b.extract ib b.size ++ a.extract ia a.size
noncomputable def loOne (a b : Array Keyed) (mg : Nat) (out : Array Keyed) (ia ib ac bc : Nat) : SS (ForInStep LoC) :=
  elem' b ib >>= fun x => elem' a ia >>= fun y => lt' x y >>= fun o => match o with
  | some bw => if bw = true then elem' b ib >>= fun x => if (ib + 1 == b.size) = true then pure (.done (some (loD a b (out.push x) ia (ib + 1)), out.push x, ia, ib + 1, 0, bc + 1))
        else if bc + 1 ≥ mg then pure (.done (none, out.push x, ia, ib + 1, 0, bc + 1)) else pure (.yield (none, out.push x, ia, ib + 1, 0, bc + 1))
      else elem' a ia >>= fun x => if (ia + 1 + 1 == a.size) = true then pure (.done (some (loA a b (out.push x) (ia + 1) ib), out.push x, ia + 1, ib, ac + 1, 0))
        else if ac + 1 ≥ mg then pure (.done (none, out.push x, ia + 1, ib, ac + 1, 0)) else pure (.yield (none, out.push x, ia + 1, ib, ac + 1, 0))
  | _ => pure (.done (some (loD a b out ia ib), out, ia, ib, ac, bc))
noncomputable def loC3 (a b : Array Keyed) (mg : Nat) (out : Array Keyed) (ia ib ac bc : Nat) : SS (ForInStep LoG) :=
  elem' a ia >>= fun y => if (ia + 1 + 1 == a.size) = true then pure (.done (some (loA a b (out.push y) (ia + 1) ib), out.push y, ia + 1, ib, mg, ac, bc))
    else if (decide (ac < 7) && decide (bc < 7)) = true then pure (.done (none, out.push y, ia + 1, ib, mg, ac, bc)) else pure (.yield (none, out.push y, ia + 1, ib, mg, ac, bc))
noncomputable def loC2 (a b : Array Keyed) (mg : Nat) (out : Array Keyed) (ia ib ac bc : Nat) : SS (ForInStep LoG) :=
  elem' b ib >>= fun x => if (ib + 1 == b.size) = true then pure (.done (some (loD a b (out.push x) ia (ib + 1)), out.push x, ia, ib + 1, mg, ac, bc))
    else elem' a ia >>= fun y => gallop' true y b (ib + 1) (b.size - (ib + 1)) 0 >>= fun o => match o with
      | some k => if k > 0 then (if (ib + 1 + k == b.size) = true then pure (.done (some (loD a b (out.push x ++ b.extract (ib + 1) (ib + 1 + k)) ia (ib + 1 + k)), out.push x ++ b.extract (ib + 1) (ib + 1 + k), ia, ib + 1 + k, mg, ac, k))
          else loC3 a b mg (out.push x ++ b.extract (ib + 1) (ib + 1 + k)) ia (ib + 1 + k) ac k) else loC3 a b mg (out.push x) ia (ib + 1) ac k
      | _ => pure (.done (some (loD a b (out.push x) ia (ib + 1)), out.push x, ia, ib + 1, mg, ac, bc))
noncomputable def loC1 (a b : Array Keyed) (mg : Nat) (out : Array Keyed) (ia ib ac bc : Nat) : SS (ForInStep LoG) :=
  setMinGallop' mg >>= fun _ => elem' b ib >>= fun x => gallop' false x a ia (a.size - ia) 0 >>= fun o => match o with
  | some k => if k > 0 then (if (ia + k + 1 == a.size) = true then pure (.done (some (loA a b (out ++ a.extract ia (ia + k)) (ia + k) ib), out ++ a.extract ia (ia + k), ia + k, ib, mg, k, bc))
      else if (ia + k == a.size) = true then pure (.done (some (loD a b (out ++ a.extract ia (ia + k)) (ia + k) ib), out ++ a.extract ia (ia + k), ia + k, ib, mg, k, bc))
      else loC2 a b mg (out ++ a.extract ia (ia + k)) (ia + k) ib k bc) else loC2 a b mg out ia ib k bc
  | _ => pure (.done (some (loD a b out ia ib), out, ia, ib, mg, ac, bc))
noncomputable def loOut (a b : Array Keyed) (mg : Nat) (out : Array Keyed) (ia ib : Nat) : SS (ForInStep LoO) :=
  forIn [0:a.size + b.size] ((none, out, ia, ib, 0, 0) : LoC) (fun _ c => loOne a b mg c.2.1 c.2.2.1 c.2.2.2.1 c.2.2.2.2.1 c.2.2.2.2.2) >>= fun c => onRet c.1 (fun r => pure (.done (some r, c.2.1, c.2.2.1, c.2.2.2.1, mg))) (liftM (rule "list.sort.gallop") >>= fun _ =>
    forIn [0:a.size + b.size] ((none, c.2.1, c.2.2.1, c.2.2.2.1, mg + 1, c.2.2.2.2.1, c.2.2.2.2.2) : LoG) (fun _ c => if c.2.2.2.2.1 > 1 then loC1 a b (c.2.2.2.2.1 - 1) c.2.1 c.2.2.1 c.2.2.2.1 c.2.2.2.2.2.1 c.2.2.2.2.2.2 else loC1 a b c.2.2.2.2.1 c.2.1 c.2.2.1 c.2.2.2.1 c.2.2.2.2.2.1 c.2.2.2.2.2.2) >>= fun c => onRet c.1 (fun r => pure (.done (some r, c.2.1, c.2.2.1, c.2.2.2.1, c.2.2.2.2.1)))
      (setMinGallop' (c.2.2.2.2.1 + 1) >>= fun _ => pure (.yield (none, c.2.1, c.2.2.1, c.2.2.2.1, c.2.2.2.2.1 + 1))))
theorem mergeLo'_eq (a b : Array Keyed) : mergeLo' a b = (liftM (rule "list.sort.merge-lo") >>= fun _ => elem' b 0 >>= fun x => if (1 == b.size) = true then pure (loD a b #[x] 0 1)
    else if (0 + 1 == a.size) = true then pure (loA a b #[x] 0 1) else get >>= fun s => forIn [0:a.size + b.size] ((none, #[x], 0, 1, gallopOf s) : LoO) (fun _ c => loOut a b c.2.2.2.2 c.2.1 c.2.2.1 c.2.2.2.1) >>= fun c => onRet c.1 (fun r => pure r) (liftM (unsupported "internal:list.sort.merge-bound"))) := rfl
structure MC (prog : Program) (w : World) (A : Around) (s : Shared) (κ : SortKind) (a₀ a b : Array Keyed) (st : SortSt) : Prop where
  C : CmpOk prog w A s κ a₀
  k : kindOf st = κ
  ha : AllIn a₀ a
  hb : AllIn a₀ b
noncomputable abbrev LoI1 (a b : Array Keyed) (st : SortSt) (X : Nat) {R : Type} (_ : Nat) (c : Option (Array Keyed) × Array Keyed × Nat × Nat × R) (st' : SortSt) : Prop := c.1 = none ∧ LoQ a b st X c st'
noncomputable def LoJ (a b : Array Keyed) (st : SortSt) (X : Nat) {R : Type} (i : Nat) (c : Option (Array Keyed) × Array Keyed × Nat × Nat × R) (st' : SortSt) : Prop := c.1 = none ∧ LoQ a b st (X + min i 1) c st'
theorem ne_lt {x n : Nat} (h : x < n) (g : ¬ (x + 1 == n) = true) : x + 1 < n := Nat.lt_of_le_of_ne h fun e => g (by rw [e]; simp)
theorem le_add1 {X x y : Nat} (h : X ≤ x + y) : X ≤ x + 1 + y := by omega
section
variable {a b out : Array Keyed} {st st2 : SortSt} {X ia ib ac bc mg i : Nat}
theorem fr_loOne (M : MC prog w A s κ a₀ a b st) (H : Sm st st2) (I : LoI a b out ia ib) (hp : X ≤ ia + ib) : wpS (model prog w) A E s (loOne a b mg out ia ib ac bc) (StepQ (LoI1 a b st X) (LoQ a b st X) i) st2 := by
  unfold loOne
  refine wpS_bind (fr_elem I.lb fun xb eb mb => wpS_bind (fr_elem (Nat.lt_of_succ_lt I.la) fun xa ea ma => wpS_bind (fr_lt M.C (H.kind.trans M.k) (M.hb _ mb) (M.ha _ ma) fun bw => ?_)))
  refine wpS_ite (fun _ => wpS_bind (fr_elem I.lb fun x e _ => ?_)) (fun _ => wpS_bind (fr_elem (Nat.lt_of_succ_lt I.la) fun x e _ => ?_))
  · have p := lo_pb1 I.perm e
    refine wpS_ite (fun _ => wpS_pure ⟨H, done_lo p⟩) (fun g => ?_)
    exact wpS_ite (fun _ => wpS_pure ⟨H, ⟨p, I.la, ne_lt I.lb g⟩, Nat.le_succ_of_le hp⟩) (fun _ => wpS_pure ⟨rfl, H, ⟨p, I.la, ne_lt I.lb g⟩, Nat.le_succ_of_le hp⟩)
  · have p := lo_pa1 I.perm e
    refine wpS_ite (fun _ => wpS_pure ⟨H, done_lo2 p⟩) (fun g => ?_)
    exact wpS_ite (fun _ => wpS_pure ⟨H, ⟨p, ne_lt I.la g, I.lb⟩, le_add1 hp⟩) (fun _ => wpS_pure ⟨rfl, H, ⟨p, ne_lt I.la g, I.lb⟩, le_add1 hp⟩)
theorem fr_loC3 (M : MC prog w A s κ a₀ a b st) (H : Sm st st2) (I : LoI a b out ia ib) (hp : X ≤ ia + ib) : wpS (model prog w) A E s (loC3 a b mg out ia ib ac bc) (StepQ (LoJ a b st X) (LoQ a b st (X + 1)) i) st2 := by
  unfold loC3
  refine wpS_bind (fr_elem (Nat.lt_of_succ_lt I.la) fun x e _ => ?_)
  have p := lo_pa1 I.perm e
  have h1 : X + 1 ≤ ia + 1 + ib := by omega
  have h2 : X + min (i + 1) 1 ≤ ia + 1 + ib := by omega
  refine wpS_ite (fun _ => wpS_pure ⟨H, done_lo2 p⟩) (fun g => ?_)
  exact wpS_ite (fun _ => wpS_pure ⟨H, ⟨p, ne_lt I.la g, I.lb⟩, h1⟩) (fun _ => wpS_pure ⟨rfl, H, ⟨p, ne_lt I.la g, I.lb⟩, h2⟩)
theorem fr_loC2 (M : MC prog w A s κ a₀ a b st) (H : Sm st st2) (I : LoI a b out ia ib) (hp : X ≤ ia + ib) : wpS (model prog w) A E s (loC2 a b mg out ia ib ac bc) (StepQ (LoJ a b st X) (LoQ a b st (X + 1)) i) st2 := by
  unfold loC2
  refine wpS_bind (fr_elem I.lb fun x e _ => ?_)
  have p := lo_pb1 I.perm e
  refine wpS_ite (fun _ => wpS_pure ⟨H, done_lo p⟩) (fun g => ?_)
  have hb := ne_lt I.lb g
  have h0 : 0 < b.size - (ib + 1) := Nat.sub_pos_of_lt hb
  have h1 : ib + 1 + (b.size - (ib + 1)) = b.size := Nat.add_sub_of_le (Nat.le_of_lt hb)
  refine wpS_bind (fr_elem (Nat.lt_of_succ_lt I.la) fun y ey my => wpS_bind (fr_gallop M.C (H.kind.trans M.k) (M.ha _ my) M.hb h0 (Nat.le_of_eq h1) fun k hk => ?_))
  have hkb : ib + 1 + k ≤ b.size := h1 ▸ Nat.add_le_add_left hk _
  refine wpS_ite (fun _ => wpS_ite (fun _ => wpS_pure ⟨H, done_lo (lo_pb p)⟩) (fun g2 => ?_)) (fun _ => fr_loC3 M H ⟨p, I.la, hb⟩ (Nat.le_succ_of_le hp))
  refine fr_loC3 M H ⟨lo_pb p, I.la, Nat.lt_of_le_of_ne hkb fun q => g2 (by rw [q]; simp)⟩ ?_
  omega
theorem fr_loC1 (M : MC prog w A s κ a₀ a b st) (H : Sm st st2) (I : LoI a b out ia ib) (hp : X ≤ ia + ib) : wpS (model prog w) A E s (loC1 a b mg out ia ib ac bc) (StepQ (LoJ a b st X) (LoQ a b st (X + 1)) i) st2 := by
  unfold loC1
  have hla := Nat.lt_of_succ_lt I.la
  have h1 : ia + (a.size - ia) = a.size := Nat.add_sub_of_le (Nat.le_of_lt hla)
  refine wpS_bind (fr_setMin H fun st4 H4 => wpS_bind (fr_elem I.lb fun xb eb mb => wpS_bind (fr_gallop M.C (H4.kind.trans M.k) (M.hb _ mb) M.ha (Nat.sub_pos_of_lt hla) (Nat.le_of_eq h1) fun k hk => ?_)))
  have hka : ia + k ≤ a.size := h1 ▸ Nat.add_le_add_left hk _
  refine wpS_ite (fun _ => ?_) (fun _ => fr_loC2 M H4 I hp)
  refine wpS_ite (fun _ => wpS_pure ⟨H4, done_lo2 (lo_pa I.perm)⟩) (fun g1 => wpS_ite (fun _ => wpS_pure ⟨H4, done_lo (lo_pa I.perm)⟩) (fun g2 => ?_))
  have g2 : ia + k < a.size := Nat.lt_of_le_of_ne hka fun q => g2 (by rw [q]; simp)
  refine fr_loC2 M H4 ⟨lo_pa I.perm, ne_lt g2 g1, I.lb⟩ ?_
  omega
theorem fr_loOut (M : MC prog w A s κ a₀ a b st) (H : Sm st st2) (I : LoI a b out ia ib) (hp : X ≤ ia + ib) : wpS (model prog w) A E s (loOut a b mg out ia ib) (StepQ (fun i c st' => c.1 = none ∧ LoQ a b st i c st') (LoQ a b st (a.size + b.size)) X) st2 := by
  unfold loOut
  refine wpS_bind (wpS_mono (wpS_forR (I := LoI1 a b st X) (Q := LoQ a b st X) ?_ (fun c st' x => x.2) ⟨rfl, H, I, hp⟩) ?_)
  · rintro i ⟨_, out, ia, ib, ac, bc⟩ st3 _ _ ⟨rfl, H3, I3, hp3⟩
    exact fr_loOne M H3 I3 hp3
  · rintro ⟨r, out, ia, ib, ac, bc⟩ st3 ⟨H3, hr⟩
    cases r with
    | some r => exact wpS_pure ⟨H3, hr⟩
    | none =>
      obtain ⟨I3, hp3⟩ := hr
      refine wpS_bind (wpS_lift (wpAny_rule ⟨rfl, ?_⟩))
      refine wpS_bind (wpS_mono (wpS_forR (I := LoJ a b st X) (Q := LoQ a b st (X + 1)) ?_ ?_ ⟨rfl, H3, I3, hp3⟩) ?_)
      · rintro i ⟨_, out, ia, ib, mg, ac, bc⟩ st4 _ _ ⟨rfl, H4, I4, hp4⟩
        have hp5 := Nat.le_trans (Nat.le_add_right X _) hp4
        exact wpS_ite (fun _ => fr_loC1 M H4 I4 hp5) (fun _ => fr_loC1 M H4 I4 hp5)
      · rintro ⟨r, out, ia, ib, mg, ac, bc⟩ st4 ⟨_, H4⟩
        have h1 := I.lb
        rw [show min (max 0 (a.size + b.size)) 1 = 1 by omega] at H4
        exact H4
      · rintro ⟨r, out, ia, ib, mg, ac, bc⟩ st4 ⟨H4, hr⟩
        cases r with
        | some r => exact wpS_pure ⟨H4, hr⟩
        | none => exact wpS_bind (fr_setMin H4 fun st5 H5 => wpS_pure ⟨rfl, H5, hr⟩)
end
theorem fr_mergeLo {a b : Array Keyed} {st : SortSt} {Q : Array Keyed → SortSt → Prop} (M : MC prog w A s κ a₀ a b st) (h1 : 0 < a.size) (h2 : 0 < b.size)
    (h : ∀ m st', Sm st st' → m.toList.Perm (a.toList ++ b.toList) → Q m st') : wpS (model prog w) A E s (mergeLo' a b) Q st := by
  rw [mergeLo'_eq]
  refine wpS_bind (wpS_lift (wpAny_rule ⟨rfl, ?_⟩))
  refine wpS_bind (fr_elem h2 fun x0 e0 _ => ?_)
  have p0 : (#[x0] : Array Keyed).toList.Perm (a.toList.take 0 ++ b.toList.take 1) := by
    rw [List.take_add_one, Array.getElem?_toList, e0]; simp
  refine wpS_ite (fun _ => wpS_pure (h _ _ (.refl _) (done_lo p0))) (fun g1 => ?_)
  refine wpS_ite (fun _ => wpS_pure (h _ _ (.refl _) (done_lo2 p0))) (fun g2 => ?_)
  refine wpS_bind (wpS_get ?_)
  refine wpS_bind (wpS_mono (wpS_forR (I := fun i c st' => c.1 = none ∧ LoQ a b st i c st') (Q := LoQ a b st (a.size + b.size)) ?_ ?_ ⟨rfl, .refl _, ⟨p0, ne_lt h1 g2, ne_lt h2 g1⟩, Nat.zero_le _⟩) ?_)
  · rintro X ⟨_, out, ia, ib, mg⟩ st1 _ _ ⟨rfl, H1, I1, hp1⟩
    exact fr_loOut M H1 I1 hp1
  · rintro ⟨r, out, ia, ib, mg⟩ st1 ⟨rfl, H⟩
    rw [Nat.max_eq_right (Nat.zero_le _)] at H
    exact H
  · rintro ⟨r, out, ia, ib, mg⟩ st1 ⟨H, hr⟩
    cases r with
    | some r => exact wpS_pure (h _ _ H hr)
    | none =>
      obtain ⟨I2, hp2⟩ := hr
      exact absurd (Nat.add_lt_add (Nat.lt_of_succ_lt I2.la) I2.lb) (Nat.not_lt.mpr hp2)
end
end Mine

end
section
open PySem PySem.W PyProof.Rows PySem.Calls
set_option Elab.async false
set_option linter.unusedVariables false
set_option linter.unusedSimpArgs false
set_option maxRecDepth 100000
namespace Mine
section
variable {prog : Program} {w : World} {A : Around} {E : Value → Shared → Prop} {s : Shared} {a₀ : Array Keyed} {κ : SortKind}
structure HiI (a b out : Array Keyed) (na nb : Nat) : Prop where
  perm : out.toList.Perm (a.toList.drop na ++ b.toList.drop nb)
  la : 1 ≤ na
  lb : 2 ≤ nb
  ua : na ≤ a.size
  ub : nb ≤ b.size
theorem ext_fst (a : Array Keyed) (n : Nat) : (a.extract 0 n).toList = a.toList.take n := by rw [ext_list]; rfl
theorem hi_cat {a b : List Keyed} {out : List Keyed} {na nb : Nat} (h : out.Perm (a.drop na ++ b.drop nb)) : (a.take na ++ b.take nb ++ out.reverse).Perm (a ++ b) := by
  have e1 := List.take_append_drop na a
  have e2 := List.take_append_drop nb b
  generalize a.take na = p, a.drop na = q, b.take nb = r, b.drop nb = t at *
  rw [← e1, ← e2]
  refine (((List.reverse_perm out).trans h).append_left (p ++ r)).trans ?_
  simp only [List.append_assoc]
  refine List.Perm.append_left p ?_
  rw [← List.append_assoc, ← List.append_assoc]
  exact List.Perm.append_right t List.perm_append_comm
theorem done_hi {a b out : Array Keyed} {na nb : Nat} (h : out.toList.Perm (a.toList.drop na ++ b.toList.drop nb)) : (a.extract 0 na ++ b.extract 0 nb ++ out.reverse).toList.Perm (a.toList ++ b.toList) := by
  rw [Array.toList_append, Array.toList_append, ext_fst, ext_fst, Array.toList_reverse]; exact hi_cat h
theorem done_hi2 {a b out : Array Keyed} {na nb : Nat} (h : out.toList.Perm (a.toList.drop na ++ b.toList.drop nb)) : (b.extract 0 nb ++ a.extract 0 na ++ out.reverse).toList.Perm (a.toList ++ b.toList) := by
  refine List.Perm.trans ?_ (done_hi h)
  rw [Array.toList_append, Array.toList_append, Array.toList_append, Array.toList_append]
  exact List.Perm.append_right _ List.perm_append_comm
theorem drop_cut (l : List Keyed) {i j : Nat} (h : i ≤ j) : l.drop i = (l.drop i).take (j - i) ++ l.drop j := by
  have := (List.take_append_drop (j - i) (l.drop i)).symm
  rw [List.drop_drop, show i + (j - i) = j by omega] at this
  exact this
theorem hi_pa {a b out : Array Keyed} {na nb i : Nat} (h : out.toList.Perm (a.toList.drop na ++ b.toList.drop nb)) (hi : i ≤ na) : (out ++ (a.extract i na).reverse).toList.Perm (a.toList.drop i ++ b.toList.drop nb) := by
  rw [Array.toList_append, Array.toList_reverse, ext_list]
  have e := drop_cut a.toList hi
  generalize (a.toList.drop i).take (na - i) = c at e ⊢
  rw [e]
  refine (h.append (List.reverse_perm _)).trans ?_
  refine List.perm_append_comm.trans ?_
  rw [List.append_assoc]
theorem hi_pb {a b out : Array Keyed} {na nb i : Nat} (h : out.toList.Perm (a.toList.drop na ++ b.toList.drop nb)) (hi : i ≤ nb) : (out ++ (b.extract i nb).reverse).toList.Perm (a.toList.drop na ++ b.toList.drop i) := by
  rw [Array.toList_append, Array.toList_reverse, ext_list]
  have e := drop_cut b.toList hi
  generalize (b.toList.drop i).take (nb - i) = c at e ⊢
  rw [e]
  refine (h.append (List.reverse_perm _)).trans ?_
  rw [List.append_assoc]
  exact List.Perm.append_left _ List.perm_append_comm
theorem drop_one {l : List Keyed} {n : Nat} {x : Keyed} (e : l[n - 1]? = some x) (h : 1 ≤ n) : l.drop (n - 1) = x :: l.drop n := by
  obtain ⟨hl, rfl⟩ := List.getElem?_eq_some_iff.mp e
  rw [List.drop_eq_getElem_cons hl, show n - 1 + 1 = n by omega]
theorem hi_pa1 {a b out : Array Keyed} {na nb : Nat} {x : Keyed} (h : out.toList.Perm (a.toList.drop na ++ b.toList.drop nb)) (e : a[na - 1]? = some x) (h1 : 1 ≤ na) : (out.push x).toList.Perm (a.toList.drop (na - 1) ++ b.toList.drop nb) := by
  rw [Array.toList_push, drop_one (by rw [Array.getElem?_toList]; exact e) h1]
  exact (h.append_right _).trans List.perm_append_comm
theorem hi_pb1 {a b out : Array Keyed} {na nb : Nat} {x : Keyed} (h : out.toList.Perm (a.toList.drop na ++ b.toList.drop nb)) (e : b[nb - 1]? = some x) (h1 : 1 ≤ nb) : (out.push x).toList.Perm (a.toList.drop na ++ b.toList.drop (nb - 1)) := by
  rw [Array.toList_push, drop_one (by rw [Array.getElem?_toList]; exact e) h1]
  refine (h.append_right _).trans ?_
  rw [List.append_assoc]
  exact List.Perm.append_left _ List.perm_append_comm
noncomputable def HiQ (a b : Array Keyed) (st : SortSt) (X : Nat) {R : Type} (c : Option (Array Keyed) × Nat × Nat × Array Keyed × R) (st' : SortSt) : Prop :=
  Sm st st' ∧ match c.1 with
    | some r => r.toList.Perm (a.toList ++ b.toList)
    | none => HiI a b c.2.2.2.1 c.2.1 c.2.2.1 ∧ X + (c.2.1 + c.2.2.1) ≤ a.size + b.size
noncomputable abbrev HiC := Option (Array Keyed) × Nat × Nat × Array Keyed × Nat × Nat
noncomputable abbrev HiG := Option (Array Keyed) × Nat × Nat × Array Keyed × Nat × Nat × Nat
noncomputable abbrev HiO := Option (Array Keyed) × Nat × Nat × Array Keyed × Nat
noncomputable def hiD (a b out : Array Keyed) (na nb : Nat) : Array Keyed := a.extract 0 na ++ b.extract 0 nb ++ out.reverse
noncomputable def hiB (a b out : Array Keyed) (na nb : Nat) : Array Keyed := b.extract 0 nb ++ a.extract 0 na ++ out.reverse
noncomputable def hiOne (a b : Array Keyed) (mg na nb : Nat) (out : Array Keyed) (ac bc : Nat) : SS (ForInStep HiC) :=
  elem' b (nb - 1) >>= fun x => elem' a (na - 1) >>= fun y => lt' x y >>= fun o => match o with
  | some aw => if aw = true then elem' a (na - 1) >>= fun x => if (na - 1 == 0) = true then pure (.done (some (hiD a b (out.push x) (na - 1) nb), na - 1, nb, out.push x, ac + 1, 0))
        else if ac + 1 ≥ mg then pure (.done (none, na - 1, nb, out.push x, ac + 1, 0)) else pure (.yield (none, na - 1, nb, out.push x, ac + 1, 0))
      else elem' b (nb - 1) >>= fun x => if (nb - 1 == 1) = true then pure (.done (some (hiB a b (out.push x) na (nb - 1)), na, nb - 1, out.push x, 0, bc + 1))
        else if bc + 1 ≥ mg then pure (.done (none, na, nb - 1, out.push x, 0, bc + 1)) else pure (.yield (none, na, nb - 1, out.push x, 0, bc + 1))
  | _ => pure (.done (some (hiD a b out na nb), na, nb, out, ac, bc))
noncomputable def hiC3 (a b : Array Keyed) (mg na nb : Nat) (out : Array Keyed) (ac bc : Nat) : SS (ForInStep HiG) :=
  elem' a (na - 1) >>= fun y => if (na - 1 == 0) = true then pure (.done (some (hiD a b (out.push y) (na - 1) nb), na - 1, nb, out.push y, mg, ac, bc))
    else if (decide (ac < 7) && decide (bc < 7)) = true then pure (.done (none, na - 1, nb, out.push y, mg, ac, bc)) else pure (.yield (none, na - 1, nb, out.push y, mg, ac, bc))
noncomputable def hiC2 (a b : Array Keyed) (mg na nb : Nat) (out : Array Keyed) (ac bc : Nat) : SS (ForInStep HiG) :=
  elem' b (nb - 1) >>= fun x => if (nb - 1 == 1) = true then pure (.done (some (hiB a b (out.push x) na (nb - 1)), na, nb - 1, out.push x, mg, ac, bc))
    else elem' a (na - 1) >>= fun y => gallop' true y b 0 (nb - 1) (nb - 1 - 1) >>= fun o => match o with
      | some t => if nb - 1 - t > 0 then (if (t == 1) = true then pure (.done (some (hiB a b (out.push x ++ (b.extract t (nb - 1)).reverse) na t), na, t, out.push x ++ (b.extract t (nb - 1)).reverse, mg, ac, nb - 1 - t))
          else if (t == 0) = true then pure (.done (some (hiD a b (out.push x ++ (b.extract t (nb - 1)).reverse) na t), na, t, out.push x ++ (b.extract t (nb - 1)).reverse, mg, ac, nb - 1 - t))
          else hiC3 a b mg na t (out.push x ++ (b.extract t (nb - 1)).reverse) ac (nb - 1 - t)) else hiC3 a b mg na (nb - 1) (out.push x) ac (nb - 1 - t)
      | _ => pure (.done (some (hiD a b (out.push x) na (nb - 1)), na, nb - 1, out.push x, mg, ac, bc))
noncomputable def hiC1 (a b : Array Keyed) (mg na nb : Nat) (out : Array Keyed) (ac bc : Nat) : SS (ForInStep HiG) :=
  setMinGallop' mg >>= fun _ => elem' b (nb - 1) >>= fun x => gallop' false x a 0 na (na - 1) >>= fun o => match o with
  | some t => if na - t > 0 then (if (t == 0) = true then pure (.done (some (hiD a b (out ++ (a.extract t na).reverse) t nb), t, nb, out ++ (a.extract t na).reverse, mg, na - t, bc))
      else hiC2 a b mg t nb (out ++ (a.extract t na).reverse) (na - t) bc) else hiC2 a b mg na nb out (na - t) bc
  | _ => pure (.done (some (hiD a b out na nb), na, nb, out, mg, ac, bc))
noncomputable def hiOut (a b : Array Keyed) (mg na nb : Nat) (out : Array Keyed) : SS (ForInStep HiO) :=
  forIn [0:a.size + b.size] ((none, na, nb, out, 0, 0) : HiC) (fun _ c => hiOne a b mg c.2.1 c.2.2.1 c.2.2.2.1 c.2.2.2.2.1 c.2.2.2.2.2) >>= fun c => onRet c.1 (fun r => pure (.done (some r, c.2.1, c.2.2.1, c.2.2.2.1, mg))) (liftM (rule "list.sort.gallop") >>= fun _ =>
    forIn [0:a.size + b.size] ((none, c.2.1, c.2.2.1, c.2.2.2.1, mg + 1, c.2.2.2.2.1, c.2.2.2.2.2) : HiG) (fun _ c => if c.2.2.2.2.1 > 1 then hiC1 a b (c.2.2.2.2.1 - 1) c.2.1 c.2.2.1 c.2.2.2.1 c.2.2.2.2.2.1 c.2.2.2.2.2.2 else hiC1 a b c.2.2.2.2.1 c.2.1 c.2.2.1 c.2.2.2.1 c.2.2.2.2.2.1 c.2.2.2.2.2.2) >>= fun c => onRet c.1 (fun r => pure (.done (some r, c.2.1, c.2.2.1, c.2.2.2.1, c.2.2.2.2.1)))
      (setMinGallop' (c.2.2.2.2.1 + 1) >>= fun _ => pure (.yield (none, c.2.1, c.2.2.1, c.2.2.2.1, c.2.2.2.2.1 + 1))))
theorem mergeHi'_eq (a b : Array Keyed) : mergeHi' a b = (liftM (rule "list.sort.merge-hi") >>= fun _ => elem' a (a.size - 1) >>= fun x => if (a.size - 1 == 0) = true then pure (hiD a b #[x] (a.size - 1) b.size)
    else if (b.size == 1) = true then pure (hiB a b #[x] (a.size - 1) b.size) else get >>= fun s => forIn [0:a.size + b.size] ((none, a.size - 1, b.size, #[x], gallopOf s) : HiO) (fun _ c => hiOut a b c.2.2.2.2 c.2.1 c.2.2.1 c.2.2.2.1) >>= fun c => onRet c.1 (fun r => pure r) (liftM (unsupported "internal:list.sort.merge-bound"))) := rfl
noncomputable abbrev HiI1 (a b : Array Keyed) (st : SortSt) (X : Nat) {R : Type} (_ : Nat) (c : Option (Array Keyed) × Nat × Nat × Array Keyed × R) (st' : SortSt) : Prop := c.1 = none ∧ HiQ a b st X c st'
noncomputable def HiJ (a b : Array Keyed) (st : SortSt) (X : Nat) {R : Type} (i : Nat) (c : Option (Array Keyed) × Nat × Nat × Array Keyed × R) (st' : SortSt) : Prop := c.1 = none ∧ HiQ a b st (X + min i 1) c st'
theorem pos_of {x : Nat} (g : ¬ (x == 0) = true) : 1 ≤ x := Nat.pos_of_ne_zero fun e => g (by rw [e]; rfl)
theorem two_of {x : Nat} (h : 1 ≤ x) (g : ¬ (x == 1) = true) : 2 ≤ x := Nat.lt_of_le_of_ne h fun e => g (by rw [← e]; rfl)
theorem sub1_lt {x n : Nat} (h : 1 ≤ x) (g : x ≤ n) : x - 1 < n := Nat.lt_of_lt_of_le (Nat.sub_lt h Nat.one_pos) g
theorem sub1_le {x n : Nat} (g : x ≤ n) : x - 1 ≤ n := Nat.le_trans (Nat.sub_le _ _) g
section
variable {a b out : Array Keyed} {st st2 : SortSt} {X na nb ac bc mg i : Nat}
theorem HiI.pa (I : HiI a b out na nb) {x : Keyed} (e : a[na - 1]? = some x) (g : ¬ (na - 1 == 0) = true) : HiI a b (out.push x) (na - 1) nb := ⟨hi_pa1 I.perm e I.la, pos_of g, I.lb, sub1_le I.ua, I.ub⟩
theorem HiI.pb (I : HiI a b out na nb) {x : Keyed} (e : b[nb - 1]? = some x) (g : ¬ (nb - 1 == 1) = true) : HiI a b (out.push x) na (nb - 1) := ⟨hi_pb1 I.perm e (Nat.le_of_succ_le I.lb), I.la, two_of (Nat.le_sub_one_of_lt I.lb) g, I.ua, sub1_le I.ub⟩
theorem fr_hiOne (M : MC prog w A s κ a₀ a b st) (H : Sm st st2) (I : HiI a b out na nb) (hp : X + (na + nb) ≤ a.size + b.size) : wpS (model prog w) A E s (hiOne a b mg na nb out ac bc) (StepQ (HiI1 a b st X) (HiQ a b st X) i) st2 := by
  unfold hiOne
  have la := sub1_lt I.la I.ua
  have lb := sub1_lt (Nat.le_of_succ_le I.lb) I.ub
  refine wpS_bind (fr_elem lb fun xb eb mb => wpS_bind (fr_elem la fun xa ea ma => wpS_bind (fr_lt M.C (H.kind.trans M.k) (M.hb _ mb) (M.ha _ ma) fun bw => ?_)))
  refine wpS_ite (fun _ => wpS_bind (fr_elem la fun x e _ => ?_)) (fun _ => wpS_bind (fr_elem lb fun x e _ => ?_))
  · have h1 : X + (na - 1 + nb) ≤ a.size + b.size := by omega
    refine wpS_ite (fun _ => wpS_pure ⟨H, done_hi (hi_pa1 I.perm e I.la)⟩) (fun g => ?_)
    exact wpS_ite (fun _ => wpS_pure ⟨H, I.pa e g, h1⟩) (fun _ => wpS_pure ⟨rfl, H, I.pa e g, h1⟩)
  · have h1 : X + (na + (nb - 1)) ≤ a.size + b.size := by omega
    refine wpS_ite (fun _ => wpS_pure ⟨H, done_hi2 (hi_pb1 I.perm e (Nat.le_of_succ_le I.lb))⟩) (fun g => ?_)
    exact wpS_ite (fun _ => wpS_pure ⟨H, I.pb e g, h1⟩) (fun _ => wpS_pure ⟨rfl, H, I.pb e g, h1⟩)
theorem fr_hiC3 (M : MC prog w A s κ a₀ a b st) (H : Sm st st2) (I : HiI a b out na nb) (hp : X + (na + nb) ≤ a.size + b.size) : wpS (model prog w) A E s (hiC3 a b mg na nb out ac bc) (StepQ (HiJ a b st X) (HiQ a b st (X + 1)) i) st2 := by
  unfold hiC3
  have hl := I.la
  have h1 : X + 1 + (na - 1 + nb) ≤ a.size + b.size := by omega
  have h2 : X + min (i + 1) 1 + (na - 1 + nb) ≤ a.size + b.size := by omega
  refine wpS_bind (fr_elem (sub1_lt I.la I.ua) fun x e _ => ?_)
  refine wpS_ite (fun _ => wpS_pure ⟨H, done_hi (hi_pa1 I.perm e I.la)⟩) (fun g => ?_)
  exact wpS_ite (fun _ => wpS_pure ⟨H, I.pa e g, h1⟩) (fun _ => wpS_pure ⟨rfl, H, I.pa e g, h2⟩)
theorem fr_hiC2 (M : MC prog w A s κ a₀ a b st) (H : Sm st st2) (I : HiI a b out na nb) (hp : X + (na + nb) ≤ a.size + b.size) : wpS (model prog w) A E s (hiC2 a b mg na nb out ac bc) (StepQ (HiJ a b st X) (HiQ a b st (X + 1)) i) st2 := by
  unfold hiC2
  refine wpS_bind (fr_elem (sub1_lt (Nat.le_of_succ_le I.lb) I.ub) fun x e _ => ?_)
  refine wpS_ite (fun _ => wpS_pure ⟨H, done_hi2 (hi_pb1 I.perm e (Nat.le_of_succ_le I.lb))⟩) (fun g => ?_)
  have I2 := I.pb e g
  have hp2 : X + (na + (nb - 1)) ≤ a.size + b.size := Nat.le_trans (Nat.add_le_add_left (Nat.add_le_add_left (Nat.sub_le _ _) _) _) hp
  generalize nb - 1 = nb at I2 hp2 ⊢
  refine wpS_bind (fr_elem (sub1_lt I.la I.ua) fun y ey my => wpS_bind (fr_gallop M.C (H.kind.trans M.k) (M.ha _ my) M.hb (sub1_lt (Nat.le_of_succ_le I2.lb) (Nat.le_refl _)) (by rw [Nat.zero_add]; exact I2.ub) fun t ht => ?_))
  refine wpS_ite (fun _ => wpS_ite (fun _ => wpS_pure ⟨H, done_hi2 (hi_pb I2.perm ht)⟩) (fun g1 => wpS_ite (fun _ => wpS_pure ⟨H, done_hi (hi_pb I2.perm ht)⟩) (fun g2 => ?_))) (fun _ => fr_hiC3 M H I2 hp2)
  exact fr_hiC3 M H ⟨hi_pb I2.perm ht, I.la, two_of (pos_of g2) g1, I.ua, Nat.le_trans ht I2.ub⟩ (Nat.le_trans (Nat.add_le_add_left (Nat.add_le_add_left ht _) _) hp2)
theorem fr_hiC1 (M : MC prog w A s κ a₀ a b st) (H : Sm st st2) (I : HiI a b out na nb) (hp : X + (na + nb) ≤ a.size + b.size) : wpS (model prog w) A E s (hiC1 a b mg na nb out ac bc) (StepQ (HiJ a b st X) (HiQ a b st (X + 1)) i) st2 := by
  unfold hiC1
  refine wpS_bind (fr_setMin H fun st4 H4 => wpS_bind (fr_elem (sub1_lt (Nat.le_of_succ_le I.lb) I.ub) fun xb eb mb => wpS_bind (fr_gallop M.C (H4.kind.trans M.k) (M.hb _ mb) M.ha (sub1_lt I.la (Nat.le_refl _)) (by rw [Nat.zero_add]; exact I.ua) fun t ht => ?_)))
  refine wpS_ite (fun _ => wpS_ite (fun _ => wpS_pure ⟨H4, done_hi (hi_pa I.perm ht)⟩) (fun g => ?_)) (fun _ => fr_hiC2 M H4 I hp)
  exact fr_hiC2 M H4 ⟨hi_pa I.perm ht, pos_of g, I.lb, Nat.le_trans ht I.ua, I.ub⟩ (Nat.le_trans (Nat.add_le_add_left (Nat.add_le_add_right ht _) _) hp)
theorem fr_hiOut (M : MC prog w A s κ a₀ a b st) (H : Sm st st2) (I : HiI a b out na nb) (hp : X + (na + nb) ≤ a.size + b.size) : wpS (model prog w) A E s (hiOut a b mg na nb out) (StepQ (fun i c st' => c.1 = none ∧ HiQ a b st i c st') (HiQ a b st (a.size + b.size)) X) st2 := by
  unfold hiOut
  refine wpS_bind (wpS_mono (wpS_forR (I := HiI1 a b st X) (Q := HiQ a b st X) ?_ (fun c st' x => x.2) ⟨rfl, H, I, hp⟩) ?_)
  · rintro i ⟨_, na, nb, out, ac, bc⟩ st3 _ _ ⟨rfl, H3, I3, hp3⟩
    exact fr_hiOne M H3 I3 hp3
  · rintro ⟨r, na, nb, out, ac, bc⟩ st3 ⟨H3, hr⟩
    cases r with
    | some r => exact wpS_pure ⟨H3, hr⟩
    | none =>
      obtain ⟨I3, hp3⟩ := hr
      refine wpS_bind (wpS_lift (wpAny_rule ⟨rfl, ?_⟩))
      refine wpS_bind (wpS_mono (wpS_forR (I := HiJ a b st X) (Q := HiQ a b st (X + 1)) ?_ ?_ ⟨rfl, H3, I3, hp3⟩) ?_)
      · rintro i ⟨_, na, nb, out, mg, ac, bc⟩ st4 _ _ ⟨rfl, H4, I4, hp4⟩
        have hp5 := Nat.le_trans (Nat.add_le_add_right (Nat.le_add_right X (min i 1)) _) hp4
        exact wpS_ite (fun _ => fr_hiC1 M H4 I4 hp5) (fun _ => fr_hiC1 M H4 I4 hp5)
      · rintro ⟨r, na, nb, out, mg, ac, bc⟩ st4 ⟨_, H4⟩
        have h1 := I.la
        have h2 := I.ua
        rw [show min (max 0 (a.size + b.size)) 1 = 1 by omega] at H4
        exact H4
      · rintro ⟨r, na, nb, out, mg, ac, bc⟩ st4 ⟨H4, hr⟩
        cases r with
        | some r => exact wpS_pure ⟨H4, hr⟩
        | none => exact wpS_bind (fr_setMin H4 fun st5 H5 => wpS_pure ⟨rfl, H5, hr⟩)
end
theorem fr_mergeHi {a b : Array Keyed} {st : SortSt} {Q : Array Keyed → SortSt → Prop} (M : MC prog w A s κ a₀ a b st) (h1 : 0 < a.size) (h2 : 0 < b.size)
    (h : ∀ m st', Sm st st' → m.toList.Perm (a.toList ++ b.toList) → Q m st') : wpS (model prog w) A E s (mergeHi' a b) Q st := by
  rw [mergeHi'_eq]
  refine wpS_bind (wpS_lift (wpAny_rule ⟨rfl, ?_⟩))
  refine wpS_bind (fr_elem (Nat.sub_lt h1 Nat.one_pos) fun x0 e0 _ => ?_)
  have p0 : (#[x0] : Array Keyed).toList.Perm (a.toList.drop (a.size - 1) ++ b.toList.drop b.size) := by
    rw [drop_one (by rw [Array.getElem?_toList]; exact e0) h1, List.drop_of_length_le (by simp), List.drop_of_length_le (by simp)]; exact .refl _
  refine wpS_ite (fun _ => wpS_pure (h _ _ (.refl _) (done_hi p0))) (fun g1 => ?_)
  refine wpS_ite (fun _ => wpS_pure (h _ _ (.refl _) (done_hi2 p0))) (fun g2 => ?_)
  refine wpS_bind (wpS_get ?_)
  refine wpS_bind (wpS_mono (wpS_forR (a := 0) (I := fun i c st' => c.1 = none ∧ HiQ a b st i c st') (Q := HiQ a b st (a.size + b.size)) ?_ ?_ (c := ((none, a.size - 1, b.size, #[x0], gallopOf st) : HiO)) ⟨rfl, .refl _, ⟨p0, pos_of g1, two_of h2 g2, Nat.sub_le _ _, Nat.le_refl _⟩, by rw [Nat.zero_add]; exact Nat.add_le_add_right (Nat.sub_le _ _) _⟩) ?_)
  · rintro X ⟨_, na, nb, out, mg⟩ st1 _ _ ⟨rfl, H1, I1, hp1⟩
    exact fr_hiOut M H1 I1 hp1
  · rintro ⟨r, na, nb, out, mg⟩ st1 ⟨rfl, H⟩
    rw [Nat.max_eq_right (Nat.zero_le _)] at H
    exact H
  · rintro ⟨r, na, nb, out, mg⟩ st1 ⟨H, hr⟩
    cases r with
    | some r => exact wpS_pure (h _ _ H hr)
    | none =>
      obtain ⟨I2, hp2⟩ := hr
      exact absurd (Nat.lt_add_of_pos_right (Nat.add_pos_left I2.la _)) (Nat.not_lt.mpr hp2)
end
end Mine

end
section
open PySem PySem.W PyProof.Rows PySem.Calls
set_option Elab.async false
set_option linter.unusedVariables false
set_option linter.unusedSimpArgs false
set_option maxRecDepth 100000
namespace Mine
section
variable {prog : Program} {w : World} {A : Around} {E : Value → Shared → Prop} {s : Shared} {a₀ : Array Keyed} {κ : SortKind}
structure PB (κ : SortKind) (a₀ : Array Keyed) (p : Array (Nat × Nat × Nat)) (st : SortSt) : Prop where
  perm : (arrOf st).Perm a₀
  kind : kindOf st = κ
  failed : failedOf st = none
  pend : pendingOf st = p
theorem PB.size {p : Array (Nat × Nat × Nat)} {st : SortSt} (h : PB κ a₀ p st) : (arrOf st).size = a₀.size := h.perm.size_eq
theorem PB.setArr {p : Array (Nat × Nat × Nat)} {st : SortSt} (h : PB κ a₀ p st) {xs : Array Keyed} (hp : xs.Perm (arrOf st)) : PB κ a₀ p (setArr st xs) := ⟨hp.trans h.perm, h.kind, h.failed, h.pend⟩
theorem PB.allIn {p : Array (Nat × Nat × Nat)} {st : SortSt} (h : PB κ a₀ p st) : AllIn a₀ (arrOf st) := fun _ hx => (Array.perm_iff_toList_perm.mp h.perm).mem_iff.mp hx
theorem fr_ltAt (C : CmpOk prog w A s κ a₀) {p : Array (Nat × Nat × Nat)} {st : SortSt} {i j : Nat} {Q : Option Bool → SortSt → Prop} (B : PB κ a₀ p st) (hi : i < a₀.size) (hj : j < a₀.size) (h : ∀ b, Q (some b) st) : wpS (model prog w) A E s (ltAt' i j) Q st := by
  rw [ltAt'_eq]
  refine wpS_bind (wpS_get ?_)
  exact wpS_bind (fr_elem (by rw [B.size]; exact hi) fun x _ mx => wpS_bind (fr_elem (by rw [B.size]; exact hj) fun y _ my => fr_lt C B.kind (B.allIn x mx) (B.allIn y my) h))
theorem fr_rev {p : Array (Nat × Nat × Nat)} {st : SortSt} {i j : Nat} {Q : Unit → SortSt → Prop} (B : PB κ a₀ p st) (h : ∀ st', PB κ a₀ p st' → Q () st') : wpS (model prog w) A E s (reverseSlice' i j) Q st :=
  wpS_reverse (h _ (B.setArr (mirror_perm ..)))
theorem fr_count (C : CmpOk prog w A s κ a₀) {p : Array (Nat × Nat × Nat)} {st : SortSt} {lo nrem : Nat} {Q : Option Nat → SortSt → Prop} (B : PB κ a₀ p st) (h1 : 1 ≤ nrem) (hn : lo + nrem ≤ a₀.size)
    (h : ∀ m st', PB κ a₀ p st' → 1 ≤ m → m ≤ nrem → Q (some m) st') : wpS (model prog w) A E s (countRun' lo nrem) Q st := by
  rw [countRun'_eq]
  refine wpS_bind (wpS_mono (wpS_forR (I := fun x c st' => st' = st ∧ c = (none, x)) (Q := fun c st' => st' = st ∧ c.1 = none ∧ 1 ≤ c.2 ∧ c.2 ≤ nrem) ?_ ?_ ⟨rfl, rfl⟩) ?_)
  · rintro x _ _ hx hx2 ⟨rfl, rfl⟩
    refine wpS_bind (fr_ltAt C B (by dsimp only; omega) (by dsimp only; omega) fun b => ?_)
    exact wpS_ite (fun _ => wpS_pure ⟨rfl, rfl, hx, Nat.le_of_lt hx2⟩) (fun _ => wpS_pure ⟨rfl, rfl⟩)
  · rintro _ _ ⟨rfl, rfl⟩
    exact ⟨rfl, rfl, by dsimp only; omega, by dsimp only; omega⟩
  · rintro ⟨_, n⟩ st1 ⟨rfl, rfl, hn1, hn2⟩
    dsimp only at hn1 hn2
    refine wpS_ite (fun _ => wpS_pure (h n _ B hn1 hn2)) (fun g => ?_)
    have hn3 : n < nrem := by simp at g; omega
    clear g
    extract_lets -underBinder +onlyGivenNames jp
    have J : ∀ st2, PB κ a₀ p st2 → wpS (model prog w) A E s (jp ()) Q st2 := by
      intro st2 B2
      clear B
      refine wpS_bind (wpS_lift (wpAny_rule ⟨rfl, ?_⟩))
      refine wpS_bind (wpS_mono (wpS_forR (I := fun x c st' => PB κ a₀ p st' ∧ c.1 = none ∧ c.2.1 = x) (Q := fun c st' => PB κ a₀ p st' ∧ c.1 = none ∧ 1 ≤ c.2.1 ∧ c.2.1 ≤ nrem) ?_ ?_ ⟨B2, rfl, rfl⟩) ?_)
      · rintro x ⟨_, x', q⟩ st3 hx hx2 ⟨B3, rfl, rfl⟩
        dsimp only at hx hx2
        refine wpS_bind (fr_ltAt C B3 (by dsimp only; omega) (by dsimp only; omega) fun b => ?_)
        clear_value jp
        dsimp -zeta -zetaHave only
        extract_lets -underBinder +onlyGivenNames jp2
        have J : ∀ q st4, PB κ a₀ p st4 → wpS (model prog w) A E s (jp2 () q) (StepQ (fun x c st' => PB κ a₀ p st' ∧ c.1 = none ∧ c.2.1 = x) (fun c st' => PB κ a₀ p st' ∧ c.1 = none ∧ 1 ≤ c.2.1 ∧ c.2.1 ≤ nrem) x') st4 := fun q st4 B4 => wpS_pure ⟨B4, rfl, rfl⟩
        clear_value jp2
        refine wpS_ite (fun _ => wpS_ite (fun _ => wpS_bind (fr_rev B3 fun st4 B4 => J _ _ B4)) (fun _ => J _ _ B3)) (fun _ => ?_)
        refine wpS_bind (fr_ltAt C B3 (by omega) (by omega) fun b2 => ?_)
        exact wpS_ite (fun _ => wpS_pure ⟨B3, rfl, by dsimp only; omega, by dsimp only; omega⟩) (fun _ => J _ _ B3)
      · rintro ⟨_, x', q⟩ st3 ⟨B3, rfl, hx⟩
        exact ⟨B3, rfl, by dsimp only at hx ⊢; omega, by dsimp only at hx ⊢; omega⟩
      · rintro ⟨_, n2, q⟩ st3 ⟨B3, rfl, hq1, hq2⟩
        dsimp only at hq1 hq2
        clear_value jp
        extract_lets -underBinder +onlyGivenNames r1 s1 n1 q1
        have z1 : r1 = none := rfl
        have z2 : n1 = n2 := rfl
        have z3 : q1 = q := rfl
        clear_value r1 n1 q1
        subst z1 z2 z3
        dsimp -zeta -zetaHave only
        extract_lets -underBinder +onlyGivenNames jp2
        have J : ∀ st4, PB κ a₀ p st4 → wpS (model prog w) A E s (jp2 ()) Q st4 := fun st4 B4 => by
          refine wpS_bind (fr_rev B4 fun st5 B5 => ?_)
          refine wpS_bind (wpS_mono (wpS_forR (I := fun x c st' => PB κ a₀ p st' ∧ c = (none, x)) (Q := fun c st' => PB κ a₀ p st' ∧ c.1 = none ∧ 1 ≤ c.2 ∧ c.2 ≤ nrem) ?_ ?_ ⟨B5, rfl⟩) ?_)
          · rintro x _ st6 hx hx2 ⟨B6, rfl⟩
            refine wpS_bind (fr_ltAt C B6 (by dsimp only; omega) (by dsimp only; omega) fun b => ?_)
            exact wpS_ite (fun _ => wpS_pure ⟨B6, rfl, by dsimp only; omega, by dsimp only; omega⟩) (fun _ => wpS_pure ⟨B6, rfl⟩)
          · rintro _ st6 ⟨B6, rfl⟩
            exact ⟨B6, rfl, by dsimp only; omega, by dsimp only; omega⟩
          · rintro ⟨_, n3⟩ st6 ⟨B6, rfl, e1, e2⟩
            exact wpS_pure (h n3 _ B6 e1 e2)
        clear_value jp2
        exact wpS_ite (fun _ => wpS_bind (fr_rev B3 fun st4 B4 => J _ B4)) (fun _ => J _ B3)
    clear_value jp
    refine wpS_ite (fun _ => ?_) (fun _ => J _ B)
    refine wpS_bind (fr_ltAt C B (by omega) (by omega) fun b => ?_)
    exact wpS_ite (fun _ => wpS_pure (h n _ B hn1 hn2)) (fun _ => wpS_bind (fr_rev B fun st4 B4 => J _ B4))
theorem fr_binary (C : CmpOk prog w A s κ a₀) {p : Array (Nat × Nat × Nat)} {st : SortSt} {lo n ok : Nat} {Q : Bool → SortSt → Prop} (B : PB κ a₀ p st) (hn : lo + n ≤ a₀.size)
    (h : ∀ st', PB κ a₀ p st' → Q true st') : wpS (model prog w) A E s (binarySort' lo n ok) Q st := by
  rw [binarySort'_eq]
  refine wpS_bind (wpS_mono (wpS_forR (I := fun _ c st' => PB κ a₀ p st' ∧ c = (none, ())) (Q := fun c st' => PB κ a₀ p st' ∧ c = (none, ())) ?_ (fun _ _ x => x) ⟨B, rfl⟩) ?_)
  · rintro k _ st1 _ hk ⟨B1, rfl⟩
    refine wpS_bind (wpS_mono (wpS_forR (I := fun _ c st' => st' = st1 ∧ c.1 = none ∧ c.2.2 ≤ k) (Q := fun c st' => st' = st1 ∧ c.1 = none ∧ c.2.2 ≤ k) ?_ (fun _ _ x => x) ⟨rfl, rfl, Nat.le_refl _⟩) ?_)
    · rintro x ⟨_, l, r⟩ _ _ _ ⟨rfl, rfl, hr⟩
      dsimp only at hr
      refine wpS_ite (fun _ => wpS_pure ⟨rfl, rfl, hr⟩) (fun hlt => ?_)
      dsimp only at hlt
      refine wpS_bind (fr_ltAt C B1 (by omega) (by dsimp only; omega) fun b => ?_)
      exact wpS_ite (fun _ => wpS_pure ⟨rfl, rfl, by dsimp only; omega⟩) (fun _ => wpS_pure ⟨rfl, rfl, hr⟩)
    · rintro ⟨_, l, r⟩ _ ⟨rfl, rfl, hr⟩
      refine wpS_bind ?_
      rw [moveDown'_eq]
      exact wpS_modify (wpS_pure ⟨B1.setArr (bubble_perm ..), rfl⟩)
  · rintro _ st1 ⟨B1, rfl⟩
    exact wpS_pure (h _ B1)
end
end Mine

end
section
open PySem PySem.W PyProof.Rows PySem.Calls
set_option Elab.async false
set_option linter.unusedVariables false
set_option linter.unusedSimpArgs false
set_option maxRecDepth 100000
namespace Mine
section
variable {prog : Program} {w : World} {A : Around} {E : Value → Shared → Prop} {s : Shared} {a₀ : Array Keyed} {κ : SortKind}
theorem write_list (base : Nat) : ∀ (l : List Keyed) (n : Nat) (arr : Array Keyed) (pre mid post : List Keyed), arr.toList = pre ++ mid ++ post → pre.length = base + n → mid.length = l.length →
    ((l.zipIdx n).foldl (fun a x => a.setIfInBounds (base + x.2) x.1) arr).toList = pre ++ l ++ post
  | [], n, arr, pre, mid, post, h, hp, hl => by
    obtain rfl := List.length_eq_zero_iff.mp hl
    exact h
  | p :: l, n, arr, pre, [], post, h, hp, hl => by cases hl
  | p :: l, n, arr, pre, m :: mid, post, h, hp, hl => by
    rw [List.zipIdx_cons, List.foldl_cons]
    have e : (arr.setIfInBounds (base + n) p).toList = (pre ++ [p]) ++ mid ++ post := by
      rw [Array.toList_setIfInBounds, h, ← hp]
      simp
    have := write_list base l (n + 1) (arr.setIfInBounds (base + n) p) (pre ++ [p]) mid post e (by rw [List.length_append, hp]; rfl) (Nat.succ.inj hl)
    rw [this]
    simp
theorem wpS_set {σ : Type} {x st : σ} {Q : PUnit → σ → Prop} (h : Q ⟨⟩ x) : wpS (model prog w) A E s (set x : StateT σ Sem PUnit) Q st := by
  unfold wpS; rw [StateT.run_set]; exact wpAny_pure ⟨rfl, h⟩
/-- the merged items written back -/
noncomputable def maWrite (sa : Nat) (m : Array Keyed) : SS Bool :=
  modify (fun s => setArr s (m.toList.zipIdx.foldl (fun a x => a.setIfInBounds (sa + x.2) x.1) (arrOf s))) >>= fun _ => get >>= fun s => pure (failedOf s).isNone
noncomputable def maMerge (a : Array Keyed) (sa na sb nb : Nat) : SS Bool :=
  if na ≤ nb then mergeLo' (a.extract sa sb) (a.extract sb (sb + nb)) >>= maWrite sa else mergeHi' (a.extract sa sb) (a.extract sb (sb + nb)) >>= maWrite sa
noncomputable def maTail (a : Array Keyed) (sa na sb nb : Nat) : SS Bool :=
  elem' a sb >>= fun x => gallop' false x a sa na 0 >>= fun o => match o with
    | some k => if (na - k == 0) = true then pure true else elem' a (sa + k + (na - k) - 1) >>= fun y => gallop' true y a sb nb (nb - 1) >>= fun o => match o with
      | some m => if (m == 0) = true then pure true else maMerge a (sa + k) (na - k) sb m
      | _ => pure false
    | _ => pure false
theorem mergeAt'_eq (i : Nat) : mergeAt' i = (get >>= fun s => match ((pendingOf s)[i]?, (pendingOf s)[i + 1]?) with
    | (some (sa, na, power), some (sb, nb, _)) => set (setPending s (((pendingOf s).setIfInBounds i (sa, na + nb, power)).eraseIdxIfInBounds (i + 1))) >>= fun _ => maTail (arrOf s) sa na sb nb
    | _ => liftM (unsupported "internal:list.sort.pending")) := rfl
theorem fr_maMerge (C : CmpOk prog w A s κ a₀) {st : SortSt} {p : Array (Nat × Nat × Nat)} {sa na sb nb : Nat} {Q : Bool → SortSt → Prop} (B : PB κ a₀ p st) (h1 : sa < sb) (h2 : 1 ≤ nb) (hs : sb + nb ≤ a₀.size)
    (h : ∀ st', PB κ a₀ p st' → Q true st') : wpS (model prog w) A E s (maMerge (arrOf st) sa na sb nb) Q st := by
  have ha := B.allIn
  have hz := B.size
  have lX : ((arrOf st).extract sa sb).toList = ((arrOf st).toList.drop sa).take (sb - sa) := ext_list ..
  have lY : ((arrOf st).extract sb (sb + nb)).toList = ((arrOf st).toList.drop sb).take nb := by rw [ext_list, Nat.add_sub_cancel_left]
  have J : ∀ (m : Array Keyed) st2, Sm st st2 → m.toList.Perm (((arrOf st).extract sa sb).toList ++ ((arrOf st).extract sb (sb + nb)).toList) → wpS (model prog w) A E s (maWrite sa m) Q st2 := fun m st2 S2 pm => by
    unfold maWrite
    refine wpS_bind (wpS_modify (wpS_bind (wpS_get (wpS_pure ?_))))
    have cut : (arrOf st).toList = (arrOf st).toList.take sa ++ (((arrOf st).extract sa sb).toList ++ ((arrOf st).extract sb (sb + nb)).toList) ++ (arrOf st).toList.drop (sb + nb) := by
      have c1 := (List.take_append_drop sa (arrOf st).toList).symm
      rw [drop_cut (arrOf st).toList (Nat.le_of_lt h1), drop_cut (arrOf st).toList (Nat.le_add_right sb nb), Nat.add_sub_cancel_left, ← lX, ← lY] at c1
      rw [List.append_assoc, List.append_assoc]
      exact c1
    have hsa : sa ≤ (arrOf st).size := by rw [hz]; omega
    have wl := write_list sa m.toList 0 (arrOf st) _ _ _ cut (by rw [List.length_take, Array.length_toList]; exact Nat.min_eq_left hsa) pm.length_eq.symm
    have pf : ((m.toList.zipIdx 0).foldl (fun a x => a.setIfInBounds (sa + x.2) x.1) (arrOf st2)).Perm (arrOf st2) := by
      rw [S2.arr]
      refine Array.perm_iff_toList_perm.mpr ?_
      rw [wl]
      refine List.Perm.trans ?_ (List.Perm.of_eq cut.symm)
      exact (pm.append_left _).append_right _
    have B2 : PB κ a₀ p st2 := ⟨S2.arr ▸ B.perm, S2.kind.trans B.kind, S2.fail.trans B.failed, S2.pend.trans B.pend⟩
    have B3 := B2.setArr pf
    rw [show (failedOf (setArr st2 ((m.toList.zipIdx 0).foldl (fun a x => a.setIfInBounds (sa + x.2) x.1) (arrOf st2)))).isNone = true by rw [B3.failed]; rfl]
    exact h _ B3
  have aX : AllIn a₀ ((arrOf st).extract sa sb) := fun x hx => ha x (by rw [lX] at hx; exact List.mem_of_mem_drop (List.mem_of_mem_take hx))
  have aY : AllIn a₀ ((arrOf st).extract sb (sb + nb)) := fun x hx => ha x (by rw [lY] at hx; exact List.mem_of_mem_drop (List.mem_of_mem_take hx))
  have sX : 0 < ((arrOf st).extract sa sb).size := by rw [Array.size_extract, hz]; omega
  have sY : 0 < ((arrOf st).extract sb (sb + nb)).size := by rw [Array.size_extract, hz]; omega
  unfold maMerge
  exact wpS_ite (fun _ => wpS_bind (fr_mergeLo ⟨C, B.kind, aX, aY⟩ sX sY J)) (fun _ => wpS_bind (fr_mergeHi ⟨C, B.kind, aX, aY⟩ sX sY J))
theorem fr_mergeAt (C : CmpOk prog w A s κ a₀) {st : SortSt} {r1 r2 pw z : Nat} {Q : Bool → SortSt → Prop} (B : PB κ a₀ #[(0, r1, pw), (r1, r2, z)] st) (h1 : 1 ≤ r1) (h2 : 1 ≤ r2) (hs : r1 + r2 = a₀.size)
    (h : ∀ st' p, PB κ a₀ p st' → p.size = 1 → Q true st') : wpS (model prog w) A E s (mergeAt' 0) Q st := by
  rw [mergeAt'_eq]
  refine wpS_bind (wpS_get ?_)
  have e0 : (pendingOf st)[0]? = some (0, r1, pw) := by rw [B.pend]; rfl
  have e1 : (pendingOf st)[0 + 1]? = some (r1, r2, z) := by rw [B.pend]; rfl
  rw [e0, e1]
  refine wpS_bind (wpS_set ?_)
  have hp : (((pendingOf st).setIfInBounds 0 (0, r1 + r2, pw)).eraseIdxIfInBounds 1).size = 1 := by rw [B.pend]; simp [Array.eraseIdxIfInBounds]
  show wpS _ _ _ _ _ _ (setPending st (((pendingOf st).setIfInBounds 0 (0, r1 + r2, pw)).eraseIdxIfInBounds 1))
  generalize ((pendingOf st).setIfInBounds 0 (0, r1 + r2, pw)).eraseIdxIfInBounds 1 = p at hp ⊢
  have B1 : PB κ a₀ p (setPending st p) := ⟨B.perm, B.kind, B.failed, rfl⟩
  show wpS _ _ _ _ (maTail (arrOf (setPending st p)) 0 r1 r1 r2) _ _
  generalize setPending st p = st1 at B1 ⊢
  clear B e0 e1
  have ha := B1.allIn
  have hz := B1.size
  have hl1 : r1 < (arrOf st1).size := by omega
  have hl2 : r1 + r2 ≤ (arrOf st1).size := by omega
  unfold maTail
  refine wpS_bind (fr_elem hl1 fun x ex mx => wpS_bind (fr_gallop C B1.kind (ha _ mx) ha h1 (by rw [Nat.zero_add]; exact Nat.le_of_lt hl1) fun k hk => ?_))
  refine wpS_ite (fun _ => wpS_pure (h _ _ B1 hp)) (fun g => ?_)
  have hk1 : k < r1 := Nat.lt_of_sub_pos (pos_of g)
  refine wpS_bind (fr_elem (by omega) fun y ey my => wpS_bind (fr_gallop C B1.kind (ha _ my) ha (Nat.sub_lt h2 Nat.one_pos) hl2 fun nb hnb => ?_))
  refine wpS_ite (fun _ => wpS_pure (h _ _ B1 hp)) (fun g => ?_)
  exact fr_maMerge C B1 (by rw [Nat.zero_add]; exact hk1) (pos_of g) (by omega) fun st' B' => h _ _ B' hp
noncomputable def Two (κ : SortKind) (a₀ : Array Keyed) (st : SortSt) : Prop := ∃ r1 pw r2, PB κ a₀ #[(0, r1, pw), (r1, r2, 0)] st ∧ 1 ≤ r1 ∧ 1 ≤ r2 ∧ r1 + r2 = a₀.size
noncomputable def RunI (κ : SortKind) (a₀ : Array Keyed) (m x : Nat) (c : Option Unit × Nat) (st : SortSt) : Prop :=
  (∃ lo p, c = (none, lo) ∧ lo ≤ a₀.size ∧ PB κ a₀ p st ∧ ((x = 0 ∧ lo = 0 ∧ p = #[]) ∨ (x = 1 ∧ 1 ≤ lo ∧ a₀.size ≤ lo + m ∧ p = #[(0, lo, 0)]))) ∨ (x = 2 ∧ c = (none, a₀.size) ∧ Two κ a₀ st)
noncomputable def RunQ (κ : SortKind) (a₀ : Array Keyed) (c : Option Unit × Nat) (st : SortSt) : Prop := c.1 = none ∧ ((∃ p, PB κ a₀ p st ∧ p.size ≤ 1) ∨ Two κ a₀ st)
noncomputable def EndI (κ : SortKind) (a₀ : Array Keyed) (x : Nat) (c : Option Unit × Unit) (st : SortSt) : Prop := c.1 = none ∧ ((∃ p, PB κ a₀ p st ∧ p.size ≤ 1) ∨ (x = 0 ∧ Two κ a₀ st))
theorem fr_sortRuns (C : CmpOk prog w A s κ a₀) {st : SortSt} {m : Nat} {Q : Unit → SortSt → Prop} (B : PB κ a₀ #[] st) (h2 : 2 ≤ a₀.size) (hm : minRun' a₀.size a₀.size 0 = m) (h3 : a₀.size ≤ 2 * m) (h4 : 1 ≤ m)
    (h : ∀ st' p, PB κ a₀ p st' → Q () st') : wpS (model prog w) A E s sortRuns' Q st := by
  rw [sortRuns'_eq]
  refine wpS_bind (wpS_get ?_)
  extract_lets -underBinder +onlyGivenNames sz mr lo0
  have qz : sz = a₀.size := B.size
  have qm : mr = m := by show minRun' sz sz 0 = m; rw [qz]; exact hm
  have ql : lo0 = 0 := rfl
  clear_value sz mr lo0
  subst qz qm ql
  refine wpS_bind (wpS_mono (wpS_forR (I := RunI κ a₀ mr) (Q := RunQ κ a₀) ?_ ?_ (.inl ⟨0, #[], rfl, Nat.zero_le _, B, .inl ⟨rfl, rfl, rfl⟩⟩)) ?_)
  · rintro x c st1 _ _ (⟨lo, p, rfl, hlo, B1, hx⟩ | ⟨rfl, rfl, T⟩)
    · refine wpS_ite (fun hge => wpS_pure ⟨rfl, .inl ⟨p, B1, ?_⟩⟩) (fun hlt => ?_)
      · rcases hx with ⟨_, _, e⟩ | ⟨_, _, _, e⟩ <;> rw [e] <;> simp
      dsimp only at hlt
      refine wpS_bind (fr_count C B1 (by dsimp only; omega) (by dsimp only; omega) fun fd st2 B2 f1 f2 => ?_)
      dsimp -zeta -zetaHave only
      dsimp only at f2
      extract_lets -underBinder +onlyGivenNames n0 jp
      have qn : n0 = fd := rfl
      clear_value n0
      subst qn
      have J : ∀ n st3, PB κ a₀ p st3 → 1 ≤ n → lo + n ≤ a₀.size → (mr ≤ n ∨ lo + n = a₀.size) → wpS (model prog w) A E s (jp () n) (StepQ (RunI κ a₀ mr) (RunQ κ a₀) x) st3 := by
        intro n st3 B3 n1 n2 n3
        refine wpS_bind (wpS_get ?_)
        clear_value jp
        extract_lets -underBinder +onlyGivenNames jp2
        rcases hx with ⟨rfl, rfl, rfl⟩ | ⟨rfl, l1, l2, rfl⟩
        · rw [B3.pend]
          show wpS _ _ _ _ (jp2 ()) _ _
          refine wpS_bind (wpS_modify ?_)
          refine wpS_pure (.inl ⟨0 + n, #[(0, n, 0)], rfl, n2, ⟨B3.perm, B3.kind, B3.failed, ?_⟩, .inr ⟨rfl, by omega, by omega, by rw [Nat.zero_add]⟩⟩)
          show (pendingOf st3).push (0, n, 0) = _
          rw [B3.pend]; rfl
        · have J2 : ∀ st4 pw, PB κ a₀ #[(0, lo, pw)] st4 → wpS (model prog w) A E s (jp2 ()) (StepQ (RunI κ a₀ mr) (RunQ κ a₀) 1) st4 := by
            intro st4 pw B4
            refine wpS_bind (wpS_modify ?_)
            refine wpS_pure (.inr ⟨rfl, by rw [show lo + n = a₀.size by omega], lo, pw, n, ⟨B4.perm, B4.kind, B4.failed, ?_⟩, l1, n1, by omega⟩)
            show (pendingOf st4).push (lo, n, 0) = _
            rw [B4.pend]; rfl
          clear_value jp2
          have eb : (pendingOf st3).back? = some (0, lo, 0) := by rw [B3.pend]; rfl
          rw [eb]
          dsimp -zeta -zetaHave only
          extract_lets -underBinder +onlyGivenNames pw
          clear_value pw
          refine wpS_bind (wpS_mono (wpS_forR (I := fun _ c st' => st' = st3 ∧ c.1 = none) (Q := fun c st' => st' = st3 ∧ c.1 = none) ?_ (fun _ _ x => x) ⟨rfl, rfl⟩) ?_)
          · rintro _ ⟨_, _⟩ _ _ _ ⟨rfl, rfl⟩
            refine wpS_bind (wpS_get ?_)
            rw [B3.pend]
            exact wpS_pure ⟨rfl, rfl⟩
          · rintro ⟨_, _⟩ st5 ⟨rfl, rfl⟩
            refine wpS_bind (wpS_modify ?_)
            refine J2 _ pw ⟨B3.perm, B3.kind, B3.failed, ?_⟩
            show (pendingOf st5).modify ((pendingOf st5).size - 1) (fun x => (x.1, x.2.1, pw)) = _
            rw [B3.pend]
            apply Array.toList_inj.mp
            simp
      clear_value jp
      refine wpS_ite (fun hlt2 => wpS_bind (wpS_lift (wpAny_rule ⟨rfl, ?_⟩))) (fun hge2 => J _ _ B2 f1 (by omega) (.inl (by omega)))
      refine wpS_bind (fr_binary C B2 (by omega) fun st3 B3 => ?_)
      refine wpS_ite (fun q => by cases q) (fun _ => ?_)
      exact J _ _ B3 (by omega) (by omega) (by omega)
    · refine wpS_ite (fun hge => wpS_pure ⟨rfl, .inr T⟩) (fun hlt => absurd (Nat.le_refl _) hlt)
  · rintro c st1 (⟨lo, p, rfl, hlo, B1, hx⟩ | ⟨_, rfl, T⟩)
    · omega
    · exact ⟨rfl, .inr T⟩
  · rintro ⟨_, lo⟩ st1 ⟨rfl, hT⟩
    have hT : (∃ p, PB κ a₀ p st1 ∧ p.size ≤ 1) ∨ (0 = 0 ∧ Two κ a₀ st1) := hT.imp id fun x => ⟨rfl, x⟩
    refine wpS_bind (wpS_mono (wpS_forR (I := EndI κ a₀) (Q := fun c st' => c.1 = none ∧ ∃ p, PB κ a₀ p st') ?_ ?_ ⟨rfl, hT⟩) ?_)
    · rintro x ⟨_, _⟩ st2 _ _ ⟨rfl, ⟨p, B2, hp⟩ | ⟨rfl, r1, pw, r2, B2, k1, k2, k3⟩⟩
      · refine wpS_bind (wpS_get ?_)
        rw [B2.pend]
        exact wpS_ite (fun _ => wpS_pure ⟨rfl, p, B2⟩) (fun q => absurd hp q)
      · refine wpS_bind (wpS_get ?_)
        rw [B2.pend]
        refine wpS_ite (fun q => absurd q (by simp)) (fun q => ?_)
        extract_lets -underBinder +onlyGivenNames i bf i2
        have qi : i = 0 := rfl
        have qi2 : i2 = 0 := by show (if _ then i - 1 else i) = 0; rw [qi]; split <;> rfl
        clear_value i2
        subst qi2
        refine wpS_bind (fr_mergeAt C B2 k1 k2 k3 fun st3 p B3 hp => ?_)
        refine wpS_ite (fun q => by cases q) (fun _ => ?_)
        exact wpS_pure ⟨rfl, .inl ⟨p, B3, Nat.le_of_eq hp⟩⟩
    · rintro ⟨_, _⟩ st2 ⟨rfl, ⟨p, B2, hp⟩ | ⟨q, _⟩⟩
      · exact ⟨rfl, p, B2⟩
      · omega
    · rintro ⟨_, _⟩ st2 ⟨rfl, p, B2⟩
      exact wpS_pure (h _ p B2)
end
end Mine

end
section
open PySem PySem.W PyProof.Rows PySem.Calls
set_option Elab.async false
set_option linter.unusedVariables false
set_option linter.unusedSimpArgs false
set_option maxRecDepth 100000
namespace Mine
section
variable {prog : Program} {w : World} {A : Around} {E : Value → Shared → Prop} {s : Shared}
theorem min_run {n : Nat} (h1 : 1 ≤ n) (h : n ≤ 64) : ∃ m, minRun' n n 0 = m ∧ n ≤ 2 * m ∧ 1 ≤ m := by
  by_cases e : n = 64
  · subst e; exact ⟨32, by rfl, by omega, by omega⟩
  · refine ⟨n, ?_, by omega, h1⟩
    obtain ⟨f, rfl⟩ : ∃ f, n = f + 1 := ⟨n - 1, by omega⟩
    rw [minRun'_succ, if_pos (by omega)]
theorem pairs_mem {vs : List Value} {x : Keyed} (h : x ∈ (pairsOf vs).toList) : x.1 = x.2 ∧ x.1 ∈ vs := by
  have e : (pairsOf vs).toList = vs.zip vs := by unfold pairsOf; rw [Array.toList_zip]
  rw [e] at h
  have h1 := List.of_mem_zip h
  refine ⟨?_, h1.1⟩
  rw [List.zip_eq_zipWith, List.zipWith_self] at h
  obtain ⟨v, _, rfl⟩ := List.mem_map.mp h
  rfl
/-- what a sort leaves of its items -/
noncomputable def Runs2 (prog : Program) (w : World) (A : Around) (s : Shared) (vs : List Value) (R : Array Keyed → Prop) : Prop :=
  ∃ κ : SortKind, (∀ (E : Value → Shared → Prop) (Q : SortKind → Shared → Prop), Q κ s → wpAny (model prog w) A (keyKind' vs.toArray) Q E s) ∧
    ∀ E : Value → Shared → Prop, wpS (model prog w) A E s sortRuns' (fun _ st' => (arrOf st').Perm (pairsOf vs) ∧ failedOf st' = none ∧ R (arrOf st')) (SortSt.mk' κ (vs.toArray.zip vs.toArray) #[] 7 none)
noncomputable def KeptT (s s6 : Shared) : Prop := ∀ b o, s.heap.get? b = some o → o.cls = .type "tuple" → s6.heap.get? b = some o
theorem sort_gen {a : Addr} {vs : List Value} {n : Nat} {P : PySem.Fin → Shared → Prop} {R : Array Keyed → Prop} (ho : s.heap.get? a = some (seqObj "list" vs.toArray n)) (h64 : vs.length ≤ 64)
    (hK : ∀ A s6, KeptT s s6 → 2 ≤ vs.length → Runs2 prog w A s6 vs R) (hR : vs.length < 2 → R (pairsOf vs))
    (h : ∀ out : Array Keyed, out.Perm (pairsOf vs) → R out → P (.done (.ret .none)) { s with heap := sortedHeap s.heap a vs (out.map (·.2)) }) :
    wpAny (model prog w) A (Builtin.«list.sort» ⟨[.ref a], []⟩) P E s := by
  rw [list_sort_plain]
  have ha : a < s.heap.objs.size := Heap.lt_size ho
  have hne : ∀ b o, s.heap.get? b = some o → o.cls = .type "tuple" → b ≠ a := fun b o e hc q => by rw [q, ho] at e; cases e; exact absurd hc (show ¬ (Value.type "list" = Value.type "tuple") by decide)
  refine wpAny_bind (listItems_at ho rfl ?_)
  refine wpAny_bind (listUpdate_at ho rfl ?_ (by rw [List.size_toArray, sizeLine_eq]; omega) (Nat.zero_le _))
  obtain ⟨e1, ho1⟩ : ∃ e1, (s.heap.update a (Obj.mapSeq fun _ => (#[] : Array Value))).get? a = some (seqObj "list" #[] e1) := ⟨_, get?_update_seq ho (fun _ => #[])⟩
  refine wpAny_bind (seqEpoch_at ho1 rfl ?_)
  refine wpAny_bind (wpAny_newTuple ?_ (by show vs.length ≤ _; rw [sizeLine_eq]; omega))
  refine wpAny_bind (wpAny_newList ?_ (Nat.zero_le _))
  refine wpAny_holding ?_
  have ho6 : (((s.heap.update a (Obj.mapSeq fun _ => (#[] : Array Value))).push (seqObj "tuple" vs.toArray 0)).push (seqObj "list" #[] 0)).get? a = some (seqObj "list" #[] e1) := Heap.get?_push_of_some _ (Heap.get?_push_of_some _ ho1)
  have old : KeptT s { s with heap := ((s.heap.update a (Obj.mapSeq fun _ => (#[] : Array Value))).push (seqObj "tuple" vs.toArray 0)).push (seqObj "list" #[] 0) } := fun b o e hc =>
    Heap.get?_push_of_some _ (Heap.get?_push_of_some _ ((Heap.get?_update_other _ _ (Ne.symm (hne b o e hc))).trans e))
  show wpAny (model prog w) A _ P E { s with heap := ((s.heap.update a (Obj.mapSeq fun _ => (#[] : Array Value))).push (seqObj "tuple" vs.toArray 0)).push (seqObj "list" #[] 0) }
  dsimp only
  have hsz : vs.toArray.size = vs.length := by simp
  by_cases h2 : vs.toArray.size < 2
  · rw [if_pos h2, if_pos h2]
    refine wpAny_bind (wpAny_pure ?_)
    rw [StateT.run_pure]
    refine wpAny_bind (wpAny_pure ?_)
    refine wpAny_bind (seqEpoch_at ho6 rfl ?_)
    refine wpAny_bind (listUpdate_at ho6 rfl ?_ (Nat.zero_le _) (by rw [Array.size_map]; show (pairsOf vs).size ≤ _; rw [pairsOf_size, sizeLine_eq]; omega))
    refine w_ff' (by simp) (wpAny_pure ?_)
    exact h _ (Array.Perm.refl _) (hR (by omega))
  · rw [if_neg h2, if_neg h2]
    obtain ⟨κ, k1, k2⟩ := hK _ _ old (by omega)
    refine wpAny_bind (k1 _ _ ?_)
    refine wpAny_bind (wpAny_mono (k2 E) ?_ fun _ _ e => e)
    rintro ⟨⟨⟩, st'⟩ s' ⟨rfl, g1, g2, g3⟩
    refine wpAny_bind (seqEpoch_at ho6 rfl ?_)
    refine wpAny_bind (listUpdate_at ho6 rfl ?_ (Nat.zero_le _) (by rw [Array.size_map, g1.size_eq, pairsOf_size, sizeLine_eq]; omega))
    rw [g2]
    refine w_ff' (by simp) (wpAny_pure ?_)
    exact h _ g1 g3
theorem sorted_gen {l : Addr} {vs : List Value} {R : Array Keyed → Prop} {Q : Value → Shared → Prop} (hl : s.heap.IsList l vs.toArray) (h64 : vs.length ≤ 64)
    (hK : ∀ A s6, KeptT s s6 → 2 ≤ vs.length → Runs2 prog w A s6 vs R) (hR : vs.length < 2 → R (pairsOf vs))
    (h : ∀ out : Array Keyed, out.Perm (pairsOf vs) → R out → Q (.ref (s.heap.objs.size + 1)) { s with heap := sortedAll s.heap vs (out.map (·.2)) }) :
    wpAny (model prog w) A (call (.builtin "sorted") [.ref l]) Q E s := by
  refine Calls.call_function_entry kind_sorted plain_sorted entry_sorted (args_sorted1 _) ?_
  unfold Builtin.«sorted»
  refine wpAny_bind (m := checkCount "sorted" 1 1 _) (wpAny_pure ?_)
  refine wpAny_bind (collect_list hl ?_ (by rw [sizeLine_eq]; omega))
  refine wpAny_bind (wpAny_newList ?_ (by rw [sizeLine_eq]; omega))
  have hsz : ((s.heap.push (seqObj "list" #[] 0)).update s.heap.objs.size (Obj.mapSeq (· ++ vs.toArray))).objs.size = s.heap.objs.size + 1 := by
    rw [Heap.size_update, size_push']
  have hoL : (((s.heap.push (seqObj "list" #[] 0)).update s.heap.objs.size (Obj.mapSeq (· ++ vs.toArray))).push (seqObj "list" vs.toArray 0)).get? (s.heap.objs.size + 1) = some (seqObj "list" vs.toArray 0) := by
    rw [← hsz]; exact Heap.get?_push_size _ rfl
  have old : ∀ b o, s.heap.get? b = some o → (((s.heap.push (seqObj "list" #[] 0)).update s.heap.objs.size (Obj.mapSeq (· ++ vs.toArray))).push (seqObj "list" vs.toArray 0)).get? b = some o := fun b o e =>
    Heap.get?_push_of_some _ ((Heap.get?_update_other _ _ (Nat.ne_of_gt (Heap.lt_size e))).trans (Heap.get?_push_of_some _ e))
  show wpAny _ _ _ _ _ { s with heap := ((s.heap.push (seqObj "list" #[] 0)).update s.heap.objs.size (Obj.mapSeq (· ++ vs.toArray))).push (seqObj "list" vs.toArray 0) }
  rw [hsz]
  refine wpAny_bind (wpAny_holding (wpAny_call_entry slot_list_sort ⟨_, hoL, rfl⟩ entry_list_sort (sort_gen hoL h64 (fun A s6 k => hK A s6 fun b o e hc => k b o (old _ _ e) hc) hR fun out a1 a2 => ⟨_, rfl, ?_⟩) (args_list_sort _)))
  exact wpAny_pure ⟨_, rfl, h out a1 a2⟩
/-- tuples of ints: the same items -/
theorem runs_tup {vs : List Value} {ps : List (List Int)} (hl : vs.length = ps.length) (hv : ∀ (i : Nat) v q, vs[i]? = some v → ps[i]? = some q → TupAt s.heap v q) (m : Nat) (hps : ∀ q ∈ ps, q.length = m + 1) (h64 : vs.length ≤ 64) (hn2 : 2 ≤ vs.length) : Runs2 prog w A s vs (fun _ => True) := by
  obtain ⟨mr, hm1, hm2, hm3⟩ := min_run (n := vs.length) (by omega) h64
  refine ⟨tuples' true, fun E Q hQ => pairs_kind hl hv (fun q hq e => by have := hps q hq; rw [e] at this; cases this) (by omega) hQ, fun E => ?_⟩
  refine fr_sortRuns (κ := tuples' true) (a₀ := pairsOf vs) (m := mr) ?_ ⟨Array.Perm.refl _, rfl, rfl, rfl⟩ (by rw [pairsOf_size]; exact hn2) (by rw [pairsOf_size]; exact hm1) (by rw [pairsOf_size]; exact hm2) hm3 (fun st' p b => ⟨b.perm, b.failed, trivial⟩)
  intro x hx y hy
  obtain ⟨_, mx⟩ := pairs_mem hx
  obtain ⟨_, my⟩ := pairs_mem hy
  obtain ⟨i, hi, ei⟩ := List.getElem_of_mem mx
  obtain ⟨j, hj, ej⟩ := List.getElem_of_mem my
  have g1 : vs[i]? = some x.1 := by rw [List.getElem?_eq_getElem hi, ei]
  have g2 : vs[j]? = some y.1 := by rw [List.getElem?_eq_getElem hj, ej]
  have k1 : ps[i]? = some ps[i] := List.getElem?_eq_getElem (hl ▸ hi)
  have k2 : ps[j]? = some ps[j] := List.getElem?_eq_getElem (hl ▸ hj)
  exact ⟨_, fun E Q hQ => pair_lt (hv i _ _ g1 k1) (hv j _ _ g2 k2) ((hps _ (List.mem_of_getElem? k1)).trans (hps _ (List.mem_of_getElem? k2)).symm) hQ⟩
/-- ints that rise already -/
theorem asc_runs {a₀ : Array Keyed} {st : SortSt} {m : Nat} {Q : Unit → SortSt → Prop} (h0 : IntKeys a₀) (hB : SBase a₀ st) (hs : SortedTo (arrOf st) a₀.size) (h2 : 2 ≤ a₀.size) (hm : minRun' a₀.size a₀.size 0 = m) (h3 : m ≤ a₀.size)
    (h : ∀ st', arrOf st' = arrOf st → failedOf st' = none → Q () st') : wpS (model prog w) A E s sortRuns' Q st := by
  rw [sortRuns'_eq]
  refine wpS_bind (wpS_get ?_)
  extract_lets -underBinder +onlyGivenNames sz mr lo0
  have qz : sz = a₀.size := hB.size
  have qm : mr = m := by show minRun' sz sz 0 = m; rw [qz]; exact hm
  have ql : lo0 = 0 := rfl
  clear_value sz mr lo0
  subst qz qm ql
  refine wpS_bind (wpS_mono (wpS_forR (I := fun x c st' => (x = 0 ∧ c = (none, 0) ∧ st' = st) ∨ (1 ≤ x ∧ c = (none, a₀.size) ∧ arrOf st' = arrOf st ∧ failedOf st' = none ∧ (pendingOf st').size = 1))
    (Q := fun c st' => c.1 = none ∧ arrOf st' = arrOf st ∧ failedOf st' = none ∧ (pendingOf st').size = 1) ?_ ?_ (.inl ⟨rfl, rfl, rfl⟩)) ?_)
  · rintro x _ st1 _ _ (⟨rfl, rfl, rfl⟩ | ⟨h1, rfl, e1, e2, e3⟩)
    · refine wpS_ite (fun hge => by dsimp only at hge; omega) (fun hlt => ?_)
      rw [Nat.sub_zero, countRun0_eq]
      refine wpS_bind (wpS_bind (wpS_ascLoop h0 (Nat.le_refl _) (Nat.le_refl 1) (by omega) hB (fun i j hij hj => hs i j hij (by omega)) fun n hn1 hn2 hsn hor => ?_))
      obtain rfl : n = a₀.size := hor.elim id fun q => by
        rcases Nat.lt_or_ge n a₀.size with g | g
        · have := hs (n - 1) n (Nat.sub_le _ _) g; omega
        · omega
      refine wpS_ite (fun _ => wpS_pure ?_) (fun q => absurd (by simp) q)
      dsimp -zeta -zetaHave only
      extract_lets -underBinder +onlyGivenNames n0 jp
      refine wpS_ite (fun q => by have : n0 < mr := q; have : n0 = a₀.size := rfl; omega) (fun _ => ?_)
      refine wpS_bind (wpS_get ?_)
      have qn : 0 + n0 = a₀.size := Nat.zero_add _
      clear_value n0
      rw [hB.pend]
      refine wpS_bind (wpS_modify (wpS_pure (.inr ⟨Nat.le_refl _, ?_, rfl, hB.failed, ?_⟩)))
      · rw [qn]
      · show ((pendingOf st1).push _).size = 1
        rw [hB.pend]; rfl
    · exact wpS_ite (fun hge => wpS_pure ⟨rfl, e1, e2, e3⟩) (fun hlt => absurd (Nat.le_refl _) hlt)
  · rintro c st1 (⟨q, _⟩ | ⟨_, rfl, e1, e2, e3⟩)
    · omega
    · exact ⟨rfl, e1, e2, e3⟩
  · rintro ⟨_, lo⟩ st1 ⟨rfl, e1, e2, e3⟩
    refine wpS_bind (wpS_mono (wpS_forR (I := fun _ c st' => st' = st1 ∧ c.1 = none) (Q := fun c st' => st' = st1 ∧ c.1 = none) ?_ (fun _ _ x => x) ⟨rfl, rfl⟩) ?_)
    · rintro _ ⟨_, _⟩ _ _ _ ⟨rfl, rfl⟩
      refine wpS_bind (wpS_get ?_)
      exact wpS_ite (fun _ => wpS_pure ⟨rfl, rfl⟩) (fun q => absurd (Nat.le_of_eq e3) q)
    · rintro ⟨_, _⟩ _ ⟨rfl, rfl⟩
      exact wpS_pure (h _ e1 e2)
theorem perm_reps {h : Heap} {vs vs' : List Value} (p : vs'.Perm vs) : ∀ {ps : List PV}, VReps h ps vs → ∃ ps', ps'.Perm ps ∧ VReps h ps' vs' := by
  induction p with
  | nil => intro ps x; exact ⟨ps, .refl _, x⟩
  | cons v _ ih =>
    intro ps x
    cases ps with
    | nil => have := x.nil_inv; cases this
    | cons p ps =>
      obtain ⟨v', r, e, a, b⟩ := x.cons_inv
      cases e
      obtain ⟨ps', q1, q2⟩ := ih b
      exact ⟨p :: ps', q1.cons _, .cons a q2⟩
  | swap u v l =>
    intro ps x
    cases ps with
    | nil => have := x.nil_inv; cases this
    | cons p ps =>
      obtain ⟨v', r, e, a, b⟩ := x.cons_inv
      cases e
      cases ps with
      | nil => have := b.nil_inv; cases this
      | cons p2 ps =>
        obtain ⟨v2, r2, e, a2, b2⟩ := b.cons_inv
        cases e
        exact ⟨p2 :: p :: ps, .swap .., .cons a2 (.cons a b2)⟩
  | trans _ _ ih1 ih2 =>
    intro ps x
    obtain ⟨ps1, q1, x1⟩ := ih2 x
    obtain ⟨ps2, q2, x2⟩ := ih1 x1
    exact ⟨ps2, q2.trans q1, x2⟩
end
section
variable {c : Cx} {μ : Locals} {σ : AHeap}
noncomputable def unI : PV → Int
  | .int i => i
  | _ => 0
noncomputable def unT : PV → List Int
  | .tup l => l.map unI
  | _ => []
theorem unT_tup (q : List Int) : unT (tupI q) = q := by
  show List.map unI (intL q) = q
  unfold intL
  rw [List.map_map]
  exact (List.map_congr_left fun x _ => rfl).trans (List.map_id _)
theorem call_sortedT {a : Addr} {ps : List (List Int)} {Q : PV → St → Prop} (hs : seqAt σ a = some (ps.map tupI)) (hz : ps.length ≤ 64) (m : Nat) (hps : ∀ q ∈ ps, q.length = m + 1)
    (h : ∀ b (ps' : List (List Int)), σ b = none → ps'.Perm ps → Q (.ref b) (μ, σ.set b (.list (ps'.map tupI)))) : WN c VRep [.ref a] (fun vs => call (.builtin "sorted") vs) Q (μ, σ) := fun vs hid stk s ok R hv => by
  obtain ⟨v1, r1, rfl, h1, hv⟩ := hv.cons_inv
  rw [hv.nil_inv]
  simp only [VRep] at h1; subst h1
  obtain ⟨ws, hL, hws⟩ := R.seq hs
  have e1 : ws.length = ps.length := hws.length.trans (List.length_map ..)
  have hg : ∀ (i : Nat) v q, ws[i]? = some v → ps[i]? = some q → VRep s.heap (tupI q) v := fun i v q x y => by
    obtain ⟨v', h1, h2⟩ := hws.get i (tupI q) (by rw [List.getElem?_map, y]; rfl)
    rw [x] at h1; cases h1; exact h2
  refine sorted_gen (R := fun _ => True) hL.isList (by omega) (fun A s6 k h2 => runs_tup e1 (fun i v q x y => ?_) m hps (by omega) h2) (fun _ => trivial) fun out a1 _ => ?_
  · obtain ⟨b, us, n, e, hb, hi⟩ := tupAt_of (hg i v q x y)
    exact ⟨b, us, n, e, k _ _ hb rfl, hi⟩
  have pw : (out.map (·.2)).toList.Perm ws := by
    have := (Array.perm_iff_toList_perm.mp a1).map (·.2)
    rw [Array.toList_map]
    refine this.trans (List.Perm.of_eq ?_)
    unfold pairsOf
    rw [Array.toList_zip]
    exact List.map_snd_zip (Nat.le_refl _)
  obtain ⟨ps1, q1, q2⟩ := perm_reps pw hws
  obtain ⟨ps', rfl⟩ : ∃ ps' : List (List Int), ps1 = ps'.map tupI := by
    refine ⟨ps1.map unT, ?_⟩
    rw [List.map_map]
    symm
    refine (List.map_congr_left fun p hp => ?_).trans (List.map_id _)
    obtain ⟨q, _, rfl⟩ := List.mem_map.mp (q1.mem_iff.mp hp)
    show tupI (unT (tupI q)) = _
    rw [unT_tup]; rfl
  obtain ⟨e, he⟩ := sortedAll_at s.heap ws (out.map (·.2))
  have k : Keeps s.heap (sortedAll s.heap ws (out.map (·.2))) := fun b vs ⟨n, e⟩ => ⟨n, sortedAll_old e⟩
  have hlt : ∀ b ob, s.heap.get? b = some ob → b ≠ s.heap.objs.size + 1 := fun b ob q => Nat.ne_of_lt (Nat.lt_succ_of_lt (Heap.lt_size q))
  have hσ : σ (s.heap.objs.size + 1) = none := by
    cases q : σ (s.heap.objs.size + 1) with
    | none => rfl
    | some o => exact absurd (R.heap _ _ q).lt (Nat.not_lt.mpr (Nat.le_succ _))
  have hb : c.base.get? (s.heap.objs.size + 1) = none := by
    cases q : c.base.get? (s.heap.objs.size + 1) with
    | none => rfl
    | some o => exact absurd rfl (hlt _ _ (R.stays _ _ q))
  have pp : ps'.Perm ps := by
    have := q1.map unT
    rw [List.map_map, List.map_map] at this
    have e : ∀ l : List (List Int), l.map (unT ∘ tupI) = l := fun l => (List.map_congr_left fun q _ => unT_tup q).trans (List.map_id _)
    rw [e, e] at this
    exact this
  refine ⟨.ref (s.heap.objs.size + 1), (μ, σ.set (s.heap.objs.size + 1) (.list (ps'.map tupI))), ?_, rfl, k, h _ _ hσ pp⟩
  refine R.put (s' := { s with heap := sortedAll s.heap ws (out.map (·.2)) }) (fun b ob _ e => sortedAll_old e) (fun vs ⟨_, h1⟩ => absurd rfl (hlt _ _ h1)) hb (fun p hp => hlt _ _ (R.hid p hp).1) (fun f hf => Nat.ne_of_lt (Nat.lt_succ_of_lt (R.frames f hf).1.lt))
    ⟨hb, (out.map (·.2)).toList, ⟨e, by rw [Array.toArray_toList]; exact he⟩, q2.mono k⟩ rfl rfl
theorem runs_int {prog : Program} {w : World} {A : Around} {s : Shared} {vs : List Value} {ns : List Int} (hI : IntsAre vs ns) (h2 : 2 ≤ vs.length) (hz : vs.length < 64 ∨ (vs.length = 64 ∧ ns.Pairwise (· ≤ ·))) : Runs2 prog w A s vs (fun out => SortedTo out (pairsOf vs).size) := by
  refine ⟨oneType', fun E Q hQ => ?_, fun E => ?_⟩
  · obtain ⟨v₁, v₂, rest, rfl⟩ : ∃ v₁ v₂ rest, vs = v₁ :: v₂ :: rest := by
      cases vs with
      | nil => simp at h2
      | cons a l =>
        cases l with
        | nil => simp at h2
        | cons b l => exact ⟨a, b, l, rfl⟩
    rw [keyKind_ints hI]
    exact wpAny_pure hQ
  · rcases hz with hz | ⟨hz, hp⟩
    · exact wpS_sortRuns (a₀ := pairsOf vs) hI.intKeys ⟨Array.Perm.refl _, rfl, rfl, rfl⟩ (by rw [pairsOf_size]; exact h2) (by rw [pairsOf_size]; exact hz) fun st' a1 a2 a3 => ⟨a1, a2, a3⟩
    · have so : SortedTo (pairsOf vs) (pairsOf vs).size := fun i j hij hj => by
        rw [pairsOf_size] at hj
        have kk : ∀ k (hk : k < vs.length), PyProof.Rows.K (pairsOf vs) k = ns.getD k 0 := fun k hk => by
          obtain ⟨hn, t, e⟩ := intsAre_get hI k hk
          have eq : (pairsOf vs)[k]? = some (vs[k], vs[k]) := by
            rw [← Array.getElem?_toList]
            unfold pairsOf
            rw [Array.toList_zip, List.getElem?_zip_eq_some]
            exact ⟨List.getElem?_eq_getElem hk, List.getElem?_eq_getElem hk⟩
          unfold PyProof.Rows.K
          rw [eq, e, List.getD_eq_getElem?_getD, List.getElem?_eq_getElem hn]; rfl
        rw [kk i (by omega), kk j hj]
        exact sorted_getD_le hp hij (by rw [← intsAre_len hI]; exact hj)
      refine asc_runs (a₀ := pairsOf vs) (m := 32) hI.intKeys ⟨Array.Perm.refl _, rfl, rfl, rfl⟩ so (by rw [pairsOf_size]; exact h2) (by rw [pairsOf_size, hz]; rfl) (by rw [pairsOf_size, hz]; decide) (fun st' a1 a2 => ?_)
      have e : arrOf st' = pairsOf vs := a1
      rw [e]
      exact ⟨Array.Perm.refl _, a2, so⟩
theorem call_sortedI {a : Addr} {ns : List Int} {Q : PV → St → Prop} (hs : seqAt σ a = some (intL ns)) (hz : ns.length < 64 ∨ (ns.length = 64 ∧ ns.Pairwise (· ≤ ·))) (h : ∀ b, σ b = none → Q (.ref b) (μ, σ.set b (.list (intL (sortI ns))))) : WN c VRep [.ref a] (fun vs => call (.builtin "sorted") vs)  Q (μ, σ) := fun vs hid stk s ok R hv => by
  obtain ⟨v1, r1, rfl, h1, hv⟩ := hv.cons_inv
  rw [hv.nil_inv]
  simp only [VRep] at h1; subst h1
  obtain ⟨ws, hL, hws⟩ := R.seq hs
  have e1 := hws.length
  simp only [intL, List.length_map] at e1
  have hI := hws.intsAre
  refine sorted_gen (R := fun out => SortedTo out (pairsOf ws).size) hL.isList (by omega) (fun A s6 k h2 => runs_int hI h2 (e1 ▸ hz)) (fun h2 i j hij hj => ?_) fun outK a0 a3 => ?_
  · have : i = j := by rw [pairsOf_size] at hj; omega
    subst this; exact Int.le_refl _
  obtain ⟨ns', a1, a2, a3⟩ := sorted_out hI a0 a3
  generalize outK.map (·.2) = out at a1 ⊢
  obtain ⟨e, he⟩ := sortedAll_at s.heap ws out
  have k : Keeps s.heap (sortedAll s.heap ws out) := fun b vs ⟨n, e⟩ => ⟨n, sortedAll_old e⟩
  have hlt : ∀ b ob, s.heap.get? b = some ob → b ≠ s.heap.objs.size + 1 := fun b ob q => Nat.ne_of_lt (Nat.lt_succ_of_lt (Heap.lt_size q))
  have hσ : σ (s.heap.objs.size + 1) = none := by
    cases q : σ (s.heap.objs.size + 1) with
    | none => rfl
    | some o => exact absurd (R.heap _ _ q).lt (Nat.not_lt.mpr (Nat.le_succ _))
  have hb : c.base.get? (s.heap.objs.size + 1) = none := by
    cases q : c.base.get? (s.heap.objs.size + 1) with
    | none => rfl
    | some o => exact absurd rfl (hlt _ _ (R.stays _ _ q))
  rw [sortI_of a2 a3] at a1
  refine ⟨.ref (s.heap.objs.size + 1), (μ, σ.set (s.heap.objs.size + 1) (.list (intL (sortI ns)))), ?_, rfl, k, h _ hσ⟩
  exact R.put (s' := { s with heap := sortedAll s.heap ws out }) (fun b ob _ e => sortedAll_old e) (fun vs ⟨_, h1⟩ => absurd rfl (hlt _ _ h1)) hb (fun p hp => hlt _ _ (R.hid p hp).1) (fun f hf => Nat.ne_of_lt (Nat.lt_succ_of_lt (R.frames f hf).1.lt))
    ⟨hb, out.toList, ⟨e, he⟩, intsAre_reps a1⟩ rfl rfl
end
end Mine

end
section
open PySem PySem.W PyProof.Rows PySem.Calls
set_option Elab.async false
set_option linter.unusedVariables false
set_option maxRecDepth 100000
namespace Mine
/-! a comprehension with one cell of its own -/
section
variable {c : Cx} {st : St} {μ : Locals} {σ : AHeap}
theorem newEnv_own {M : Model} {A : Around} {E : Value → Shared → Prop} {s : Shared} {scope : Scope} {globals : Addr} {cl : List (Str × Addr)} {qual : Str} {outer : Env} {x : Str} {Q : Env → Shared → Prop}
    (hpush : ∀ h : Heap, pushCells h scope.names = h.push { cls := .type "cell", data := .cell none }) (hcells : ∀ n cl, cellsFrom n scope.names cl = (x, n) :: cl)
    (h : Q (newEnv scope s.heap.objs.size globals ((x, s.heap.objs.size + 1) :: cl) qual none .none (some outer) builtinsNs) { s with heap := (s.heap.push { cls := .type "dict", data := .dict #[] }).push { cls := .type "cell", data := .cell none } }) :
    wpAny M A (newFunctionEnv scope globals cl [] qual none .none (some outer)) Q E s := by
  simp only [newFunctionEnv, Option.isSome_some, if_true]
  refine wpAny_bind (wpAny_alloc ?_)
  refine wpAny_bind (wpAny_layCells _ (fun name kind cells => by cases hkc : kind == NameKind.cell <;> simp) _ _ _ _ ?_)
  rw [hcells, hpush, show ({ s with heap := s.heap.push { cls := .type "dict", data := .dict #[] } } : Shared).heap.objs.size = s.heap.objs.size + 1 from Heap.size_push ..]
  rw [List.forIn_nil]
  exact wpAny_bind (wpAny_pure (wpAny_pure h))
structure CompOkK (c : Cx) (scope : Scope) (x : Str) (cl : List (Str × Addr)) (elt target : Expr) (ifs : List Expr) (items : List PV) (P : AHeap → Prop) (μ : Locals) (σ : AHeap) (Q : Addr → AHeap → Prop) : Prop where
  run : ∀ (c' : Cx) (a C : Addr), c'.toGx = c.toGx → c'.lv = c.lv → c'.env.scope = relabel scope c.env → c'.env.cells = (x, C) :: cl → σ a = none → σ C = none → a ≠ C →
    ∃ I : Nat → St → Prop, I 0 ([], (σ.set a (.list [])).set C (.cell none)) ∧ (∀ k st, I k st → P st.2) ∧
      (∀ k p st, items[k]? = some p → I k st → WAsg c' target p (fun st₁ => WIfs c' ifs (fun b st₂ => (b = true → WE c' elt (fun q st₃ => compQ I (k + 1) a q st₃) st₂) ∧ (b = false → ∃ st₄, I (k + 1) st₄ ∧ St.le st₄ st₂)) st₁) st) ∧
      (∀ st, I items.length st → Q a st.2)
theorem wp_compK {elt target iter : Expr} {ifs : List Expr} {scope : Scope} {pos : Pos} {x : Str} {cl : List (Str × Addr)} {use : Option (Value → Sem Unit)} {QV : Value → Shared → Prop} (hcalm : c.lv.calm = true)
    (hclos : closureFor scope c.env = pure cl) (hpush : ∀ h : Heap, pushCells h scope.names = h.push { cls := .type "cell", data := .cell none }) (hcells : ∀ n cl, cellsFrom n scope.names cl = (x, n) :: cl)
    (hkind : scope.kind = .function) (hnames : ∀ x ∈ scope.names, x.2 = .local → scope.names.lookup x.1 = some .local) (hf : ∀ x, foldedSetIterable iter c.env x = pure x)
    {hid stk s₀} (ok : COk c.lv c.A c.env (stk.map (·.1))) (R : Rep c.base c.os hid ((c.env.locals, st.1) :: stk) st.2 s₀) {p0 : Pos}
    (h : WE c iter  (fun p st₁ => ∃ items P, ItOk c target p st₁ items P ∧ CompOkK c scope x cl elt target ifs items P  st₁.1 st₁.2 (fun a σ' => ∀ C ν s', Rep c.base c.os hid ((C, ν) :: (c.env.locals, st₁.1) :: stk) σ' s' → Keeps s₀.heap s'.heap →
      compPost c.M c.A PostX use QV (.ref a) C (.ok .next) s')) st) :
    wpAny c.M c.A (comprehension (.ListComp elt [⟨target, iter, ifs, 0⟩] scope pos) scope c.env p0 (newList []) false (eval iter c.env) use) QV PostX s₀ := by
  refine wpAny_comprehension_free rfl hf hclos hkind hnames (wpAny_mono (h hid stk s₀ ok R) (fun v s₁ hp => ?_) fun _ _ y => y)
  obtain ⟨p, st₁, R₁, hv, k₁, items, P, hit, hrun⟩ := hp
  refine hit v hid stk s₁ _ _ ok R₁ hv fun it Sk KP hs s₂ IT hS0 hK0 R₂ k₂ => ?_
  refine wpAny_newObj_type ?_ (by size_fits)
  have R₃ := R₂.newList (l := []) (vs := []) .nil
  refine newEnv_own hpush hcells ?_
  dsimp only
  generalize hs₃e : ({ s₂ with heap := s₂.heap.push { cls := .type "list", dict := none, data := .seq ([] : List Value).toArray, slots := #[] } } : Shared) = s₃ at R₃
  have ha3 : s₃.heap = s₂.heap.push { cls := .type "list", dict := none, data := .seq ([] : List Value).toArray, slots := #[] } := by rw [← hs₃e]
  have R₄ : Rep c.base c.os (hs ++ hid) ((s₃.heap.objs.size, []) :: (c.env.locals, st₁.1) :: stk) (st₁.2.set s₂.heap.objs.size (.list [])) { s₃ with heap := s₃.heap.push { cls := .type "dict", data := .dict #[] } } := by
    have Rg := R₃.grow (s' := { s₃ with heap := s₃.heap.push { cls := .type "dict", data := .dict #[] } }) (fun b o e => Heap.get?_push_of_some _ e) rfl rfl
    refine ⟨Rg.stays, Rg.gens, Rg.os, fun q hq => ?_, fun f hf => ?_, ?_, Rg.hnd, Rg.heap, Rg.tk⟩
    · obtain ⟨a1, b1, c1, d1, e1⟩ := Rg.hid q hq
      exact ⟨a1, b1, c1, fun q' => by
        rw [List.map_cons, List.mem_cons] at q'
        rcases q' with q' | q'
        · exact R₃.fresh_hid q hq q'
        · exact d1 q', e1⟩
    · rcases List.mem_cons.mp hf with rfl | hf
      · exact ⟨⟨R₃.fresh_base, _, Heap.Ns.new s₃.heap (.type "dict"), fun x p e => by cases e⟩, R₃.fresh_σ⟩
      · exact Rg.frames f hf
    · rw [List.map_cons, List.nodup_cons]
      exact ⟨fun q => by obtain ⟨f, hf, e⟩ := List.mem_map.mp q; exact R₃.fresh_stk f hf e, Rg.nodup⟩
  have hsz3 : s₃.heap.objs.size = s₂.heap.objs.size + 1 := by rw [ha3]; exact Heap.size_push ..
  have hne5 : (s₂.heap.objs.size : Nat) ≠ s₃.heap.objs.size + 1 := by rw [hsz3]; omega
  have hsz4 : (s₃.heap.push { cls := .type "dict", data := .dict #[] }).objs.size = s₃.heap.objs.size + 1 := Heap.size_push ..
  have R₅ := R₄.alloc (ob := { cls := .type "cell", data := .cell none }) (o := .cell none) ⟨R₄.fresh_base, none, ⟨_, Heap.get?_push_size _ rfl, rfl⟩, rfl⟩
  dsimp only at R₅
  rw [hsz4] at R₅
  have k₃ : Keeps s₂.heap ((s₃.heap.push { cls := .type "dict", data := .dict #[] }).push { cls := .type "cell", data := .cell none }) := fun b vs ⟨n, e⟩ => ⟨n, Heap.get?_push_of_some _ (Heap.get?_push_of_some _ (by rw [ha3]; exact Heap.get?_push_of_some _ e))⟩
  have kall := (k₁.trans k₂).trans k₃
  have hC : st₁.2 (s₃.heap.objs.size + 1) = none := by
    have := R₄.fresh_σ
    dsimp only at this
    rw [hsz4] at this
    rw [AHeap.set_ne] at this
    · exact this
    · exact Ne.symm hne5
  obtain ⟨I, h0, hP, turn, fin⟩ := hrun.run ⟨c.toGx, c.lv, c.A, compEnvC scope ((x, s₃.heap.objs.size + 1) :: cl) s₃.heap.objs.size c.env⟩ s₂.heap.objs.size (s₃.heap.objs.size + 1) rfl rfl rfl rfl R₂.fresh_σ hC hne5
  have hok' : COk c.lv c.A (compEnvC scope ((x, s₃.heap.objs.size + 1) :: cl) s₃.heap.objs.size c.env) (((c.env.locals, st₁.1) :: stk).map (·.1)) := ok.inner rfl hkind rfl rfl
  generalize hs₅e : ({ s₃ with heap := (s₃.heap.push { cls := .type "dict", data := .dict #[] }).push { cls := .type "cell", data := .cell none } } : Shared) = s₅ at R₅
  have ha5 : s₅.heap = (s₃.heap.push { cls := .type "dict", data := .dict #[] }).push { cls := .type "cell", data := .cell none } := by rw [← hs₅e]
  rw [← ha5] at k₃ kall
  have hloop : codeAny c.M c.A (.compLoop (.ListComp elt [⟨target, iter, ifs, 0⟩] scope pos) 0 (.ref it) (.ref s₂.heap.objs.size) (compEnvC scope ((x, s₃.heap.objs.size + 1) :: cl) s₃.heap.objs.size c.env)) (compPost c.M c.A PostX use QV (.ref s₂.heap.objs.size) s₃.heap.objs.size) s₅ := by
    refine codeAny_mono (comp_loop1 (c := ⟨c.toGx, c.lv, c.A, compEnvC scope ((x, s₃.heap.objs.size + 1) :: cl) s₃.heap.objs.size c.env⟩) hcalm IT I hP turn (stk := (c.env.locals, st₁.1) :: stk) hok' (Nat.zero_le _) hS0 (IT.mono _ _ k₃ hK0) h0 R₅ kall) fun r s' hr => ?_
    cases r with
    | ok f =>
      obtain ⟨rfl, st', R', k', q⟩ := hr
      exact fin st' q _ _ s' R' k'
    | error e =>
      exact False.elim hr
  show codeAny c.M c.A (.compStart (.ListComp elt [⟨target, iter, ifs, 0⟩] scope pos) 0 (.ref it) (.ref s₂.heap.objs.size) (compEnvC scope ((x, (s₂.heap.push { cls := .type "list", dict := none, data := .seq ([] : List Value).toArray, slots := #[] }).objs.size + 1) :: cl) (s₂.heap.push { cls := .type "list", dict := none, data := .seq ([] : List Value).toArray, slots := #[] }).objs.size c.env)) _
    ({ s₂ with heap := ((s₂.heap.push { cls := .type "list", dict := none, data := .seq ([] : List Value).toArray, slots := #[] }).push { cls := .type "dict", data := .dict #[] }).push { cls := .type "cell", data := .cell none } } : Shared)
  rw [← ha3, show ({ s₂ with heap := (s₃.heap.push { cls := .type "dict", data := .dict #[] }).push { cls := .type "cell", data := .cell none } } : Shared) = s₅ by rw [← hs₅e, ← hs₃e]]
  refine codeAny_compStart_list hloop ?_
  exact IT.self 0 _ _ _ _ _ _ _ _ hS0 R₅ hloop
theorem S_AssignCompK {x : Str} {pos' spos : Pos} {elt target iter : Expr} {ifs : List Expr} {scope : Scope} {pos : Pos} {y : Str} {cl : List (Str × Addr)} {Q : AFlow → St → Prop} (hcalm : c.lv.calm = true)
    (hsw : swapsWith (.ListComp elt [⟨target, iter, ifs, 0⟩] scope pos) (some (.Name x pos')) spos.line c.env = pure true) (hl : c.env.scope.names.lookup x = some .local)
    (hclos : closureFor scope c.env = pure cl) (hpush : ∀ h : Heap, pushCells h scope.names = h.push { cls := .type "cell", data := .cell none }) (hcells : ∀ n cl, cellsFrom n scope.names cl = (y, n) :: cl)
    (hkind : scope.kind = .function) (hnames : ∀ x ∈ scope.names, x.2 = .local → scope.names.lookup x.1 = some .local) (hf : ∀ x, foldedSetIterable iter c.env x = pure x)
    (h : WE c iter  (fun p st₁ => ∃ items P, ItOk c target p st₁ items P ∧ CompOkK c scope y cl elt target ifs items P  st₁.1 st₁.2 (fun a σ' => Q .next (setL x (.ref a) st₁.1, σ'))) st) :
    WX c (.Assign [.Name x pos'] (.ListComp elt [⟨target, iter, ifs, 0⟩] scope pos) spos)  Q st := fun hid stk s ok R => by
  rw [exec_Assign_Name_used x pos' _ spos hsw]
  refine wpAny_bind (wpAny_standAt (wpAny_bind ?_))
  show wpAny _ _ (do let _ ← comprehension (.ListComp elt [⟨target, iter, ifs, 0⟩] scope pos) scope c.env _ (newList []) false (eval iter c.env) (some (assign (.Name x pos') c.env))) _ _ s
  refine wpAny_bind (wp_compK (use := some (assign (.Name x pos') c.env)) hcalm hclos hpush hcells hkind hnames hf ok R (WT.mono h (fun p st₁ ⟨items, P, hit, hr⟩ => ⟨items, P, hit, ⟨fun c' a C h1 h2 h3 h4 h5 h6 h7 => ?_⟩⟩) fun _ _ y => y))
  obtain ⟨I, h0, hP, turn, fin⟩ := hr.run c' a C h1 h2 h3 h4 h5 h6 h7
  refine ⟨I, h0, hP, turn, fun st' hI C ν s' R' k' => ?_⟩
  have := Asg_local (c := c) (x := x) (pos := pos') (p := .ref a) (μ := st₁.1) (σ := st'.2) (Q := fun st => Q .next st) hl (fin st' hI) (.ref a) hid ((C, ν) :: stk) s' (ok.more C) R'.swap rfl
  refine wpAny_mono this (fun _ s'' hq => ?_) fun e s'' hx => ?_
  · obtain ⟨_, st₂, R₂, _, k₂, q⟩ := hq
    have R₂' := R₂.swap
    obtain ⟨⟨_, m, hn, _⟩, _⟩ := R₂'.frames _ (List.mem_cons_self ..)
    refine ⟨m, hn, fun h' hsb => ?_⟩
    obtain ⟨R₃, kk⟩ := R₂'.popChange (tk := s''.toks) hsb
    exact wpAny_pure (wpAny_pure ⟨.next, st₂, R₃, rfl, (k'.trans k₂).trans kk, q⟩)
  · exact False.elim hx
/-- turns that change nothing but the cell -/
theorem comp_pureK {scope : Scope} {x : Str} {pos : Pos} {cl : List (Str × Addr)} {elt : Expr} {items : List PV} {P : AHeap → Prop} {Q : Addr → AHeap → Prop} (f : Nat → Option PV) (hz : items.length ≤ 1000000) (hP : ∀ τ, σ.Sub τ → P τ) (hx : ∀ env : Env, env.scope = relabel scope c.env → env.scope.names.lookup x = some .cell)
    (turn : ∀ (c' : Cx) (C : Addr), c'.toGx = c.toGx → c'.lv = c.lv → c'.env.scope = relabel scope c.env → c'.env.cells = (x, C) :: cl → ∀ k p τ, items[k]? = some p → σ.Sub τ → τ C = some (.cell (some p)) → WE c' elt (fun q st₃ => f k = some q ∧ τ.Sub st₃.2) ([], τ))
    (fin : ∀ a τ, σ.Sub τ → σ a = none → τ a = some (.list (compL f items.length)) → Q a τ) : CompOkK c scope x cl elt (.Name x pos) [] items P  μ σ Q := by
  refine ⟨fun c' a C h1 h2 h3 h4 h5 h6 h7 => ⟨fun k st => ∃ τ v, st = ([], τ) ∧ σ.Sub τ ∧ τ a = some (.list (compL f k)) ∧ τ C = some (.cell v), ⟨_, none, rfl, (AHeap.sub_set _ h5).off h6, at_set_ne h7 at_set_same, at_set_same⟩, ?_, ?_, ?_⟩⟩
  · rintro k _ ⟨τ, v, rfl, s1, _⟩; exact hP τ s1
  · rintro k p _ hp ⟨τ, v, rfl, s1, s2, s3⟩
    have hk : k < items.length := (List.getElem?_eq_some_iff.mp hp).1
    have hlen := compL_len f k
    refine Asg_cell (hx _ h3) (by rw [h4]; simp) s3 ?_
    refine Ifs_nil ⟨fun _ => ?_, fun q => by cases q⟩
    have s4 : σ.Sub (τ.set C (.cell (some p))) := s1.off h6
    refine WT.mono (turn c' C h1 h2 h3 h4 k p _ hp s4 at_set_same) (fun q st₃ ⟨e, s5⟩ => ?_) fun _ _ x => x
    have s6 := s5 _ _ (at_set_ne h7 s2)
    refine ⟨_, s6, by omega, _, ⟨_, some p, rfl, (s4.trans s5).off h5, by rw [at_set_same, compL_some e], at_set_ne (Ne.symm h7) (s5 _ _ at_set_same)⟩, ⟨(fun _ _ e => by cases e), .refl _⟩⟩
  · rintro _ ⟨τ, v, rfl, s1, s2, _⟩
    exact fin a τ s1 h5 s2
end
end Mine

end
section
open PySem PySem.W
set_option Elab.async false
set_option maxRecDepth 100000
namespace Mine
noncomputable def stAt (i : Nat) : Stmt := PySem.Challenge.rw_dn0048_09.row.prog.main.body.getD i (.Pass default)
noncomputable def clAt (i j : Nat) : Stmt := match stAt i with
  | .ClassDef _ _ _ body _ _ _ _ _ _ _ => body.getD j (.Pass default)
  | _ => .Pass default
/-- the record of a def of the text -/
noncomputable def mkFd (s : Stmt) (q : Str) (dfl kwd pm code : Value) : FuncData := match s with
  | .FunctionDef name args body _ _ _ scope _ _ _ => { name := name, qualname := q, params := args, body := .stmts body, scope := scope, globals := 3, closure := [], defaults := dfl, kwdefaults := kwd, doc := .none, pyModule := pm, annotations := none, code := code, closureTuple := .none, builtins := 0 }
  | _ => default
noncomputable def fdAt : Nat → FuncData
  | 36 => mkFd (clAt 4 1) (Str.ofString "_NodeInfo.__init__") (.none) (.none) (.str (Str.ofString "cpy313.graphlib") 194) (.ref 35)
  | 73 => mkFd (clAt 6 0) (Str.ofString "TopologicalSorter.__init__") (.ref 66) (.none) (.str (Str.ofString "cpy313.graphlib") 194) (.ref 72)
  | 80 => mkFd (clAt 6 1) (Str.ofString "TopologicalSorter._get_nodeinfo") (.none) (.none) (.str (Str.ofString "cpy313.graphlib") 194) (.ref 79)
  | 87 => mkFd (clAt 6 2) (Str.ofString "TopologicalSorter.add") (.none) (.none) (.str (Str.ofString "cpy313.graphlib") 194) (.ref 86)
  | 92 => mkFd (clAt 6 3) (Str.ofString "TopologicalSorter.prepare") (.none) (.none) (.str (Str.ofString "cpy313.graphlib") 194) (.ref 91)
  | 99 => mkFd (clAt 6 4) (Str.ofString "TopologicalSorter.get_ready") (.none) (.none) (.str (Str.ofString "cpy313.graphlib") 194) (.ref 98)
  | 106 => mkFd (clAt 6 5) (Str.ofString "TopologicalSorter.is_active") (.none) (.none) (.str (Str.ofString "cpy313.graphlib") 194) (.ref 105)
  | 120 => mkFd (clAt 6 7) (Str.ofString "TopologicalSorter.done") (.none) (.none) (.str (Str.ofString "cpy313.graphlib") 194) (.ref 119)
  | 127 => mkFd (clAt 6 8) (Str.ofString "TopologicalSorter._find_cycle") (.none) (.none) (.str (Str.ofString "cpy313.graphlib") 194) (.ref 126)
  | 150 => mkFd (stAt 8) (Str.ofString "insort_right") (.ref 142) (.ref 143) (.str (Str.ofString "cpy313.bisect") 376) (.ref 149)
  | 159 => mkFd (stAt 9) (Str.ofString "bisect_right") (.ref 151) (.ref 152) (.str (Str.ofString "cpy313.bisect") 376) (.ref 158)
  | 166 => mkFd (stAt 11) (Str.ofString "heappush") (.none) (.none) (.str (Str.ofString "cpy313.heapq") 405) (.ref 165)
  | 173 => mkFd (stAt 12) (Str.ofString "heappop") (.none) (.none) (.str (Str.ofString "cpy313.heapq") 405) (.ref 172)
  | 180 => mkFd (stAt 13) (Str.ofString "_siftdown") (.none) (.none) (.str (Str.ofString "cpy313.heapq") 405) (.ref 179)
  | 187 => mkFd (stAt 14) (Str.ofString "_siftup") (.none) (.none) (.str (Str.ofString "cpy313.heapq") 405) (.ref 186)
  | 192 => mkFd (stAt 16) (Str.ofString "_law_pairs") (.none) (.none) (.str (Str.ofString "law_dn0048_09") 449) (.ref 191)
  | 197 => mkFd (stAt 17) (Str.ofString "_law_over") (.none) (.none) (.str (Str.ofString "law_dn0048_09") 449) (.ref 196)
  | 202 => mkFd (stAt 18) (Str.ofString "law") (.none) (.none) (.str (Str.ofString "law_dn0048_09") 449) (.ref 201)
  | _ => default
noncomputable def fnO (a : Nat) : Obj := { cls := .type "function", data := .func (fdAt a) }
noncomputable def bdAt (a : Nat) : List Stmt := match (fdAt a).body with | .stmts l => l | _ => []
noncomputable def codeO (nm q : Str) (t : Nat) (ln n kw fl : Int) (a b : Nat) (c d e : Value) (k : Int) (t' : Nat) : Obj :=
  { cls := .type "code", data := .fields #[.str nm t, .str q (t + 1), .str (Str.ofString "/claim/cut.py") (t + 2), .int ln 0, .int n 0, .int 0 0, .int kw 0, .int fl 0, .ref a, .bool true, .int 181 0, .ref b, .none, c, d, e, .int k 0, .int ln 0, .str (Str.ofString "/claim/cut.py") t'] }
noncomputable def esW (P : Params) : Array DictEntry := #[⟨PyData.keyHash P (Str.ofString "__name__"), .str (Str.ofString "__name__") 165, .str (Str.ofString "law_dn0048_09") 449⟩,
    ⟨PyData.keyHash P (Str.ofString "__doc__"), .str (Str.ofString "__doc__") 166, .none⟩,
    ⟨PyData.keyHash P (Str.ofString "__package__"), .str (Str.ofString "__package__") 167, .none⟩,
    ⟨PyData.keyHash P (Str.ofString "__loader__"), .str (Str.ofString "__loader__") 168, .builtin "__main__.__loader__#opaque"⟩,
    ⟨PyData.keyHash P (Str.ofString "__spec__"), .str (Str.ofString "__spec__") 169, .none⟩,
    ⟨PyData.keyHash P (Str.ofString "__annotations__"), .str (Str.ofString "__annotations__") 170, .ref 6⟩,
    ⟨PyData.keyHash P (Str.ofString "__builtins__"), .str (Str.ofString "__builtins__") 171, .ref 4⟩,
    ⟨PyData.keyHash P (Str.ofString "__file__"), .str (Str.ofString "__file__") 173, .str (Str.ofString "/claim/cut.py") 172⟩,
    ⟨PyData.keyHash P (Str.ofString "__cached__"), .str (Str.ofString "__cached__") 174, .none⟩,
    ⟨PyData.keyHash P (Str.ofString "_wall"), .str (Str.ofString "_wall") 193, .ref 21⟩,
    ⟨PyData.keyHash P (Str.ofString "_NODE_OUT"), .str (Str.ofString "_NODE_OUT") 198, .int (-1) 197⟩,
    ⟨PyData.keyHash P (Str.ofString "_NODE_DONE"), .str (Str.ofString "_NODE_DONE") 201, .int (-2) 200⟩,
    ⟨PyData.keyHash P (Str.ofString "_NodeInfo"), .str (Str.ofString "_NodeInfo") 238, .ref 40⟩,
    ⟨PyData.keyHash P (Str.ofString "CycleError"), .str (Str.ofString "CycleError") 256, .ref 55⟩,
    ⟨PyData.keyHash P (Str.ofString "TopologicalSorter"), .str (Str.ofString "TopologicalSorter") 375, .ref 137⟩,
    ⟨PyData.keyHash P (Str.ofString "insort_right"), .str (Str.ofString "insort_right") 390, .ref 150⟩,
    ⟨PyData.keyHash P (Str.ofString "bisect_right"), .str (Str.ofString "bisect_right") 404, .ref 159⟩,
    ⟨PyData.keyHash P (Str.ofString "heappush"), .str (Str.ofString "heappush") 414, .ref 166⟩,
    ⟨PyData.keyHash P (Str.ofString "heappop"), .str (Str.ofString "heappop") 423, .ref 173⟩,
    ⟨PyData.keyHash P (Str.ofString "_siftdown"), .str (Str.ofString "_siftdown") 435, .ref 180⟩,
    ⟨PyData.keyHash P (Str.ofString "_siftup"), .str (Str.ofString "_siftup") 448, .ref 187⟩,
    ⟨PyData.keyHash P (Str.ofString "_law_pairs"), .str (Str.ofString "_law_pairs") 456, .ref 192⟩,
    ⟨PyData.keyHash P (Str.ofString "_law_over"), .str (Str.ofString "_law_over") 462, .ref 197⟩,
    ⟨PyData.keyHash P (Str.ofString "law"), .str (Str.ofString "law") 468, .ref 202⟩]
noncomputable def mgW (P : Params) (x : Str) : Option Value := nsFind (esW P) x
noncomputable def KF (P : Params) : Frag := [(2, { cls := .none, data := .dict #[] }),
  (3, { cls := .type "dict", data := .dict (esW P) 24 }),
  (4, { cls := .type "module", dict := some 0 }),
  (35, codeO (Str.ofString "__init__") (Str.ofString "_NodeInfo.__init__") 218 10 2 0 3 30 31 (.ref 32) (.ref 33) (.ref 34) 223 224),
  (36, fnO 36),
  (39, { cls := .type "dict", data := .dict #[⟨PyData.keyHash P (Str.ofString "__module__"), .str (Str.ofString "__module__") 209, .str (Str.ofString "cpy313.graphlib") 194⟩,
    ⟨PyData.keyHash P (Str.ofString "__firstlineno__"), .str (Str.ofString "__firstlineno__") 213, .int 7 212⟩,
    ⟨PyData.keyHash P (Str.ofString "__slots__"), .str (Str.ofString "__slots__") 217, .ref 29⟩,
    ⟨PyData.keyHash P (Str.ofString "__init__"), .str (Str.ofString "__init__") 225, .ref 36⟩,
    ⟨PyData.keyHash P (Str.ofString "__static_attributes__"), .str (Str.ofString "__static_attributes__") 229, .ref 37⟩,
    ⟨PyData.keyHash P (Str.ofString "node"), .str (Str.ofString "node") 231, .ref 41⟩,
    ⟨PyData.keyHash P (Str.ofString "npredecessors"), .str (Str.ofString "npredecessors") 233, .ref 42⟩,
    ⟨PyData.keyHash P (Str.ofString "successors"), .str (Str.ofString "successors") 235, .ref 43⟩,
    ⟨PyData.keyHash P (Str.ofString "__doc__"), .str (Str.ofString "__doc__") 236, .none⟩] 5 }),
  (40, { cls := .type "type", data := .cls { name := Str.ofString "_NodeInfo", bases := [.type "object"], mro := [.ref 40, .type "object"], ns := 39, qualname := Str.ofString "_NodeInfo", hasDict := false, slotNames := [Str.ofString "node", Str.ofString "npredecessors", Str.ofString "successors"], subclasses := [], abstract := false, collection := none, hasDel := false }, slots := #[none, none, (some (.str (Str.ofString "_NodeInfo") 202)), (some (.str (Str.ofString "_NodeInfo") 210)), (some (.builtin "object.__new__")), (some (.bool false))] }),
  (41, { cls := .type "member_descriptor", data := .fields #[.str (Str.ofString "node") 230, .ref 40, .builtin "proto.slot", .builtin "proto.slot#set", .int 2 0] }),
  (42, { cls := .type "member_descriptor", data := .fields #[.str (Str.ofString "npredecessors") 232, .ref 40, .builtin "proto.slot", .builtin "proto.slot#set", .int 1 0] }),
  (43, { cls := .type "member_descriptor", data := .fields #[.str (Str.ofString "successors") 234, .ref 40, .builtin "proto.slot", .builtin "proto.slot#set", .int 0 0] }),
  (66, { cls := .type "tuple", data := .seq #[.none] 0 }),
  (72, codeO (Str.ofString "__init__") (Str.ofString "TopologicalSorter.__init__") 269 18 2 0 3 67 68 (.ref 69) (.ref 70) (.ref 71) 276 277),
  (73, fnO 73),
  (79, codeO (Str.ofString "_get_nodeinfo") (Str.ofString "TopologicalSorter._get_nodeinfo") 279 27 2 0 3 74 75 (.ref 76) (.ref 77) (.ref 78) 285 286),
  (80, fnO 80),
  (86, codeO (Str.ofString "add") (Str.ofString "TopologicalSorter.add") 288 32 2 0 7 81 82 (.ref 83) (.ref 84) (.ref 85) 297 298),
  (87, fnO 87),
  (91, codeO (Str.ofString "prepare") (Str.ofString "TopologicalSorter.prepare") 300 41 1 0 3 88 89 .none .none (.ref 90) 303 304),
  (92, fnO 92),
  (98, codeO (Str.ofString "get_ready") (Str.ofString "TopologicalSorter.get_ready") 306 49 1 0 3 93 94 (.ref 95) (.ref 96) (.ref 97) 313 314),
  (99, fnO 99),
  (105, codeO (Str.ofString "is_active") (Str.ofString "TopologicalSorter.is_active") 316 60 1 0 3 100 101 (.ref 102) (.ref 103) (.ref 104) 320 321),
  (106, fnO 106),
  (119, codeO (Str.ofString "done") (Str.ofString "TopologicalSorter.done") 330 68 1 0 7 114 115 (.ref 116) (.ref 117) (.ref 118) 341 342),
  (120, fnO 120),
  (126, codeO (Str.ofString "_find_cycle") (Str.ofString "TopologicalSorter._find_cycle") 344 91 1 0 3 121 122 (.ref 123) (.ref 124) (.ref 125) 354 355),
  (127, fnO 127),
  (136, { cls := .type "dict", data := .dict #[⟨PyData.keyHash P (Str.ofString "__module__"), .str (Str.ofString "__module__") 264, .str (Str.ofString "cpy313.graphlib") 194⟩,
    ⟨PyData.keyHash P (Str.ofString "__firstlineno__"), .str (Str.ofString "__firstlineno__") 268, .int 16 267⟩,
    ⟨PyData.keyHash P (Str.ofString "__init__"), .str (Str.ofString "__init__") 278, .ref 73⟩,
    ⟨PyData.keyHash P (Str.ofString "_get_nodeinfo"), .str (Str.ofString "_get_nodeinfo") 287, .ref 80⟩,
    ⟨PyData.keyHash P (Str.ofString "add"), .str (Str.ofString "add") 299, .ref 87⟩,
    ⟨PyData.keyHash P (Str.ofString "prepare"), .str (Str.ofString "prepare") 305, .ref 92⟩,
    ⟨PyData.keyHash P (Str.ofString "get_ready"), .str (Str.ofString "get_ready") 315, .ref 99⟩,
    ⟨PyData.keyHash P (Str.ofString "is_active"), .str (Str.ofString "is_active") 322, .ref 106⟩,
    ⟨PyData.keyHash P (Str.ofString "__bool__"), .str (Str.ofString "__bool__") 329, .ref 113⟩,
    ⟨PyData.keyHash P (Str.ofString "done"), .str (Str.ofString "done") 343, .ref 120⟩,
    ⟨PyData.keyHash P (Str.ofString "_find_cycle"), .str (Str.ofString "_find_cycle") 356, .ref 127⟩,
    ⟨PyData.keyHash P (Str.ofString "static_order"), .str (Str.ofString "static_order") 363, .ref 134⟩,
    ⟨PyData.keyHash P (Str.ofString "__static_attributes__"), .str (Str.ofString "__static_attributes__") 368, .ref 135⟩,
    ⟨PyData.keyHash P (Str.ofString "__dict__"), .str (Str.ofString "__dict__") 370, .ref 138⟩,
    ⟨PyData.keyHash P (Str.ofString "__weakref__"), .str (Str.ofString "__weakref__") 372, .ref 139⟩,
    ⟨PyData.keyHash P (Str.ofString "__doc__"), .str (Str.ofString "__doc__") 373, .none⟩] 4 }),
  (137, { cls := .type "type", data := .cls { name := Str.ofString "TopologicalSorter", bases := [.type "object"], mro := [.ref 137, .type "object"], ns := 136, qualname := Str.ofString "TopologicalSorter", hasDict := true, slotNames := [], subclasses := [], abstract := false, collection := none, hasDel := false }, slots := #[none, none, (some (.str (Str.ofString "TopologicalSorter") 257)), (some (.str (Str.ofString "TopologicalSorter") 265)), (some (.builtin "object.__new__")), (some (.bool true))] }),
  (142, { cls := .type "tuple", data := .seq #[.int 0 378, .none] 0 }),
  (143, { cls := .type "dict", data := .dict #[⟨PyData.keyHash P (Str.ofString "key"), .str (Str.ofString "key") 379, .none⟩] 1 }),
  (149, codeO (Str.ofString "insort_right") (Str.ofString "insort_right") 380 123 4 1 3 144 145 (.ref 146) (.ref 147) (.ref 148) 388 389),
  (150, fnO 150),
  (151, { cls := .type "tuple", data := .seq #[.int 0 391, .none] 0 }),
  (152, { cls := .type "dict", data := .dict #[⟨PyData.keyHash P (Str.ofString "key"), .str (Str.ofString "key") 392, .none⟩] 1 }),
  (158, codeO (Str.ofString "bisect_right") (Str.ofString "bisect_right") 393 129 4 1 3 153 154 (.ref 155) (.ref 156) (.ref 157) 402 403),
  (159, fnO 159),
  (165, codeO (Str.ofString "heappush") (Str.ofString "heappush") 407 150 2 0 3 160 161 (.ref 162) (.ref 163) (.ref 164) 412 413),
  (166, fnO 166),
  (172, codeO (Str.ofString "heappop") (Str.ofString "heappop") 415 153 1 0 3 167 168 (.ref 169) (.ref 170) (.ref 171) 421 422),
  (173, fnO 173),
  (179, codeO (Str.ofString "_siftdown") (Str.ofString "_siftdown") 424 161 3 0 3 174 175 (.ref 176) (.ref 177) (.ref 178) 433 434),
  (180, fnO 180),
  (186, codeO (Str.ofString "_siftup") (Str.ofString "_siftup") 436 172 2 0 3 181 182 (.ref 183) (.ref 184) (.ref 185) 446 447),
  (187, fnO 187),
  (191, codeO (Str.ofString "_law_pairs") (Str.ofString "_law_pairs") 451 187 2 0 3 188 189 .none .none (.ref 190) 454 455),
  (192, fnO 192),
  (196, codeO (Str.ofString "_law_over") (Str.ofString "_law_over") 457 202 2 0 3 193 194 .none .none (.ref 195) 460 461),
  (197, fnO 197),
  (201, codeO (Str.ofString "law") (Str.ofString "law") 463 214 1 0 3 198 199 .none .none (.ref 200) 466 467),
  (202, fnO 202)]
noncomputable abbrev as0 : List Addr := [2, 3, 4, 35, 36, 39, 40, 41, 42, 43, 66, 72, 73, 79, 80, 86, 87, 91, 92, 98, 99, 105, 106, 119, 120, 126, 127, 136, 137, 142, 143, 149, 150, 151, 152, 158, 159, 165, 166, 172, 173, 179, 180, 186, 187, 191, 192, 196, 197, 201, 202]
end Mine

end
section
open PySem PySem.W
set_option maxRecDepth 100000
namespace Mine
section

noncomputable def G (w : World) (base : Heap) (os : OsState) (mb : Str → Option Value) : Gx := ⟨PySem.Challenge.rw_dn0048_09.row.prog, w, base, os, mgW w.params, mb⟩
/-- what is told of the defs -/
structure FnOk (base : Heap) (a : Nat) : Prop where
  get : base.get? a = some (fnO a)
  code : base.CodeRec (fdAt a).code (fdAt a).qualname
structure Bs (G : Gx) : Prop where
  gd : Gd G
  K : (KF G.w.params).In G.base
  fn : ∀ a ∈ [166, 173, 180, 187, 150, 159, 36, 73, 80, 87, 92, 99, 106, 120, 127, 192, 197, 202], FnOk G.base a
  kw : ∀ a ∈ [143, 152], ∃ m, G.base.Ns a m ∧ m (Str.ofString "key") = some .none
/-! the classes -/
section
variable (P : Params)
theorem t_own1 : ownName (KF P) 137 "_node2info" = true := by kernel_rfl
theorem t_own2 : ownName (KF P) 137 "_ready_nodes" = true := by kernel_rfl
theorem t_own3 : ownName (KF P) 137 "_npassedout" = true := by kernel_rfl
theorem t_own4 : ownName (KF P) 137 "_nfinished" = true := by kernel_rfl
theorem t_set1 : setName (KF P) 137 "_node2info" = true := by kernel_rfl
theorem t_set2 : setName (KF P) 137 "_ready_nodes" = true := by kernel_rfl
theorem t_set3 : setName (KF P) 137 "_npassedout" = true := by kernel_rfl
theorem t_set4 : setName (KF P) 137 "_nfinished" = true := by kernel_rfl
theorem t_m1 : methName (KF P) 137 80 "_get_nodeinfo" = true := by kernel_rfl
theorem t_m2 : methName (KF P) 137 87 "add" = true := by kernel_rfl
theorem t_m3 : methName (KF P) 137 92 "prepare" = true := by kernel_rfl
theorem t_m4 : methName (KF P) 137 99 "get_ready" = true := by kernel_rfl
theorem t_m5 : methName (KF P) 137 106 "is_active" = true := by kernel_rfl
theorem t_m6 : methName (KF P) 137 120 "done" = true := by kernel_rfl
theorem t_m7 : methName (KF P) 137 127 "_find_cycle" = true := by kernel_rfl
theorem t_make : makesIn (KF P) 137 = true := by kernel_rfl
theorem t_init : findIn (KF P) (.ref 137) "__init__" = some (some (.ref 73)) := by kernel_rfl
theorem n_make : makesIn (KF P) 40 = true := by kernel_rfl
theorem n_init : findIn (KF P) (.ref 40) "__init__" = some (some (.ref 36)) := by kernel_rfl
theorem n_get0 : slotName (KF P) 40 41 "node" 0 = true := by kernel_rfl
theorem n_get1 : slotName (KF P) 40 42 "npredecessors" 1 = true := by kernel_rfl
theorem n_get2 : slotName (KF P) 40 43 "successors" 2 = true := by kernel_rfl
theorem n_set0 : slotSet (KF P) 40 41 "node" 0 = true := by kernel_rfl
theorem n_set1 : slotSet (KF P) 40 42 "npredecessors" 1 = true := by kernel_rfl
theorem n_set2 : slotSet (KF P) 40 43 "successors" 2 = true := by kernel_rfl
end
theorem len1 {α : Type} {l : List α} (h : l.length = 1) : ∃ a, l = [a] := List.length_eq_one_iff.mp h
theorem len2 {α : Type} {l : List α} (h : l.length = 2) : ∃ a b, l = [a, b] := by
  cases l with
  | nil => cases h
  | cons a t => obtain ⟨b, rfl⟩ := len1 (Nat.succ.inj h); exact ⟨a, b, rfl⟩
theorem len3 {α : Type} {l : List α} (h : l.length = 3) : ∃ a b c, l = [a, b, c] := by
  cases l with
  | nil => cases h
  | cons a t => obtain ⟨b, c, rfl⟩ := len2 (Nat.succ.inj h); exact ⟨a, b, c, rfl⟩


end
section
-- an object of the state
local macro_rules | `(tactic| walk_at "hp") => `(tactic| first | assumption | exact at_set_same | (refine at_set_ne ?_ ?_; (first | assumption | (apply Ne.symm; assumption)); walk_at "hp") | (refine at_set_fresh (by assumption) ?_; walk_at "hp"))
set_option hygiene false in
local macro_rules | `(tactic| walk_at "kd") => `(tactic| first | (rw [hsc]; rfl) | (rw [hsc', relabel_of hsc]; rfl))
set_option hygiene false in
local macro_rules | `(tactic| walk_at "ce") => `(tactic| first | (rw [hce]; rfl) | (rw [hce']; rfl))
set_option hygiene false in
local macro_rules | `(tactic| walk_at "s1") => `(tactic| with_reducible first
  | refine seqQ_next ?_
  | refine seqQ_cont ?_
  | refine seqQ_ret ?_
  | refine loopQ_brk ?_
  | refine S_last ?_
  | refine S_seq ?_
  | refine S_nil ?_
  | (refine S_Assign ?_ ?h1; (case h1 => with_unfolding_all exact rfl))
  | (refine S_AssignSub ?_ ?h1; (case h1 => with_unfolding_all exact rfl))
  | refine S_if ?_
  | refine S_Return ?_
  | refine S_Break ?_
  | refine S_Continue ?_
  | (refine S_Expr ?_ ?h1 ?h2; (case h1 => with_unfolding_all (unfold PySem.interactive; walk_at "kd")); (case h2 => with_unfolding_all exact rfl))
  | (refine' W1_store ?h1 ?_; (case h1 => with_unfolding_all walk_at "kd"))
  | (refine' E_local ?h1 ?h2 ?_ ?h3; (case h1 => with_unfolding_all walk_at "kd"); (case h2 | h3 => with_unfolding_all exact rfl))
  | (refine' E_cell ?h1 ?h2 ?h3 ?_ ?h4; (case h1 => with_unfolding_all walk_at "kd"); (case h2 => with_unfolding_all walk_at "ce"); (case h3 => walk_at "hp"); (case h4 => with_unfolding_all exact rfl))
  | (refine' E_global B.gd ?h1 ?h2 ?h3 ?_ ?h4; (case h1 => with_unfolding_all walk_at "kd"); (case h2 | h3 | h4 => with_unfolding_all exact rfl))
  | refine E_int ?_
  | refine E_none ?_
  | refine E_BinOp ?_
  | refine E_bool ?_
  | (refine E_Subscript ?_ ?h1; (case h1 => with_unfolding_all exact rfl))
  | (refine C_Compare ?_ ?h1; (case h1 => with_unfolding_all exact rfl))
  | refine C_Not ?_
  | refine C_BoolOp ?_
  | refine truthy_b ?_
  | refine bin_add ?_
  | refine bin_sub ?_
  | (refine bin_shr ?h1 ?_; (case h1 => with_unfolding_all decide))
  | refine cmp_lt ?_
  | (refine bin_mul ?_ ?h1; (case h1 => exact mulOk2))
  | refine And_last ?_
  | refine And_step ?_
  | refine Or_last ?_
  | refine Or_step ?_
  | refine orQ_true ?_
  | refine orQ_false ?_
  | refine ifQ_true ?_
  | refine ifQ_false ?_
  | (refine' E_CallG B.gd ?h1 ?h2 ?h3 ?h4 ?_ ?h5 ?h6 ?h7 ?h8; (case h1 => with_unfolding_all walk_at "kd"); (case h2 => with_unfolding_all exact rfl); (case h3 => exact (B.fn _ (by simp)).get); (case h4 | h5 | h6 | h7 | h8 => with_unfolding_all exact rfl))
  | (refine' E_CallB B.gd ?h1 ?h2 ?h3 ?h4 ?_ ?h5 ?h6 ?h7 ?h8; (case h1 => with_unfolding_all walk_at "kd"); (case h2 => with_unfolding_all exact rfl); (case h3 => decide); (case h4 | h5 | h6 | h7 | h8 => with_unfolding_all exact rfl))
  | (refine' E_CallT B.gd ?h1 ?h2 ?h3 ?h4 ?_ ?h5 ?h6 ?h7 ?h8; (case h1 => with_unfolding_all walk_at "kd"); (case h2 => with_unfolding_all exact rfl); (case h3 => decide); (case h4 | h5 | h6 | h7 | h8 => with_unfolding_all exact rfl))
  | refine cmp_gt ?_
  | refine is_none_n ?_
  | refine is_none_r ?_
  | refine is_none_i ?_
  | refine isNot_none_n ?_
  | refine Ifs_one ?_
  | refine Ifs_nil ?_
  | refine cmp_ne ?_
  | refine cmp_eq ?_
  | (refine bin_floordiv ?h1 ?h2 ?_; (case h1 => with_unfolding_all decide); (case h2 => with_unfolding_all decide))
  | refine E_List ?_
  | refine And.intro ⟨_, _, rfl, seq_of (by with_unfolding_all walk_at "hp")⟩ ?_
  | (refine' E_MethList (id := "list.append") F.slot_list_append F.type_list_append ?_ ?h1 ?h2 ?h3 ?h4 ?h5; (case h1 | h2 | h3 | h4 | h5 => with_unfolding_all exact rfl))
  | (refine' E_MethList0 (id := "list.pop") F.slot_list_pop F.type_list_pop ?_ ?h1 ?h2; (case h1 | h2 => with_unfolding_all exact rfl))
  | (refine' E_MethList (id := "list.insert") F.slot_list_insert F.type_list_insert ?_ ?h1 ?h2 ?h3 ?h4 ?h5; (case h1 | h2 | h3 | h4 | h5 => with_unfolding_all exact rfl))
  | (refine' E_MethList (id := "list.pop") F.slot_list_pop F.type_list_pop ?_ ?h1 ?h2 ?h3 ?h4 ?h5; (case h1 | h2 | h3 | h4 | h5 => with_unfolding_all exact rfl))
  | (refine C_value ?_ ?h1; (case h1 => with_unfolding_all exact rfl))
  | (refine E_Tuple ?_)
  | (refine Asg_Tuple rfl ?_ ?h1 ?h2 ?h3; (case h1 | h2 | h3 => with_unfolding_all exact rfl))
  | refine asgAll_cons ?_
  | refine asgAll_nil ?_
  | (refine' Asg_local ?h1 ?_; (case h1 => with_unfolding_all walk_at "kd"))
  | refine Asg_Sub ?_
  | refine A_nil ?_
  | (refine A_cons ?_ ?h1; (case h1 => with_unfolding_all exact rfl))
  | refine E_AttrName ?_
  | (refine E_AttrAny ?_ ?h1; (case h1 => with_unfolding_all exact rfl))
  | (refine S_AssignAttr ?_ ?h1; (case h1 => with_unfolding_all exact rfl))
  | refine S_AugAttr ?_
  | refine E_Named ?_
  | refine inp_add ?_
  | refine inp_sub ?_)

section


variable {w : World} {base : Heap} {os : OsState} {mb : Str → Option Value}
structure Items (f : Nat → PV) (lt : Nat → Nat → Bool) : Prop where
  cmp : ∀ {c : Cx} {i j : Nat} {Q : PV → St → Prop} {st : St}, Q (.bool (lt i j)) st → W2 c VRep (f i) (f j) (compareOp .Lt) Q st
  tot : LtTot lt
section
variable {c : Cx} {μ : Locals} {σ : AHeap} {f : Nat → PV}
theorem itm_len (l : List Nat) : (l.map f).length = l.length := List.length_map ..
theorem itm_at {l : List Nat} {i : Nat} (h : i < l.length) : (l.map f)[(i : Int).toNat]? = some (f (l.getD i 0)) := by
  rw [Int.toNat_natCast, List.getElem?_map, List.getD_eq_getElem?_getD, List.getElem?_eq_getElem h]; rfl
theorem big_of {n : Nat} (h : n ≤ 1000) : n ≤ 16777216 := Nat.le_trans h (by decide)
theorem get_itm {a : Addr} {l : List Nat} {i : Nat} {Q : PV → St → Prop} (hs : σ a = some (.list (l.map f))) (hi : i < l.length) (hz : l.length ≤ 1000) (h : Q (f (l.getD i 0)) (μ, σ)) : GetI c (.ref a) (.int (i : Int)) Q (μ, σ) :=
  get_list (seq_of hs) (Int.natCast_nonneg _) (itm_at hi) (itm_len l ▸ big_of hz) h
theorem set_itm {a : Addr} {l : List Nat} {i x : Nat} {Q : Unit → St → Prop} (hs : σ a = some (.list (l.map f))) (hi : i < l.length) (hz : l.length ≤ 1000) (h : Q () (μ, σ.set a (.list ((l.set i x).map f)))) : W3 c UnitRep (.ref a) (.int (i : Int)) (f x) (fun o i v => setItem o i v) Q (μ, σ) :=
  set_list hs (Int.natCast_nonneg _) (by rw [itm_len]; exact Int.ofNat_lt.mpr hi) (itm_len l ▸ big_of hz) (by rw [Int.toNat_natCast, ← List.map_set]; exact h)
theorem half_cast {n : Nat} (h : 0 < n) : ((n : Int) - 1).fdiv (2 ^ Int.toNat 1) = (((n - 1) / 2 : Nat) : Int) := by
  rw [show (2 : Int) ^ Int.toNat 1 = 2 from rfl, Int.fdiv_eq_ediv_of_nonneg _ (by omega)]; omega
theorem half_lt {n L : Nat} (h : 0 < n) (hl : n < L) : (n - 1) / 2 < n ∧ (n - 1) / 2 < L := by omega
theorem dec_lt {a b : Nat} (h : decide ((a : Int) < (b : Int)) = true) : a < b := Int.ofNat_lt.mp (of_decide_eq_true h)
theorem dec_nlt {a b : Nat} (h : decide ((a : Int) < (b : Int)) = false) : ¬ a < b := fun q => of_decide_eq_false h (Int.ofNat_lt.mpr q)
theorem down_lt {m p q L : Nat} (hm : m + p = L) (h1 : p < q) (h2 : q < L) : L - q < m ∧ L - q + q = L := by omega
theorem suc_sub (n : Nat) : ((n + 1 : Nat) : Int) - 1 = (n : Int) := by omega
theorem kid1 (p : Nat) : p < 2 * p + 1 := by omega
theorem kid2 (p : Nat) : p < 2 * p + 2 := by omega
end
noncomputable def SdI (f : Nat → PV) (lt : Nat → Nat → Bool) (a : Addr) (l : List Nat) (pos x : Nat) (σ : AHeap) (m : Nat) (st : St) : Prop := ∃ l' : List Nat, m < l'.length ∧ l'.length ≤ 1000 ∧ sdnB lt 0 x m l' = sdnB lt 0 x pos l ∧
    st = ([(Str.ofString "heap", .ref a), (Str.ofString "startpos", .int 0), (Str.ofString "pos", .int (m : Int)), (Str.ofString "newitem", f x)], σ.set a (.list (l'.map f)))
theorem siftdown_call (B : Bs (G w base os mb)) {f : Nat → PV} {lt : Nat → Nat → Bool} (H : Items f lt) {n : Nat} {a : Addr} {l : List Nat} {pos x : Nat} {σ : AHeap} {Q : PV → AHeap → Prop} (hs : σ a = some (.list (l.map f))) (hp : pos < l.length) (hx : l.getD pos 0 = x) (hz : l.length ≤ 1000)
    (hQ : Q .none (σ.set a (.list ((sdnB lt 0 x pos l).map f)))) : CallS (G w base os mb) ⟨n + 1, true⟩ (.ref 180) [.ref a, .int 0, .int (pos : Int)] Q σ := by
  refine call_def (fd := fdAt 180) (body := bdAt 180) [Str.ofString "heap", Str.ofString "startpos", Str.ofString "pos"] B.gd (B.fn 180 (by simp)).get rfl rfl (B.fn 180 (by simp)).code rfl rfl rfl rfl rfl rfl (by decide) rfl (fun vs hv => ?_) (fun i => rfl) (fun i => rfl) ?_
  · obtain ⟨v1, v2, v3, rfl⟩ := len3 hv; rfl
  intro c L hc hlv hsc hce hq hf
  obtain ⟨g, lv, A, env⟩ := c
  subst hc hlv
  show WS _ (bdAt 180) _ ([(Str.ofString "heap", .ref a), (Str.ofString "startpos", .int 0), (Str.ofString "pos", .int (pos : Int))], σ)
  clear hq hf hce
  refine S_seq ?_
  repeat walk_at "s1"
  refine get_itm hs hp hz ?_
  rw [hx]
  repeat walk_at "s1"
  refine S_while (SdI f lt a l pos x σ) pos _ ⟨l, hp, hz, rfl, rfl⟩ (by rw [AHeap.set_self _ hs]; exact St.le_refl _) ?_
  clear hp hz hx hs
  rintro m _ ⟨l', hm, hz, hsd, rfl⟩
  repeat walk_at "s1"
  refine ⟨fun hb => ?_, fun hb => ?_⟩
  · have hgt : 0 < m := dec_lt hb
    rw [sdnB, dif_pos hgt] at hsd
    obtain ⟨h1, h2⟩ := half_lt hgt hm
    repeat walk_at "s1"
    rw [half_cast hgt]
    repeat walk_at "s1"
    refine get_itm at_set_same h2 hz ?_
    repeat walk_at "s1"
    refine H.cmp ?_
    repeat walk_at "s1"
    refine ifQ_dec (fun hb => ?_) (fun hb => ?_)
    · rw [if_pos hb] at hsd
      repeat walk_at "s1"
      refine set_itm at_set_same hm hz ?_
      repeat walk_at "s1"
      refine loopQ_cont ((m - 1) / 2) h1 ⟨_, by rw [List.length_set]; exact h2, by rw [List.length_set]; exact hz, hsd, rfl⟩ ?_
      rw [AHeap.set_set]
      exact St.le_app (.refl _)
    · rw [if_neg (by rw [hb]; decide)] at hsd
      repeat walk_at "s1"
      refine set_itm at_set_same hm hz ?_
      rw [AHeap.set_set, hsd]
      exact hQ
  · have hgt : ¬ 0 < m := dec_nlt hb
    rw [sdnB, dif_neg hgt] at hsd
    repeat walk_at "s1"
    refine set_itm at_set_same hm hz ?_
    rw [AHeap.set_set, hsd]
    exact hQ
noncomputable def tlSup : List Stmt := match (bdAt 187).getD 4 (.Pass default) with
  | .While _ body _ _ => body.drop 2
  | _ => []
theorem sift_tail {f : Nat → PV} {c : Cx} {a : Addr} {l : List Nat} {p q : Nat} {E : Int} {x r : PV} {σ : AHeap} {Q : AFlow → St → Prop} (hsc : c.env.scope = (fdAt 187).scope) (hs : σ a = some (.list (l.map f))) (hz : l.length ≤ 1000) (hp : p < l.length) (hq : q < l.length)
    (h : Q .next ([(Str.ofString "heap", .ref a), (Str.ofString "pos", .int (q : Int)), (Str.ofString "endpos", .int E), (Str.ofString "startpos", .int 0), (Str.ofString "newitem", x), (Str.ofString "childpos", .int ((2 * q + 1 : Nat) : Int)), (Str.ofString "rightpos", r)], σ.set a (.list ((l.set p (l.getD q 0)).map f)))) :
    WS c tlSup Q ([(Str.ofString "heap", .ref a), (Str.ofString "pos", .int (p : Int)), (Str.ofString "endpos", .int E), (Str.ofString "startpos", .int 0), (Str.ofString "newitem", x), (Str.ofString "childpos", .int (q : Int)), (Str.ofString "rightpos", r)], σ) := by
  refine S_seq ?_
  repeat walk_at "s1"
  refine get_itm hs hq hz ?_
  repeat walk_at "s1"
  refine set_itm hs hp hz ?_
  repeat walk_at "s1"
  exact h
noncomputable def SuI (f : Nat → PV) (lt : Nat → Nat → Bool) (a : Addr) (l : List Nat) (x : Nat) (σ : AHeap) (m : Nat) (st : St) : Prop := ∃ (p : Nat) (l' : List Nat), m + p = l.length ∧ p < l.length ∧ l'.length = l.length ∧ supB lt 0 p l' = supB lt 0 0 l ∧
    st = ([(Str.ofString "heap", .ref a), (Str.ofString "pos", .int (p : Int)), (Str.ofString "endpos", .int (l.length : Int)), (Str.ofString "startpos", .int 0), (Str.ofString "newitem", f x), (Str.ofString "childpos", .int ((2 * p + 1 : Nat) : Int))], σ.set a (.list (l'.map f)))
theorem siftup_call (B : Bs (G w base os mb)) {f : Nat → PV} {lt : Nat → Nat → Bool} (H : Items f lt) {n : Nat} {a : Addr} {l : List Nat} {x : Nat} {σ : AHeap} {Q : PV → AHeap → Prop} (hs : σ a = some (.list (l.map f))) (hp : 0 < l.length) (hx : l.getD 0 0 = x) (hz : l.length ≤ 1000)
    (hQ : Q .none (σ.set a (.list ((topB lt 0 x l).map f)))) : CallS (G w base os mb) ⟨n + 2, true⟩ (.ref 187) [.ref a, .int 0] Q σ := by
  refine call_def (fd := fdAt 187) (body := bdAt 187) [Str.ofString "heap", Str.ofString "pos"] B.gd (B.fn 187 (by simp)).get rfl rfl (B.fn 187 (by simp)).code rfl rfl rfl rfl rfl rfl (by decide) rfl (fun vs hv => ?_) (fun i => rfl) (fun i => rfl) ?_
  · obtain ⟨v1, v2, rfl⟩ := len2 hv; rfl
  intro c L hc hlv hsc hce hq hf
  obtain ⟨g, lv, A, env⟩ := c
  subst hc hlv
  show WS _ (bdAt 187) _ ([(Str.ofString "heap", .ref a), (Str.ofString "pos", .int 0)], σ)
  clear hq hf hce
  refine S_seq ?_
  repeat walk_at "s1"
  refine len_seq (seq_of hs) (itm_len (f := f) l ▸ big_of hz) ?_
  rw [itm_len]
  repeat walk_at "s1"
  refine get_itm (i := 0) hs hp hz ?_
  rw [hx]
  repeat walk_at "s1"
  refine S_while (SuI f lt a l x σ) l.length _ ⟨0, l, rfl, hp, rfl, rfl, rfl⟩ (by rw [AHeap.set_self _ hs]; exact St.le_refl _) ?_
  clear hp hx hs
  rintro m _ ⟨p, l', hm, hpl, hl', hsu, rfl⟩
  have hz' : l'.length ≤ 1000 := hl' ▸ hz
  have hpl' : p < l'.length := hl' ▸ hpl
  repeat walk_at "s1"
  have fin : ∀ q, p < q → q < l'.length → supB lt 0 q (l'.set p (l'.getD q 0)) = supB lt 0 0 l → ∀ {Q' : AFlow → St → Prop} {r : PV}, loopQ (SuI f lt a l x σ) m Q' .next
      ([(Str.ofString "heap", .ref a), (Str.ofString "pos", .int (q : Int)), (Str.ofString "endpos", .int (l.length : Int)), (Str.ofString "startpos", .int 0), (Str.ofString "newitem", f x), (Str.ofString "childpos", .int ((2 * q + 1 : Nat) : Int)), (Str.ofString "rightpos", r)], (σ.set a (.list (l'.map f))).set a (.list ((l'.set p (l'.getD q 0)).map f))) := fun q h1 h2 h3 Q' r => by
    obtain ⟨d1, d2⟩ := down_lt hm h1 (hl' ▸ h2)
    refine loopQ_next _ d1 ⟨q, _, d2, hl' ▸ h2, by rw [List.length_set]; exact hl', h3, rfl⟩ ?_
    rw [AHeap.set_set]
    exact St.le_app (.refl _)
  refine ⟨fun hb => ?_, fun hb => ?_⟩
  · have hc1 : 2 * p + 1 < l'.length := hl' ▸ dec_lt hb
    rw [supB, dif_pos hc1] at hsu
    repeat walk_at "s1"
    refine andQ_dec (fun hb2 => ?_) (fun hb2 => ?_)
    · have hc2 : 2 * p + 2 < l'.length := hl' ▸ dec_lt (a := 2 * p + 2) hb2
      repeat walk_at "s1"
      refine get_itm at_set_same hc1 hz' ?_
      repeat walk_at "s1"
      refine get_itm (i := 2 * p + 2) at_set_same hc2 hz' ?_
      refine H.cmp ?_
      repeat walk_at "s1"
      refine ifQ_dec (fun hb3 => ?_) (fun hb3 => ?_)
      · rw [if_pos ⟨hc2, by simpa using hb3⟩] at hsu
        iterate 5 walk_at "s1"
        exact sift_tail (q := 2 * p + 2) hsc at_set_same hz' hpl' hc2 (fin _ (kid2 p) hc2 hsu)
      · rw [if_neg (fun q => by rw [q.2] at hb3; cases hb3)] at hsu
        iterate 2 walk_at "s1"
        exact sift_tail hsc at_set_same hz' hpl' hc1 (fin _ (kid1 p) hc1 hsu)
    · have hc2 : ¬ 2 * p + 2 < l'.length := hl' ▸ dec_nlt (a := 2 * p + 2) hb2
      rw [if_neg (fun q => hc2 q.1)] at hsu
      iterate 3 walk_at "s1"
      exact sift_tail hsc at_set_same hz' hpl' hc1 (fin _ (kid1 p) hc1 hsu)
  · have hc1 : ¬ 2 * p + 1 < l'.length := hl' ▸ dec_nlt hb
    rw [supB, dif_neg hc1] at hsu
    repeat walk_at "s1"
    refine set_itm at_set_same hpl' hz' ?_
    repeat walk_at "s1"
    refine WN_call ?_
    refine siftdown_call B H (l := l'.set p x) (x := x) at_set_same (by rw [List.length_set]; exact hpl') (getD_set_same hpl') (by rw [List.length_set]; exact hz') ?_
    rw [AHeap.set_set, AHeap.set_set]
    repeat walk_at "s1"
    unfold topB at hQ
    rw [← hsu] at hQ
    exact hQ
theorem sdn_stay {lt : Nat → Nat → Bool} {hl : List Nat} {j : Nat} (h : ∀ y ∈ hl, lt j y = false) : sdnB lt 0 j hl.length (hl ++ [j]) = hl ++ [j] := by
  have e : (hl ++ [j]).set hl.length j = hl ++ [j] := by simp
  rw [sdnB]
  split
  · rename_i h0
    rw [if_neg, e]
    have hm : (hl.length - 1) / 2 < hl.length := by omega
    have : (hl ++ [j]).getD ((hl.length - 1) / 2) 0 ∈ hl := by
      rw [List.getD_eq_getElem?_getD, List.getElem?_append_left hm, List.getElem?_eq_getElem hm]
      exact List.getElem_mem hm
    rw [h _ this]; decide
  · exact e
theorem push_call (B : Bs (G w base os mb)) {f : Nat → PV} {lt : Nat → Nat → Bool} (H : Items f lt) {n : Nat} {a : Addr} {hl : List Nat} {j : Nat} {σ : AHeap} {Q : PV → AHeap → Prop} (hs : σ a = some (.list (hl.map f))) (hz : hl.length < 1000) (hH : IsHeap lt 0 hl)
    (hQ : ∀ hl' : List Nat, hl'.Perm (hl ++ [j]) → IsHeap lt 0 hl' → ((∀ y ∈ hl, lt j y = false) → hl' = hl ++ [j]) → Q .none (σ.set a (.list (hl'.map f)))) : CallS (G w base os mb) ⟨n + 2, true⟩ (.ref 166) [.ref a, f j] Q σ := by
  refine call_def (fd := fdAt 166) (body := bdAt 166) [Str.ofString "heap", Str.ofString "item"] B.gd (B.fn 166 (by simp)).get rfl rfl (B.fn 166 (by simp)).code rfl rfl rfl rfl rfl rfl (by decide) rfl (fun vs hv => ?_) (fun i => rfl) (fun i => rfl) ?_
  · obtain ⟨v1, v2, rfl⟩ := len2 hv; rfl
  intro c L hc hlv hsc hce hq hf
  obtain ⟨g, lv, A, env⟩ := c
  subst hc hlv
  show WS _ (bdAt 166) _ ([(Str.ofString "heap", .ref a), (Str.ofString "item", f j)], σ)
  clear hq hf hce
  have e : hl.map f ++ [f j] = (hl ++ [j]).map f := by rw [List.map_append]; rfl
  have el : (hl ++ [j]).length = hl.length + 1 := by rw [List.length_append]; rfl
  refine S_seq ?_
  repeat walk_at "s1"
  refine append_list hs (itm_len (f := f) hl ▸ big_of (Nat.le_of_lt hz)) ?_
  rw [e]
  repeat walk_at "s1"
  refine len_seq (seq_of at_set_same) (by rw [itm_len, el]; exact big_of hz) ?_
  rw [itm_len, el]
  repeat walk_at "s1"
  rw [suc_sub]
  refine WN_call ?_
  refine siftdown_call B H (l := hl ++ [j]) (x := j) at_set_same (by rw [el]; exact Nat.lt_succ_self _) (by rw [List.getD_eq_getElem?_getD, List.getElem?_append_right (Nat.le_refl _), Nat.sub_self]; rfl) (by rw [el]; exact hz) ?_
  rw [AHeap.set_set]
  repeat walk_at "s1"
  exact hQ _ push_perm (push_heap H.tot hH) fun h => sdn_stay h
theorem heap_front {lt : Nat → Nat → Bool} {l : List Nat} {x : Nat} (h : IsHeap lt 0 (l ++ [x])) : IsHeap lt 0 l := fun k k0 hk => by
  have := h k k0 (by rw [List.length_append]; exact Nat.lt_add_right _ hk)
  rw [List.getD_eq_getElem?_getD, List.getElem?_append_left hk, List.getD_eq_getElem?_getD, List.getElem?_append_left (by omega)] at this
  rw [List.getD_eq_getElem?_getD, List.getD_eq_getElem?_getD]; exact this
theorem pop_call (B : Bs (G w base os mb)) {f : Nat → PV} {lt : Nat → Nat → Bool} (H : Items f lt) {n : Nat} {a : Addr} {hl : List Nat} {σ : AHeap} {Q : PV → AHeap → Prop} (hs : σ a = some (.list (hl.map f))) (hz : hl.length ≤ 1000) (hne : hl ≠ []) (hH : IsHeap lt 0 hl) (hirr : ∀ a, lt a a = false)
    (hQ : ∀ (x : Nat) (hl' : List Nat), hl.Perm (x :: hl') → IsHeap lt 0 hl' → (∀ k ∈ hl, lt k x = false) → Q (f x) (σ.set a (.list (hl'.map f)))) : CallS (G w base os mb) ⟨n + 3, true⟩ (.ref 173) [.ref a] Q σ := by
  have top : ∀ b t, hl = b :: t → ∀ k ∈ hl, lt k b = false := fun b t e k hk => by
    obtain ⟨q, hq, rfl⟩ := List.getElem_of_mem hk
    have := hH.min H.tot hirr q hq
    rw [List.getD_eq_getElem?_getD, List.getElem?_eq_getElem hq, show hl.getD 0 0 = b by rw [e]; rfl] at this
    exact this
  refine call_def (fd := fdAt 173) (body := bdAt 173) [Str.ofString "heap"] B.gd (B.fn 173 (by simp)).get rfl rfl (B.fn 173 (by simp)).code rfl rfl rfl rfl rfl rfl (by decide) rfl (fun vs hv => ?_) (fun i => rfl) (fun i => rfl) ?_
  · obtain ⟨v1, rfl⟩ := len1 hv; rfl
  intro c L hc hlv hsc hce hq hf
  obtain ⟨g, lv, A, env⟩ := c
  subst hc hlv
  show WS _ (bdAt 173) _ ([(Str.ofString "heap", .ref a)], σ)
  clear hq hf hce
  obtain ⟨m, x, rfl⟩ : ∃ m x, hl = m ++ [x] := by
    rcases List.eq_nil_or_concat hl with e | ⟨m, x, e⟩
    · exact absurd e hne
    · exact ⟨m, x, by rw [e, List.concat_eq_append]⟩
  rw [List.length_append] at hz
  have hm : m.length < 1000 := hz
  rw [List.map_append] at hs
  refine S_seq ?_
  repeat walk_at "s1"
  refine pop_list (l := m.map f) (p := f x) hs (by rw [itm_len]; exact Nat.le_trans (Nat.le_of_lt hm) (by decide)) ?_
  repeat walk_at "s1"
  refine truthy_l (seq_of at_set_same) (itm_len (f := f) m ▸ big_of (Nat.le_of_lt hm)) ?_
  cases m with
  | nil =>
    refine ifQ_false ?_
    repeat walk_at "s1"
    exact hQ x [] (.refl _) (fun k _ h => absurd h (Nat.not_lt_zero _)) (top x [] rfl)
  | cons b t =>
    refine ifQ_true ?_
    repeat walk_at "s1"
    refine get_itm (l := b :: t) (i := 0) at_set_same (Nat.succ_pos _) (Nat.le_of_lt hm) ?_
    repeat walk_at "s1"
    refine set_itm (l := b :: t) (i := 0) at_set_same (Nat.succ_pos _) (Nat.le_of_lt hm) ?_
    repeat walk_at "s1"
    refine WN_call ?_
    refine siftup_call B H (l := x :: t) (x := x) at_set_same (Nat.succ_pos _) rfl (Nat.le_of_lt hm) ?_
    rw [AHeap.set_set, AHeap.set_set]
    repeat walk_at "s1"
    refine hQ b _ ?_ (topB_heap (x := x) (l := x :: t) H.tot (Nat.succ_pos _) (heap_front hH).hole0.set) (top b (t ++ [x]) rfl)
    have := topB_perm (lt := lt) (d := 0) (x := x) (l := x :: t) (Nat.succ_pos _)
    exact (List.perm_append_comm.trans (List.Perm.swap b x t)).trans (this.symm.cons b)


end
section


variable {w : World} {base : Heap} {os : OsState} {mb : Str → Option Value}
noncomputable def natL (l : List Nat) : List PV := l.map fun (k : Nat) => PV.int (k : Int)
theorem natL_len (l : List Nat) : (natL l).length = l.length := List.length_map ..
/-- a sorter -/
structure Srt where
  S : Addr
  D : Addr
  od : Addr
  ep : Nat
  order : List Nat
  info : Nat → Addr
  sc : Nat → Addr
  dx : Nat → Addr
  up : Nat → Option Nat
  np : Nat → Int
  rdy : Option Addr
  rl : List Nat
  pa : Int
  fi : Int
noncomputable def Srt.rv (s : Srt) : PV := match s.rdy with | none => .none | some a => .ref a
noncomputable def Srt.dl (s : Srt) : List (Int × PV) := s.order.map fun (k : Nat) => ((k : Int), PV.ref (s.info k))
noncomputable def Srt.al (s : Srt) : List (Str × PV) := [("_node2info", .ref s.od), ("_ready_nodes", s.rv), ("_npassedout", .int s.pa), ("_nfinished", .int s.fi)]
noncomputable def Srt.nl (s : Srt) (k : Nat) : List PV := [.int (k : Int), .int (s.np k), .ref (s.sc k)]
noncomputable def Srt.own (s : Srt) (a : Addr) : Prop := a = s.S ∨ a = s.D ∨ a = s.od ∨ (∃ k ∈ s.order, a = s.info k ∨ a = s.sc k ∨ a = s.dx k) ∨ s.rdy = some a
structure Srt.At (s : Srt) (σ : AHeap) : Prop where
  inst : σ s.S = some (.raw (instObj 137 s.D))
  attrs : σ s.D = some (.own (attrsR s.al))
  dict : σ s.od = some (.own (idictR s.dl s.ep))
  sysm : (s.od == sysModules) = false
  node : ∀ k ∈ s.order, σ (s.info k) = some (.own (slotsR 40 (s.dx k) (s.nl k)))
  dxs : ∀ k ∈ s.order, σ (s.dx k) = some (.raw emptyDict)
  succ : ∀ k ∈ s.order, σ (s.sc k) = some (.list (natL (s.up k).toList))
  scinj : ∀ j ∈ s.order, ∀ k ∈ s.order, s.sc j = s.sc k → j = k
  ready : ∀ a, s.rdy = some a → σ a = some (.list (natL s.rl)) ∧ ∀ k ∈ s.order, s.sc k ≠ a
  nodup : s.order.Nodup
  small : s.order.length ≤ 1000
  ups : ∀ k ∈ s.order, ∀ u, s.up k = some u → u ∈ s.order
  clean : ∀ k, k ∉ s.order → s.up k = none ∧ s.np k = 0
/-- what a sorter's work leaves alone -/
structure Fr (s : Srt) (σ : AHeap) (s' : Srt) (τ : AHeap) : Prop where
  keep : ∀ a o, ¬ s.own a → σ a = some o → τ a = some o
  off : ∀ a, σ a ≠ none → ¬ s.own a → ¬ s'.own a
theorem Fr.refl (s : Srt) (σ : AHeap) : Fr s σ s σ := ⟨fun _ _ _ e => e, fun _ _ h => h⟩
theorem Fr.trans {s s' s'' : Srt} {σ τ υ : AHeap} (x : Fr s σ s' τ) (y : Fr s' τ s'' υ) : Fr s σ s'' υ := ⟨fun a o h e => y.keep a o (x.off a (by rw [e]; simp) h) (x.keep a o h e), fun a e h => by
  cases q : σ a with
  | none => exact absurd q e
  | some o => exact y.off a (by rw [x.keep a o h q]; simp) (x.off a e h)⟩
theorem Fr.sub {s : Srt} {σ τ : AHeap} (h : σ.Sub τ) : Fr s σ s τ := ⟨fun a o _ e => h a o e, fun _ _ h => h⟩
theorem Srt.At.sub {s : Srt} {σ τ : AHeap} (A : s.At σ) (h : σ.Sub τ) : s.At τ :=
  ⟨h _ _ A.inst, h _ _ A.attrs, h _ _ A.dict, A.sysm, fun k hk => h _ _ (A.node k hk), fun k hk => h _ _ (A.dxs k hk), fun k hk => h _ _ (A.succ k hk), A.scinj, fun a ha => ⟨h _ _ (A.ready a ha).1, (A.ready a ha).2⟩, A.nodup, A.small, A.ups, A.clean⟩
noncomputable def Srt.v (s : Srt) := (s.S, s.order, s.up, s.np, s.rdy, s.rl, s.pa, s.fi)
theorem v_inv {s : Srt} {t : Addr × List Nat × (Nat → Option Nat) × (Nat → Int) × Option Addr × List Nat × Int × Int} (h : s.v = t) : s.S = t.1 ∧ s.order = t.2.1 ∧ s.up = t.2.2.1 ∧ s.np = t.2.2.2.1 ∧ s.rdy = t.2.2.2.2.1 ∧ s.rl = t.2.2.2.2.2.1 ∧ s.pa = t.2.2.2.2.2.2.1 ∧ s.fi = t.2.2.2.2.2.2.2 := by
  subst h; exact ⟨rfl, rfl, rfl, rfl, rfl, rfl, rfl, rfl⟩
theorem Srt.At.infoInj {s : Srt} {σ : AHeap} (A : s.At σ) {j k : Nat} (hj : j ∈ s.order) (hk : k ∈ s.order) (e : s.info j = s.info k) : j = k := by
  have h1 := A.node j hj
  rw [e, A.node k hk] at h1
  have := slots_inj h1
  simp only [Srt.nl, List.cons.injEq, PV.int.injEq] at this
  exact (Int.ofNat.inj this.1).symm
theorem dl_lookup {s : Srt} {k : Nat} : s.dl.lookup (k : Int) = if k ∈ s.order then some (.ref (s.info k)) else none := by
  unfold Srt.dl
  induction s.order with
  | nil => rfl
  | cons j l ih =>
    rw [List.map_cons, List.lookup_cons]
    by_cases h : k = j
    · subst h; simp
    · have hb : ((k : Int) == (j : Int)) = false := beq_eq_false_iff_ne.mpr fun q => h (Int.ofNat.inj q)
      rw [hb]
      simp only [ih, List.mem_cons, h, false_or]
theorem ninit_call (B : Bs (G w base os mb)) {n : Nat} {calm : Bool} {x dx : Addr} {k : Int} {σ : AHeap} {Q : PV → AHeap → Prop} (hx : σ x = some (.own (slotsR 40 dx []))) (hd : σ dx = some (.raw emptyDict))
    (hQ : ∀ c, σ c = none → Q .none ((σ.set c (.list [])).set x (.own (slotsR 40 dx [.int k, .int 0, .ref c])))) : CallS (G w base os mb) ⟨n + 1, calm⟩ (.ref 36) [.ref x, .int k] Q σ := by
  refine call_def (fd := fdAt 36) (body := bdAt 36) [Str.ofString "self", Str.ofString "node"] B.gd (B.fn 36 (by simp)).get rfl rfl (B.fn 36 (by simp)).code rfl rfl rfl rfl rfl rfl (by decide) rfl (fun vs hv => ?_) (fun i => rfl) (fun i => rfl) ?_
  · obtain ⟨v1, v2, rfl⟩ := len2 hv; rfl
  intro c L hc hlv hsc hce hq hf
  obtain ⟨g, lv, A, env⟩ := c
  subst hc hlv
  show WS _ (bdAt 36) _ ([(Str.ofString "self", .ref x), (Str.ofString "node", .int k)], σ)
  clear hq hf hce
  have hxd : dx ≠ x := fun e => by rw [e, hx] at hd; cases hd
  refine S_seq ?_
  repeat walk_at "s1"
  refine set_slotP B.K (n_set0 _) hx hd (Nat.zero_le _) ?_
  repeat walk_at "s1"
  refine set_slotP B.K (n_set1 _) at_set_same (at_set_ne hxd hd) (Nat.le_refl _) ?_
  rw [AHeap.set_set]
  repeat walk_at "s1"
  refine ⟨by simp, fun c hc0 => ?_⟩
  have hc : (σ.set x (.own (slotsR 40 dx [.int k, .int 0]))) c = none := hc0
  have hcx : c ≠ x := fun e => by rw [e, AHeap.set_same] at hc; cases hc
  have hc' : σ c = none := by rw [← AHeap.set_ne σ (.own (slotsR 40 dx [.int k, .int 0])) hcx]; exact hc
  repeat walk_at "s1"
  refine set_slotP B.K (n_set2 _) (at_set_ne (Ne.symm hcx) at_set_same) (at_set_ne (fun e => by rw [← e, hd] at hc'; cases hc') (at_set_ne hxd hd)) (Nat.le_refl _) ?_
  rw [AHeap.set_comm σ _ _ (Ne.symm hcx), AHeap.set_set]
  repeat walk_at "s1"
  exact hQ c hc'
theorem new_node (B : Bs (G w base os mb)) {n : Nat} {calm : Bool} {k : Int} {σ : AHeap} {Q : PV → AHeap → Prop}
    (hQ : ∀ x dx c, σ x = none → σ dx = none → σ c = none → x ≠ dx → c ≠ x → c ≠ dx → Q (.ref x) (((σ.set dx (.raw emptyDict)).set c (.list [])).set x (.own (slotsR 40 dx [.int k, .int 0, .ref c])))) : CallS (G w base os mb) ⟨n + 2, calm⟩ (.ref 40) [.int k] Q σ := by
  refine make_inst B.K (n_make _) (n_init _) (by rfl) (o1 := fun _ => .raw emptyDict) (o2 := fun dx => .own (slotsR 40 dx [])) (fun _ _ _ h => h) (fun _ _ _ _ h => raw_slots h) fun x dx hne hx hdx => ?_
  refine ninit_call B at_set_same (at_set_ne (Ne.symm hne) at_set_same) fun c hc => ⟨rfl, ?_⟩
  have hcx : c ≠ x := fun e => by rw [e, AHeap.set_same] at hc; cases hc
  rw [AHeap.set_ne _ _ hcx] at hc
  have hcd : c ≠ dx := fun e => by rw [e, AHeap.set_same] at hc; cases hc
  rw [AHeap.set_ne _ _ hcd] at hc
  rw [AHeap.set_comm _ _ _ (Ne.symm hcx), AHeap.set_set]
  exact hQ x dx c hx hdx hc hne hcx hcd


end
section


variable {w : World} {base : Heap} {os : OsState} {mb : Str → Option Value}
theorem set_attrE {c : Cx} {μ : Locals} {σ : AHeap} {K : Frag} {C x dx : Addr} {name : Str} {l l' : List (Str × PV)} {p : PV} {Q : Unit → St → Prop} (hK : K.In c.base) (hc : setName K C name = true) (hx : σ x = some (.raw (instObj C dx))) (hd : σ dx = some (.own (attrsR l))) (he : setL name p l = l') (hz : l.length ≤ 50)
    (h : Q () (μ, σ.set dx (.own (attrsR l')))) : W2 c UnitRep (.ref x) p (fun o v => setAttr o name v) Q (μ, σ) := set_attr hK hc hx hd hz (he ▸ h)
theorem tinit_call (B : Bs (G w base os mb)) {n : Nat} {calm : Bool} {x dx : Addr} {σ : AHeap} {Q : PV → AHeap → Prop} (hx : σ x = some (.raw (instObj 137 dx))) (hd : σ dx = some (.own (attrsR [])))
    (hQ : ∀ d ep, σ d = none → (d == sysModules) = false → Q .none ((σ.set d (.own (idictR [] ep))).set dx (.own (attrsR [("_node2info", .ref d), ("_ready_nodes", .none), ("_npassedout", .int 0), ("_nfinished", .int 0)])))) : CallS (G w base os mb) ⟨n + 1, calm⟩ (.ref 73) [.ref x] Q σ := by
  refine call_bind (fd := fdAt 73) (body := bdAt 73) (kw := []) (ps := [.ref x, .none]) [Str.ofString "self", Str.ofString "graph"] B.gd (B.fn 73 (by simp)).get rfl rfl (B.fn 73 (by simp)).code rfl rfl rfl rfl rfl rfl (by decide) rfl ?_ (fun i => rfl) (fun i => rfl) ?_
  · intro A hid stk s vs ks E Q R hv hks hQ
    obtain ⟨v1, r1, rfl, h1, hv⟩ := hv.cons_inv
    obtain rfl := hv.nil_inv
    obtain rfl := hks.nil_inv
    show wpAny _ _ (seqItems? (Value.ref 66) >>= _) _ _ s
    refine wpAny_bind (wpAny_seqItems (R.stays _ _ (B.K 66 _ rfl)) rfl ?_)
    exact wpAny_pure (hQ [v1, .none] s R (.refl _) (.cons h1 (.cons (p := .none) rfl .nil)))
  intro c L hc hlv hsc hce hq hf
  obtain ⟨g, lv, A, env⟩ := c
  subst hc hlv
  show WS _ (bdAt 73) _ ([(Str.ofString "self", .ref x), (Str.ofString "graph", .none)], σ)
  clear hq hf hce
  refine S_seq ?_
  repeat walk_at "s1"
  refine E_Dict0 B.gd fun d ep hd0 hds => ?_
  have hdn : σ d = none := hd0
  have hxd : x ≠ d := fun e => by rw [← e, hx] at hdn; cases hdn
  have hdd : dx ≠ d := fun e => by rw [← e, hd] at hdn; cases hdn
  have hne : x ≠ dx := fun e => by rw [e, hd] at hx; cases hx
  repeat walk_at "s1"
  refine set_attrE (l' := [("_node2info", .ref d)]) B.K (t_set1 _) (at_set_ne hxd hx) (at_set_ne hdd hd) (by kernel_rfl) (by decide) ?_
  repeat walk_at "s1"
  refine set_attrE (l' := [("_node2info", .ref d), ("_ready_nodes", .none)]) B.K (t_set2 _) (at_set_ne hne (at_set_ne hxd hx)) at_set_same (by kernel_rfl) (show (1 : Nat) ≤ 50 by decide) ?_
  rw [AHeap.set_set]
  repeat walk_at "s1"
  refine set_attrE (l' := [("_node2info", .ref d), ("_ready_nodes", .none), ("_npassedout", .int 0)]) B.K (t_set3 _) (at_set_ne hne (at_set_ne hxd hx)) at_set_same (by kernel_rfl) (show (2 : Nat) ≤ 50 by decide) ?_
  rw [AHeap.set_set]
  repeat walk_at "s1"
  refine set_attrE (l' := [("_node2info", .ref d), ("_ready_nodes", .none), ("_npassedout", .int 0), ("_nfinished", .int 0)]) B.K (t_set4 _) (at_set_ne hne (at_set_ne hxd hx)) at_set_same (by kernel_rfl) (show (3 : Nat) ≤ 50 by decide) ?_
  rw [AHeap.set_set]
  repeat walk_at "s1"
  exact hQ d ep hdn hds
/-- a sorter made -/
theorem make_sorter (B : Bs (G w base os mb)) {n : Nat} {calm : Bool} {σ : AHeap} {Q : PV → AHeap → Prop}
    (hQ : ∀ (s : Srt) τ, s.At τ → s.v = (s.S, [], fun _ => none, fun _ => 0, none, [], 0, 0) → σ.Sub τ → (∀ a, s.own a → σ a = none) → Q (.ref s.S) τ) : CallS (G w base os mb) ⟨n + 2, calm⟩ (.ref 137) [] Q σ := by
  refine make_inst B.K (t_make _) (t_init _) (by rfl) (o1 := fun _ => .own (attrsR [])) (o2 := fun dx => .raw (instObj 137 dx)) (fun _ _ _ h => raw_attrs h) (fun _ _ _ _ h => h) fun x dx hne hx hdx => ?_
  refine tinit_call B at_set_same (at_set_ne (Ne.symm hne) at_set_same) fun d ep hd hds => ⟨rfl, ?_⟩
  have hdx' : d ≠ x := fun e => by rw [e, AHeap.set_same] at hd; cases hd
  rw [AHeap.set_ne _ _ hdx'] at hd
  have hdd : d ≠ dx := fun e => by rw [e, AHeap.set_same] at hd; cases hd
  rw [AHeap.set_ne _ _ hdd] at hd
  refine hQ ⟨x, dx, d, ep, [], fun _ => 0, fun _ => 0, fun _ => 0, fun _ => none, fun _ => 0, none, [], 0, 0⟩ _ ⟨at_set_ne hne (at_set_ne (Ne.symm hdx') at_set_same), at_set_same, at_set_ne hdd at_set_same, hds, ?_, ?_, ?_, ?_, ?_, List.nodup_nil, Nat.zero_le _, ?_, fun _ _ => ⟨rfl, rfl⟩⟩ rfl ?_ ?_
  · intro k hk; cases hk
  · intro k hk; cases hk
  · intro k hk; cases hk
  · intro k hk; cases hk
  · intro a ha; cases ha
  · intro k hk; cases hk
  · intro a o e
    have n1 : a ≠ x := fun q => by rw [q, hx] at e; cases e
    have n2 : a ≠ dx := fun q => by rw [q, hdx] at e; cases e
    have n3 : a ≠ d := fun q => by rw [q, hd] at e; cases e
    exact at_set_ne n2 (at_set_ne n3 (at_set_ne n1 (at_set_ne n2 e)))
  · rintro a (rfl | rfl | rfl | ⟨k, hk, _⟩ | h)
    · exact hx
    · exact hdx
    · exact hd
    · cases hk
    · cases h
noncomputable def Srt.plus (s : Srt) (k : Nat) (x d c : Addr) (ep : Nat) : Srt := { s with ep := ep, order := s.order ++ [k], info := fun j => if j = k then x else s.info j, sc := fun j => if j = k then c else s.sc j, dx := fun j => if j = k then d else s.dx j, up := fun j => if j = k then none else s.up j, np := fun j => if j = k then 0 else s.np j }
theorem plus_at {s : Srt} {σ : AHeap} (A : s.At σ) {k : Nat} {x d c : Addr} {ep : Nat} (hk : k ∉ s.order) (hz : s.order.length < 1000) (hx : σ x = none) (hd : σ d = none) (hc : σ c = none) (h1 : x ≠ d) (h2 : c ≠ x) (h3 : c ≠ d) :
    (s.plus k x d c ep).At ((((σ.set d (.raw emptyDict)).set c (.list [])).set x (.own (slotsR 40 d [.int k, .int 0, .ref c]))).set s.od (.own (idictR (s.dl ++ [((k : Int), .ref x)]) ep))) ∧
    Fr s σ (s.plus k x d c ep) ((((σ.set d (.raw emptyDict)).set c (.list [])).set x (.own (slotsR 40 d [.int k, .int 0, .ref c]))).set s.od (.own (idictR (s.dl ++ [((k : Int), .ref x)]) ep))) := by
  have old : ∀ a o, σ a = some o → a ≠ s.od → ((((σ.set d (.raw emptyDict)).set c (.list [])).set x (.own (slotsR 40 d [.int k, .int 0, .ref c]))).set s.od (.own (idictR (s.dl ++ [((k : Int), .ref x)]) ep))) a = some o := fun a o e hne =>
    at_set_ne hne (at_set_fresh (by rw [AHeap.set_ne _ _ (Ne.symm h2), AHeap.set_ne _ _ h1]; exact hx) (at_set_fresh (by rw [AHeap.set_ne _ _ h3]; exact hc) (at_set_fresh hd e)))
  have ne_od : ∀ a o, σ a = some o → (∀ l e, o ≠ .own (idictR l e)) → a ≠ s.od := fun a o e h q => by rw [q, A.dict] at e; exact h _ _ (Option.some.inj e).symm
  have odn : ∀ a, σ a = none → a ≠ s.od := fun a e q => by rw [q, A.dict] at e; cases e
  have nk : ∀ j ∈ s.order, j ≠ k := fun j hj e => hk (e ▸ hj)
  have mem : ∀ j, j ∈ s.order ++ [k] → j ∈ s.order ∨ j = k := fun j hj => by simpa using hj
  refine ⟨⟨old _ _ A.inst (ne_od _ _ A.inst fun _ _ e => by cases e), old _ _ A.attrs (ne_od _ _ A.attrs fun l e q => by have := congrArg (fun o => match o with | AObj.own r => r.lab | _ => .no) q; cases this), ?_, A.sysm, ?_, ?_, ?_, ?_, ?_, ?_, ?_, ?_, ?_⟩, ?_, ?_⟩
  · have : (s.plus k x d c ep).dl = s.dl ++ [((k : Int), .ref x)] := by
      unfold Srt.dl Srt.plus
      simp only [List.map_append, List.map_cons, List.map_nil, if_true]
      congr 1
      exact List.map_congr_left fun j hj => by rw [if_neg (nk j hj)]
    rw [this]; exact at_set_same
  · intro j hj
    rcases mem j hj with hj | rfl
    · simp only [Srt.plus, Srt.nl, if_neg (nk j hj)]
      exact old _ _ (A.node j hj) (ne_od _ _ (A.node j hj) fun l e q => by have := congrArg (fun o => match o with | AObj.own r => r.lab | _ => .no) q; cases this)
    · simp only [Srt.plus, Srt.nl, if_true]
      exact at_set_ne (odn _ hx) at_set_same
  · intro j hj
    rcases mem j hj with hj | rfl
    · simp only [Srt.plus, if_neg (nk j hj)]
      exact old _ _ (A.dxs j hj) (ne_od _ _ (A.dxs j hj) fun _ _ e => by cases e)
    · simp only [Srt.plus, if_true]
      exact at_set_ne (odn _ hd) (at_set_ne (Ne.symm h1) (at_set_ne (Ne.symm h3) at_set_same))
  · intro j hj
    rcases mem j hj with hj | rfl
    · simp only [Srt.plus, if_neg (nk j hj)]
      exact old _ _ (A.succ j hj) (ne_od _ _ (A.succ j hj) fun _ _ e => by cases e)
    · simp only [Srt.plus, if_true]
      exact at_set_ne (odn _ hc) (at_set_ne h2 at_set_same)
  · intro i hi j hj e
    rcases mem i hi with h1 | h1 <;> rcases mem j hj with h2 | h2
    · simp only [Srt.plus, if_neg (nk i h1), if_neg (nk j h2)] at e
      exact A.scinj i h1 j h2 e
    · simp only [Srt.plus, if_neg (nk i h1), if_pos h2] at e
      have := A.succ i h1; rw [e, hc] at this; cases this
    · simp only [Srt.plus, if_neg (nk j h2), if_pos h1] at e
      have := A.succ j h2; rw [← e, hc] at this; cases this
    · rw [h1, h2]
  · intro a ha
    obtain ⟨r1, r2⟩ := A.ready a ha
    refine ⟨old _ _ r1 (ne_od _ _ r1 fun _ _ e => by cases e), fun j hj => ?_⟩
    rcases mem j hj with hj | rfl
    · simp only [Srt.plus, if_neg (nk j hj)]; exact r2 j hj
    · simp only [Srt.plus, if_true]; intro e; rw [e, r1] at hc; cases hc
  · show (s.order ++ [k]).Nodup
    rw [List.nodup_append]
    exact ⟨A.nodup, by simp, fun a ha b hb => by rw [List.mem_singleton.mp hb]; exact nk a ha⟩
  · show (s.order ++ [k]).length ≤ 1000
    rw [List.length_append]; exact hz
  · intro j hj u hu
    rcases mem j hj with hj | rfl
    · simp only [Srt.plus, if_neg (nk j hj)] at hu
      exact List.mem_append_left _ (A.ups j hj u hu)
    · simp only [Srt.plus, if_true] at hu; cases hu
  · intro j hj
    have hj' : j ∉ s.order ∧ j ≠ k := by simpa [Srt.plus] using hj
    simp only [Srt.plus, if_neg hj'.2]
    exact A.clean j hj'.1
  · intro a o h e
    exact old a o e fun q => h (.inr (.inr (.inl q)))
  · rintro a e h (q | q | q | ⟨j, hj, q⟩ | q)
    · exact h (.inl q)
    · exact h (.inr (.inl q))
    · exact h (.inr (.inr (.inl q)))
    · rcases mem j hj with hj | rfl
      · simp only [Srt.plus, if_neg (nk j hj)] at q
        exact h (.inr (.inr (.inr (.inl ⟨j, hj, q⟩))))
      · simp only [Srt.plus, if_true] at q
        rcases q with q | q | q
        · rw [q] at e; exact e hx
        · rw [q] at e; exact e hc
        · rw [q] at e; exact e hd
    · exact h (.inr (.inr (.inr (.inr q))))
noncomputable def ins (l : List Nat) (k : Nat) : List Nat := if k ∈ l then l else l ++ [k]
theorem mem_ins (l : List Nat) (k : Nat) : k ∈ ins l k := by unfold ins; split <;> simp_all
theorem mem_ins_of {l : List Nat} {k u : Nat} (h : u ∈ l) : u ∈ ins l k := by unfold ins; split <;> simp_all
theorem ins_len (l : List Nat) (k : Nat) : (ins l k).length ≤ l.length + 1 := by unfold ins; split <;> simp
theorem plus_v {s : Srt} {σ : AHeap} (A : s.At σ) {k : Nat} {x d c : Addr} {ep : Nat} (hk : k ∉ s.order) : (s.plus k x d c ep).v = (s.S, ins s.order k, s.up, s.np, s.rdy, s.rl, s.pa, s.fi) := by
  obtain ⟨h1, h2⟩ := A.clean k hk
  have e1 : (fun j => if j = k then none else s.up j) = s.up := by funext j; split <;> simp_all
  have e2 : (fun j => if j = k then 0 else s.np j) = s.np := by funext j; split <;> simp_all
  unfold Srt.v Srt.plus ins
  simp only [e1, e2, if_neg hk]
theorem ins_old {l : List Nat} {k : Nat} (h : k ∈ l) : ins l k = l := if_pos h
theorem ginfo_call (B : Bs (G w base os mb)) {n : Nat} {calm : Bool} {s : Srt} {σ : AHeap} {S0 : Addr} (A : s.At σ) (hS : s.S = S0) {k : Nat} {Q : PV → AHeap → Prop} (hz : s.order.length < 1000)
    (h : ∀ s' τ, s'.At τ → Fr s σ s' τ → s'.v = (s.S, ins s.order k, s.up, s.np, s.rdy, s.rl, s.pa, s.fi) → Q (.ref (s'.info k)) τ) : CallS (G w base os mb) ⟨n + 3, calm⟩ (.ref 80) [.ref S0, .int k] Q σ := by
  subst hS
  refine call_def (fd := fdAt 80) (body := bdAt 80) [Str.ofString "self", Str.ofString "node"] B.gd (B.fn 80 (by simp)).get rfl rfl (B.fn 80 (by simp)).code rfl rfl rfl rfl rfl rfl (by decide) rfl (fun vs hv => ?_) (fun i => rfl) (fun i => rfl) ?_
  · obtain ⟨v1, v2, rfl⟩ := len2 hv; rfl
  intro c L hc hlv hsc hce hq hf
  obtain ⟨g, lv, Ar, env⟩ := c
  subst hc hlv
  show WS _ (bdAt 80) _ ([(Str.ofString "self", .ref s.S), (Str.ofString "node", .int (k : Int))], σ)
  clear hq hf hce
  refine S_seq ?_
  repeat walk_at "s1"
  refine E_MethB F.plainAttrs_dict F.slot_dict_get F.type_dict_get ?_ rfl rfl rfl rfl rfl
  repeat walk_at "s1"
  refine get_attr B.K (t_own1 _) A.inst A.attrs rfl rfl ?_
  refine ⟨typB_dict A.dict, ?_⟩
  repeat walk_at "s1"
  refine dict_get A.dict A.sysm ?_
  rw [dl_lookup]
  by_cases hk : k ∈ s.order
  · rw [if_pos hk, Option.getD_some]
    repeat walk_at "s1"
    exact h s σ A (.refl _ _) (by rw [ins_old hk]; rfl)
  · rw [if_neg hk, Option.getD_none]
    repeat walk_at "s1"
    refine S_AssignTwo ?_ rfl (swapped_of hsc rfl)
    refine E_CallC B.gd (by walk_at "kd") rfl B.K (by rfl) ?_ rfl rfl rfl rfl
    repeat walk_at "s1"
    refine WN_call (new_node B fun x d c hx hd hc e1 e2 e3 => ?_)
    have ne : ∀ a, σ a ≠ none → a ≠ x ∧ a ≠ c ∧ a ≠ d := fun a h => ⟨fun q => h (q ▸ hx), fun q => h (q ▸ hc), fun q => h (q ▸ hd)⟩
    have step : ∀ a o, σ a = some o → (((σ.set d (.raw emptyDict)).set c (.list [])).set x (.own (slotsR 40 d [.int k, .int 0, .ref c]))) a = some o := fun a o e => by
      obtain ⟨q1, q2, q3⟩ := ne a (by rw [e]; simp)
      exact at_set_ne q1 (at_set_ne q2 (at_set_ne q3 e))
    repeat walk_at "s1"
    refine get_attr B.K (t_own1 _) (step _ _ A.inst) (step _ _ A.attrs) rfl rfl ?_
    repeat walk_at "s1"
    refine set_dict (step _ _ A.dict) (by rw [dl_lookup, if_neg hk]) (by unfold Srt.dl; rw [List.length_map]; exact Nat.le_trans A.small (by decide)) fun ep => ?_
    repeat walk_at "s1"
    obtain ⟨p1, p2⟩ := plus_at (ep := ep) A hk hz hx hd hc e1 e2 e3
    have := h _ _ p1 p2 (plus_v A hk)
    rwa [show (s.plus k x d c ep).info k = x from if_pos rfl] at this


end
section


variable {w : World} {base : Heap} {os : OsState} {mb : Str → Option Value}
theorem bind_var {prog : Program} {w : World} {A : Around} {E : Value → Shared → Prop} {base os₀ hid stk} {σ : AHeap} {s : Shared} {fd : FuncData} {fp wp : List PV} {front ws : List Value} {names : List Str} {Q : List (Str × Value) → Shared → Prop} (R : Rep base os₀ hid stk σ s) (hf : VReps s.heap fp front) (hw : VReps s.heap wp ws) (hz : wp.length ≤ 1000)
    (he : bindArgs fd ⟨front ++ ws, []⟩ = (newTuple ws >>= fun t => pure (names.zip (front ++ [t])))) (hQ : ∀ vs' s', Rep base os₀ hid stk σ s' → Keeps s.heap s'.heap → VReps s'.heap (fp ++ [.tup wp]) vs' → Q (names.zip vs') s') : wpAny (model prog w) A (bindArgs fd ⟨front ++ ws, []⟩) Q E s := by
  rw [he]
  have e1 := hw.length
  refine wpAny_bind (wpAny_newObj_type (wpAny_pure (hQ _ _ (R.grow (fun _ _ e => Heap.get?_push_of_some _ e) rfl rfl) (Keeps.push _ _) ((hf.mono (Keeps.push _ _)).append (.cons ?_ .nil)))) (by show ws.toArray.size ≤ sizeLine; rw [sizeLine_eq]; simp; omega))
  simp only [VRep]
  exact ⟨s.heap.objs.size, ws, rfl, ⟨0, Heap.get?_push_size _ rfl⟩, hw.mono (Keeps.push _ _)⟩
noncomputable def upd {α : Type} (f : Nat → α) (k : Nat) (v : α) : Nat → α := fun j => if j = k then v else f j
noncomputable def Srt.setnp (s : Srt) (k : Nat) (v : Int) : Srt := { s with np := upd s.np k v }
theorem setnp_v {s : Srt} {S : Addr} {o : List Nat} {u : Nat → Option Nat} {np : Nat → Int} {r : Option Addr} {rl : List Nat} {pa fi : Int} {k : Nat} {v : Int} (h : s.v = (S, o, u, np, r, rl, pa, fi)) : (s.setnp k v).v = (S, o, u, upd np k v, r, rl, pa, fi) := by
  obtain ⟨rfl, rfl, rfl, rfl, rfl, rfl, rfl, rfl⟩ := v_inv h; rfl
theorem setnp_at {s : Srt} {σ : AHeap} (A : s.At σ) {k : Nat} (hk : k ∈ s.order) (v : Int) : (s.setnp k v).At (σ.set (s.info k) (.own (slotsR 40 (s.dx k) [.int (k : Int), .int v, .ref (s.sc k)]))) ∧
    Fr s σ (s.setnp k v) (σ.set (s.info k) (.own (slotsR 40 (s.dx k) [.int (k : Int), .int v, .ref (s.sc k)]))) := by
  have ne : ∀ a o, σ a = some o → (∀ l d, o ≠ .own (slotsR 40 d l)) → a ≠ s.info k := fun a o e h q => by rw [q, A.node k hk] at e; exact h _ _ (Option.some.inj e).symm
  have lab : ∀ {r r' : ORel}, r.lab ≠ r'.lab → AObj.own r ≠ AObj.own r' := fun h q => h (congrArg ORel.lab (AObj.own.inj q))
  refine ⟨⟨at_set_ne (ne _ _ A.inst fun _ _ e => by cases e) A.inst, at_set_ne (ne _ _ A.attrs fun l d => lab (by intro q; cases q)) A.attrs, at_set_ne (ne _ _ A.dict fun l d => lab (by intro q; cases q)) A.dict, A.sysm, fun j hj => ?_, fun j hj => at_set_ne (ne _ _ (A.dxs j hj) fun _ _ e => by cases e) (A.dxs j hj), fun j hj => at_set_ne (ne _ _ (A.succ j hj) fun _ _ e => by cases e) (A.succ j hj), A.scinj, fun a ha => ⟨at_set_ne (ne _ _ (A.ready a ha).1 fun _ _ e => by cases e) (A.ready a ha).1, (A.ready a ha).2⟩, A.nodup, A.small, A.ups, fun j hj => ⟨(A.clean j hj).1, ?_⟩⟩, ?_, ?_⟩
  · show (σ.set _ _) (s.info j) = some (.own (slotsR 40 (s.dx j) [.int (j : Int), .int (upd s.np k v j), .ref (s.sc j)]))
    by_cases h : j = k
    · subst h; rw [show upd s.np j v j = v from if_pos rfl]; exact at_set_same
    · rw [show upd s.np k v j = s.np j from if_neg h]
      exact at_set_ne (fun e => h (A.infoInj hj hk e)) (A.node j hj)
  · show upd s.np k v j = 0
    rw [show upd s.np k v j = s.np j from if_neg (fun e : j = k => hj (by rw [e]; exact hk))]
    exact (A.clean j hj).2
  · intro a o h e
    exact at_set_ne (fun q => h (.inr (.inr (.inr (.inl ⟨k, hk, .inl q⟩))))) e
  · exact fun a e h => h
noncomputable def Srt.link (s : Srt) (p u : Nat) : Srt := { s with up := upd s.up p (some u) }
theorem link_v {s : Srt} {S : Addr} {o : List Nat} {up : Nat → Option Nat} {np : Nat → Int} {r : Option Addr} {rl : List Nat} {pa fi : Int} {p u : Nat} (h : s.v = (S, o, up, np, r, rl, pa, fi)) : (s.link p u).v = (S, o, upd up p (some u), np, r, rl, pa, fi) := by
  obtain ⟨rfl, rfl, rfl, rfl, rfl, rfl, rfl, rfl⟩ := v_inv h; rfl
theorem link_at {s : Srt} {σ : AHeap} (A : s.At σ) {p u : Nat} (hp : p ∈ s.order) (hu : u ∈ s.order) : (s.link p u).At (σ.set (s.sc p) (.list (natL [u]))) ∧ Fr s σ (s.link p u) (σ.set (s.sc p) (.list (natL [u]))) := by
  have ne : ∀ a o, σ a = some o → (∀ l, o ≠ .list l) → a ≠ s.sc p := fun a o e h q => by rw [q, A.succ p hp] at e; exact h _ (Option.some.inj e).symm
  refine ⟨⟨at_set_ne (ne _ _ A.inst fun _ e => by cases e) A.inst, at_set_ne (ne _ _ A.attrs fun l e => by cases e) A.attrs, at_set_ne (ne _ _ A.dict fun l e => by cases e) A.dict, A.sysm, fun j hj => at_set_ne (ne _ _ (A.node j hj) fun _ e => by cases e) (A.node j hj), fun j hj => at_set_ne (ne _ _ (A.dxs j hj) fun _ e => by cases e) (A.dxs j hj), fun j hj => ?_, A.scinj, fun a ha => ⟨at_set_ne (Ne.symm ((A.ready a ha).2 p hp)) (A.ready a ha).1, (A.ready a ha).2⟩, A.nodup, A.small, fun j hj v hv => ?_, fun j hj => ⟨?_, (A.clean j hj).2⟩⟩, ?_, ?_⟩
  · show (σ.set _ _) (s.sc j) = some (.list (natL (upd s.up p (some u) j).toList))
    by_cases h : j = p
    · subst h; rw [show upd s.up j (some u) j = some u from if_pos rfl]; exact at_set_same
    · rw [show upd s.up p (some u) j = s.up j from if_neg h]
      exact at_set_ne (fun e => h (A.scinj j hj p hp e)) (A.succ j hj)
  · by_cases h : j = p
    · rw [show (s.link p u).up j = some u from if_pos h] at hv; cases hv; exact hu
    · rw [show (s.link p u).up j = s.up j from if_neg h] at hv; exact A.ups j hj v hv
  · show upd s.up p (some u) j = none
    rw [show upd s.up p (some u) j = s.up j from if_neg (fun e : j = p => hj (by rw [e]; exact hp))]
    exact (A.clean j hj).1
  · intro a o h e
    exact at_set_ne (fun q => h (.inr (.inr (.inr (.inl ⟨p, hp, .inr (.inl q)⟩))))) e
  · exact fun a e h => h
theorem natL_get {l : List Nat} {k : Nat} {p : PV} (h : (natL l)[k]? = some p) : ∃ j, l[k]? = some j ∧ p = .int (j : Int) := by
  unfold natL at h
  rw [List.getElem?_map] at h
  cases q : l[k]? with
  | none => rw [q] at h; cases h
  | some j => rw [q] at h; exact ⟨j, rfl, (Option.some.inj h).symm⟩
theorem rv_none {s : Srt} (h : s.rdy = none) : s.rv = .none := by unfold Srt.rv; rw [h]
theorem rv_some {s : Srt} {a : Addr} (h : s.rdy = some a) : s.rv = .ref a := by unfold Srt.rv; rw [h]
noncomputable def addO (l : List Nat) (u : Nat) : Option Nat → List Nat
  | none => ins l u
  | some p => ins (ins l u) p
noncomputable def addU (f : Nat → Option Nat) (u : Nat) : Option Nat → Nat → Option Nat
  | none => f
  | some p => upd f p (some u)
noncomputable def AdI (s : Srt) (σ : AHeap) (u : Nat) (po : Option Nat) (nd : Addr) (k : Nat) (st : St) : Prop := ∃ s' τ, st = ([(Str.ofString "self", .ref s.S), (Str.ofString "node", .int (u : Int)), (Str.ofString "predecessors", .tup (natL po.toList)), (Str.ofString "nodeinfo", .ref nd)], τ) ∧ s'.At τ ∧ Fr s σ s' τ ∧
    s'.v = (s.S, (if k = 0 then ins s.order u else addO s.order u po), (if k = 0 then s.up else addU s.up u po), upd s.np u (s.np u + (po.toList.length : Int)), none, s.rl, s.pa, s.fi)
theorem add_call (B : Bs (G w base os mb)) {n : Nat} {s : Srt} {σ : AHeap} (A : s.At σ) {u : Nat} {po : Option Nat} {Q : PV → AHeap → Prop} (hz : s.order.length < 999) (hr : s.rdy = none) (hp : ∀ p, po = some p → p ≠ u ∧ s.up p = none)
    (h : ∀ s' τ, s'.At τ → Fr s σ s' τ → s'.v = (s.S, addO s.order u po, addU s.up u po, upd s.np u (s.np u + (po.toList.length : Int)), none, s.rl, s.pa, s.fi) → Q .none τ) :
    CallS (G w base os mb) ⟨n + 4, true⟩ (.ref 87) (.ref s.S :: .int (u : Int) :: natL po.toList) Q σ := by
  have hpl : po.toList.length ≤ 1 := by cases po <;> simp
  refine call_bind (fd := fdAt 87) (body := bdAt 87) (kw := []) (ps := [.ref s.S, .int (u : Int)] ++ [.tup (natL po.toList)]) [Str.ofString "self", Str.ofString "node", Str.ofString "predecessors"] B.gd (B.fn 87 (by simp)).get rfl rfl (B.fn 87 (by simp)).code rfl rfl rfl rfl rfl rfl (by decide) rfl ?_ (fun i => rfl) (fun i => rfl) ?_
  · intro A hid stk s' vs ks E Q R hv hks hQ
    obtain ⟨v1, r1, rfl, h1, hv⟩ := hv.cons_inv
    obtain ⟨v2, r2, rfl, h2, hv⟩ := hv.cons_inv
    obtain rfl := hks.nil_inv
    refine bind_var (fd := fdAt 87) (front := [v1, v2]) R (.cons h1 (.cons h2 .nil)) hv (by rw [natL_len]; omega) ?_ hQ
    cases po with
    | none => rw [hv.nil_inv]; kernel_rfl
    | some p => obtain ⟨v3, r3, rfl, h3, hv⟩ := hv.cons_inv; rw [hv.nil_inv]; kernel_rfl
  intro c L hc hlv hsc hce hq hf
  obtain ⟨g, lv, Ar, env⟩ := c
  subst hc hlv
  show WS _ (bdAt 87) _ ([(Str.ofString "self", .ref s.S), (Str.ofString "node", .int (u : Int)), (Str.ofString "predecessors", .tup (natL po.toList))], σ)
  clear hq hf hce
  refine S_seq ?_
  repeat walk_at "s1"
  refine get_attr B.K (t_own2 _) A.inst A.attrs rfl (by rw [rv_none hr]; rfl) ?_
  rw [rv_none hr]
  repeat walk_at "s1"
  refine E_MethI B.K (t_m1 _) (by rfl) ?_ rfl rfl rfl
  repeat walk_at "s1"
  refine ⟨⟨s.S, s.D, s.al, rfl, A.inst, A.attrs, rfl⟩, ?_⟩
  repeat walk_at "s1"
  refine WN_call (ginfo_call B A rfl (k := u) (by omega) fun s1 τ1 A1 F1 v1 => ?_)
  obtain ⟨e1, e2, e3, e4, e5, e6, e7, e8⟩ : s1.S = s.S ∧ s1.order = ins s.order u ∧ s1.up = s.up ∧ s1.np = s.np ∧ s1.rdy = s.rdy ∧ s1.rl = s.rl ∧ s1.pa = s.pa ∧ s1.fi = s.fi := v_inv v1
  have hu1 : u ∈ s1.order := by rw [e2]; exact mem_ins _ _
  repeat walk_at "s1"
  refine get_slotP B.K (n_get1 _) (A1.node u hu1) (A1.dxs u hu1) rfl rfl ?_
  repeat walk_at "s1"
  refine len_tup (by rw [natL_len]; omega) ?_
  rw [natL_len]
  repeat walk_at "s1"
  refine set_slotP B.K (n_set1 _) (A1.node u hu1) (A1.dxs u hu1) (show 1 ≤ 3 by decide) ?_
  obtain ⟨A2, F2⟩ := setnp_at A1 hu1 (s1.np u + (po.toList.length : Int))
  have v2 : (s1.setnp u (s1.np u + (po.toList.length : Int))).v = (s.S, ins s.order u, s.up, upd s.np u (s.np u + (po.toList.length : Int)), none, s.rl, s.pa, s.fi) := by
    rw [e4, ← hr]; exact setnp_v v1
  have F2 := F1.trans F2
  generalize s1.setnp u (s1.np u + (po.toList.length : Int)) = s2 at A2 F2 v2
  show seqQ _ _ _ .next (_, τ1.set (s1.info u) (.own (slotsR 40 (s1.dx u) [.int (u : Int), .int (s1.np u + (po.toList.length : Int)), .ref (s1.sc u)])))
  generalize τ1.set (s1.info u) (.own (slotsR 40 (s1.dx u) [.int (u : Int), .int (s1.np u + (po.toList.length : Int)), .ref (s1.sc u)])) = τ2 at A2 F2 ⊢
  generalize s1.info u = nd
  clear A1 F1 v1 e1 e2 e3 e4 e5 e6 e7 e8 hu1
  refine seqQ_next ?_
  refine S_last ?_
  refine S_for rfl (AdI s σ u po nd) ?_ (fun x => rfl)
  repeat walk_at "s1"
  refine ⟨_, _, _, it_tuple, ⟨s2, τ2, rfl, A2, F2, by rw [if_pos rfl, if_pos rfl]; exact v2⟩, St.le_refl _, fun _ _ _ => trivial, ?_, ?_⟩
  · rintro k q _ hk0 ⟨s', τ, rfl, A', F', v'⟩
    obtain ⟨p, hk, rfl⟩ := natL_get hk0
    obtain ⟨rfl, hpo⟩ : k = 0 ∧ po = some p := by
      clear hk0 v' F2 v2 h hp
      cases po with
      | none => simp at hk
      | some p' =>
        cases k with
        | zero => simp at hk; exact ⟨rfl, by rw [hk]⟩
        | succ k => simp at hk
    subst hpo
    rw [if_pos rfl, if_pos rfl] at v'
    obtain ⟨hpu, hup⟩ := hp p rfl
    obtain ⟨e1, e2, e3, e4, e5, e6, e7, e8⟩ : s'.S = s.S ∧ s'.order = ins s.order u ∧ s'.up = s.up ∧ s'.np = upd s.np u (s.np u + ((some p).toList.length : Int)) ∧ s'.rdy = none ∧ s'.rl = s.rl ∧ s'.pa = s.pa ∧ s'.fi = s.fi := v_inv v'
    refine Asg_local (by walk_at "kd") ?_
    refine S_seq ?_
    refine S_Assign ?_ rfl
    refine E_MethI B.K (t_m1 _) (by rfl) ?_ rfl rfl rfl
    repeat walk_at "s1"
    refine ⟨⟨s'.S, s'.D, s'.al, by rw [e1], A'.inst, A'.attrs, rfl⟩, ?_⟩
    repeat walk_at "s1"
    refine WN_call (ginfo_call B A' e1 (k := p) (by rw [e2]; have := ins_len s.order u; omega) fun s3 τ3 A3 F3 v3 => ?_)
    obtain ⟨g1, g2, g3, g4, g5, g6, g7, g8⟩ : s3.S = s'.S ∧ s3.order = ins s'.order p ∧ s3.up = s'.up ∧ s3.np = s'.np ∧ s3.rdy = s'.rdy ∧ s3.rl = s'.rl ∧ s3.pa = s'.pa ∧ s3.fi = s'.fi := v_inv v3
    have hp3 : p ∈ s3.order := by rw [g2]; exact mem_ins _ _
    have hu3 : u ∈ s3.order := by rw [g2, e2]; exact mem_ins_of (mem_ins _ _)
    repeat walk_at "s1"
    refine get_slotP B.K (n_get2 _) (A3.node p hp3) (A3.dxs p hp3) rfl rfl ?_
    have hs3 := A3.succ p hp3
    rw [g3, e3, hup] at hs3
    refine ⟨⟨_, _, rfl, seq_of hs3⟩, ?_⟩
    repeat walk_at "s1"
    refine append_list hs3 (Nat.zero_le _) ?_
    obtain ⟨A4, F4⟩ := link_at A3 hp3 hu3
    refine forQ_next ⟨s3.link p u, _, rfl, A4, F'.trans (F3.trans F4), ?_⟩ (St.le_app (.refl _))
    rw [link_v v3, e1, e2, e3, e4, e5, e6, e7, e8]
    rfl
  · rintro _ ⟨s', τ, rfl, A', F', v'⟩
    repeat walk_at "s1"
    refine h s' τ A' F' ?_
    rw [v', natL_len]
    cases po <;> rfl


end
section


variable {w : World} {base : Heap} {os : OsState} {mb : Str → Option Value}
noncomputable abbrev Tr := Nat × Addr × Addr
noncomputable def keyL (l : List Nat) : List Int := l.map fun (k : Nat) => (k : Int)
theorem keyL_mem {l : List Nat} {k : Nat} : (k : Int) ∈ keyL l ↔ k ∈ l := by
  unfold keyL
  rw [List.mem_map]
  exact ⟨fun ⟨j, hj, e⟩ => Int.ofNat.inj e ▸ hj, fun h => ⟨k, h, rfl⟩⟩
/-- between the steps of the search for a ring: ts, the names on the way with their iterators; the last one j on -/
structure Cyc (s : Srt) (σ0 τ : AHeap) (stA itA seA ndA : Addr) (ts : List Tr) (j : Nat) (se : List Nat) : Prop where
  sub : σ0.Sub τ
  st : τ stA = some (.list (natL (ts.map (·.1))))
  itl : τ itA = some (.list (ts.map fun t => PV.ref t.2.1))
  seen : τ seA = some (.own (isetR (keyL se)))
  nd : ∃ nd ep, τ ndA = some (.own (idictR nd ep)) ∧ nd.map (·.1) = keyL (ts.map (·.1))
  its : ∀ ts0 t, ts = ts0 ++ [t] → (τ t.2.1 = some (.raw (bnObj t.2.2)) ∧ τ t.2.2 = some (.own (litR (s.sc t.1) j))) ∧ ∀ t' ∈ ts0, τ t'.2.1 = some (.raw (bnObj t'.2.2)) ∧ τ t'.2.2 = some (.own (litR (s.sc t'.1) 1))
  nu : (ts.map (·.2.2)).Nodup
  fr : ∀ t ∈ ts, σ0 t.2.2 = none
  mem : ∀ t ∈ ts, t.1 ∈ s.order
  snd : se.Nodup
  ssub : ∀ k ∈ se, k ∈ s.order
  ne : stA ≠ itA
  z : σ0 stA = none ∧ σ0 itA = none ∧ σ0 seA = none ∧ σ0 ndA = none
theorem ne_obj {σ : AHeap} {a b : Addr} {o o' : AObj} (h1 : σ a = some o) (h2 : σ b = some o') (h : o ≠ o') : a ≠ b := fun e => by rw [e, h2] at h1; exact h (Option.some.inj h1).symm
theorem own_ne {r r' : ORel} (h : r.lab ≠ r'.lab) : AObj.own r ≠ AObj.own r' := fun q => h (congrArg ORel.lab (AObj.own.inj q))
theorem ne_none {σ : AHeap} {a b : Addr} {o : AObj} (h1 : σ a = some o) (h2 : σ b = none) : a ≠ b := fun e => by rw [e, h2] at h1; cases h1
theorem natL_snoc (l : List Nat) (k : Nat) : natL (l ++ [k]) = natL l ++ [.int (k : Int)] := by unfold natL; rw [List.map_append]; rfl
theorem keyL_snoc (l : List Nat) (k : Nat) : keyL (l ++ [k]) = keyL l ++ [(k : Int)] := by unfold keyL; rw [List.map_append]; rfl
section
variable {s : Srt} {σ0 τ : AHeap} {stA itA seA ndA : Addr} {ts : List Tr} {se : List Nat}
theorem Cyc.all1 (C : Cyc s σ0 τ stA itA seA ndA ts 1 se) : ∀ t ∈ ts, τ t.2.1 = some (.raw (bnObj t.2.2)) ∧ τ t.2.2 = some (.own (litR (s.sc t.1) 1)) := fun t ht => by
  rcases List.eq_nil_or_concat ts with e | ⟨ts0, t0, e⟩
  · rw [e] at ht; cases ht
  · rw [List.concat_eq_append] at e
    obtain ⟨h1, h2⟩ := C.its ts0 t0 e
    rw [e] at ht
    rcases List.mem_append.mp ht with h | h
    · exact h2 t h
    · rw [List.mem_singleton.mp h]; exact h1
/-- a name put on the way -/
theorem Cyc.push (C : Cyc s σ0 τ stA itA seA ndA ts 1 se) {y : Nat} {u it : Addr} {nd : List (Int × PV)} {ep : Nat} (hy : y ∈ s.order) (hse : y ∉ se) (hit : τ it = none) (hu : τ u = none) (hui : u ≠ it) (hnd : nd.map (·.1) = keyL ((ts ++ [(y, u, it)]).map (·.1))) :
    Cyc s σ0 ((((((τ.set seA (.own (isetR (keyL se ++ [(y : Int)])))).set it (.own (litR (s.sc y) 0))).set u (.raw (bnObj it))).set itA (.list ((ts.map fun t => PV.ref t.2.1) ++ [.ref u]))).set ndA (.own (idictR nd ep))).set stA (.list (natL (ts.map (·.1)) ++ [.int (y : Int)]))) stA itA seA ndA (ts ++ [(y, u, it)]) 0 (se ++ [y]) := by
  obtain ⟨nd0, ep0, hnd0, _⟩ := C.nd
  have a1 : stA ≠ seA := ne_obj C.st C.seen (by intro q; cases q)
  have a2 : stA ≠ ndA := ne_obj C.st hnd0 (by intro q; cases q)
  have a3 : itA ≠ seA := ne_obj C.itl C.seen (by intro q; cases q)
  have a4 : itA ≠ ndA := ne_obj C.itl hnd0 (by intro q; cases q)
  have a5 : seA ≠ ndA := ne_obj C.seen hnd0 (own_ne (by intro q; cases q))
  have b1 := ne_none C.st hit
  have b2 := ne_none C.itl hit
  have b3 := ne_none C.seen hit
  have b4 := ne_none hnd0 hit
  have c1 := ne_none C.st hu
  have c2 := ne_none C.itl hu
  have c3 := ne_none C.seen hu
  have c4 := ne_none hnd0 hu
  have d1 := Ne.symm C.ne
  have keep : ∀ a o, τ a = some o → a ≠ stA → a ≠ itA → a ≠ seA → a ≠ ndA → ((((((τ.set seA (.own (isetR (keyL se ++ [(y : Int)])))).set it (.own (litR (s.sc y) 0))).set u (.raw (bnObj it))).set itA (.list ((ts.map fun t => PV.ref t.2.1) ++ [.ref u]))).set ndA (.own (idictR nd ep))).set stA (.list (natL (ts.map (·.1)) ++ [.int (y : Int)]))) a = some o :=
    fun a o e h1 h2 h3 h4 => at_set_ne h1 (at_set_ne h4 (at_set_ne h2 (at_set_ne (ne_none e hu) (at_set_ne (ne_none e hit) (at_set_ne h3 e)))))
  obtain ⟨z1, z2, z3, z4⟩ := C.z
  refine ⟨fun a o e => keep a o (C.sub a o e) (ne_none e z1) (ne_none e z2) (ne_none e z3) (ne_none e z4), ?_, ?_, ?_, ⟨nd, ep, at_set_ne (Ne.symm a2) at_set_same, hnd⟩, fun ts0 t e => ?_, ?_, fun t ht => ?_, fun t ht => ?_, ?_, fun k hk => ?_, C.ne, C.z⟩
  · rw [List.map_append]; show _ = some (AObj.list (natL (_ ++ [y]))); rw [natL_snoc]; exact at_set_same
  · rw [List.map_append]; exact at_set_ne d1 (at_set_ne a4 at_set_same)
  · rw [keyL_snoc]; exact at_set_ne (Ne.symm a1) (at_set_ne a5 (at_set_ne (Ne.symm a3) (at_set_ne c3 (at_set_ne b3 at_set_same))))
  · obtain ⟨e1, e2⟩ := List.append_inj' e rfl
    obtain rfl := List.singleton_inj.mp e2
    subst e1
    refine ⟨⟨at_set_ne (Ne.symm c1) (at_set_ne (Ne.symm c4) (at_set_ne (Ne.symm c2) at_set_same)), at_set_ne (Ne.symm b1) (at_set_ne (Ne.symm b4) (at_set_ne (Ne.symm b2) (at_set_ne (Ne.symm hui) at_set_same)))⟩, fun t' ht => ?_⟩
    obtain ⟨k1, k2⟩ := C.all1 t' ht
    exact ⟨keep _ _ k1 (ne_obj k1 C.st (by intro q; cases q)) (ne_obj k1 C.itl (by intro q; cases q)) (ne_obj k1 C.seen (by intro q; cases q)) (ne_obj k1 hnd0 (by intro q; cases q)),
      keep _ _ k2 (ne_obj k2 C.st (by intro q; cases q)) (ne_obj k2 C.itl (by intro q; cases q)) (ne_obj k2 C.seen (own_ne (by intro q; cases q))) (ne_obj k2 hnd0 (own_ne (by intro q; cases q)))⟩
  · rw [List.map_append, List.nodup_append]
    refine ⟨C.nu, by simp, fun a ha b hb => ?_⟩
    obtain ⟨t, ht, rfl⟩ := List.mem_map.mp ha
    rw [show b = it by simpa using hb]
    exact ne_none (C.all1 t ht).2 hit
  · rcases List.mem_append.mp ht with h | h
    · exact C.fr t h
    · rw [List.mem_singleton.mp h]
      cases q : σ0 it with
      | none => rfl
      | some o => rw [C.sub _ _ q] at hit; cases hit
  · rcases List.mem_append.mp ht with h | h
    · exact C.mem t h
    · rw [List.mem_singleton.mp h]; exact hy
  · rw [List.nodup_append]
    exact ⟨C.snd, by simp, fun a ha b hb e => hse (by rw [List.mem_singleton.mp hb] at e; exact e ▸ ha)⟩
  · rcases List.mem_append.mp hk with h | h
    · exact C.ssub k h
    · rw [List.mem_singleton.mp h]; exact hy
/-- the last name goes -/
theorem Cyc.pop {t : Tr} {j : Nat} {nd : List (Int × PV)} {ep : Nat} (C : Cyc s σ0 τ stA itA seA ndA (ts ++ [t]) j se) (hnd : nd.map (·.1) = keyL (ts.map (·.1))) :
    Cyc s σ0 ((((τ.del t.2.2).set stA (.list (natL (ts.map (·.1))))).set ndA (.own (idictR nd ep))).set itA (.list (ts.map fun t => PV.ref t.2.1))) stA itA seA ndA ts 1 se := by
  obtain ⟨nd0, ep0, hnd0, _⟩ := C.nd
  have a1 : stA ≠ seA := ne_obj C.st C.seen (by intro q; cases q)
  have a2 : stA ≠ ndA := ne_obj C.st hnd0 (by intro q; cases q)
  have a3 : itA ≠ seA := ne_obj C.itl C.seen (by intro q; cases q)
  have a4 : itA ≠ ndA := ne_obj C.itl hnd0 (by intro q; cases q)
  have a5 : seA ≠ ndA := ne_obj C.seen hnd0 (own_ne (by intro q; cases q))
  obtain ⟨⟨k1, k2⟩, kk⟩ := C.its ts t rfl
  have b3 : seA ≠ t.2.2 := ne_obj C.seen k2 (own_ne (by intro q; cases q))
  have keep : ∀ a o, τ a = some o → a ≠ t.2.2 → a ≠ stA → a ≠ itA → a ≠ ndA → ((((τ.del t.2.2).set stA (.list (natL (ts.map (·.1))))).set ndA (.own (idictR nd ep))).set itA (.list (ts.map fun t => PV.ref t.2.1))) a = some o :=
    fun a o e h0 h1 h2 h3 => at_set_ne h2 (at_set_ne h3 (at_set_ne h1 (by rw [AHeap.del_ne h0]; exact e)))
  obtain ⟨z1, z2, z3, z4⟩ := C.z
  have nu := C.nu
  rw [List.map_append, List.nodup_append] at nu
  refine ⟨fun a o e => keep a o (C.sub a o e) (ne_none e (C.fr t (by simp))) (ne_none e z1) (ne_none e z2) (ne_none e z4), at_set_ne C.ne (at_set_ne a2 at_set_same), at_set_same, keep _ _ C.seen b3 (Ne.symm a1) (Ne.symm a3) a5, ⟨nd, ep, at_set_ne (Ne.symm a4) at_set_same, hnd⟩, fun ts0 t0 e => ?_, nu.1, fun t' ht => C.fr t' (List.mem_append_left _ ht), fun t' ht => C.mem t' (List.mem_append_left _ ht), C.snd, C.ssub, C.ne, C.z⟩
  have one : ∀ t' ∈ ts, _ ∧ _ := fun t' ht => (⟨keep _ _ (kk t' ht).1 (ne_obj (kk t' ht).1 k2 (by intro q; cases q)) (ne_obj (kk t' ht).1 C.st (by intro q; cases q)) (ne_obj (kk t' ht).1 C.itl (by intro q; cases q)) (ne_obj (kk t' ht).1 hnd0 (by intro q; cases q)),
    keep _ _ (kk t' ht).2 (nu.2.2 _ (List.mem_map_of_mem ht) _ (by simp)) (ne_obj (kk t' ht).2 C.st (by intro q; cases q)) (ne_obj (kk t' ht).2 C.itl (by intro q; cases q)) (ne_obj (kk t' ht).2 hnd0 (own_ne (by intro q; cases q)))⟩ : _ ∧ _)
  subst e
  exact ⟨one t0 (by simp), fun t' ht => one t' (List.mem_append_left _ ht)⟩
end


end
section


variable {w : World} {base : Heap} {os : OsState} {mb : Str → Option Value}
theorem Cyc.step {s : Srt} {σ0 τ : AHeap} {stA itA seA ndA : Addr} {ts : List Tr} {se : List Nat} {t : Tr} {j : Nat} (C : Cyc s σ0 τ stA itA seA ndA (ts ++ [t]) j se) : Cyc s σ0 (τ.set t.2.2 (.own (litR (s.sc t.1) 1))) stA itA seA ndA (ts ++ [t]) 1 se := by
  obtain ⟨nd0, ep0, hnd0, e0⟩ := C.nd
  obtain ⟨⟨k1, k2⟩, kk⟩ := C.its ts t rfl
  have nu := C.nu
  rw [List.map_append, List.nodup_append] at nu
  refine ⟨fun a o e => at_set_ne (ne_none e (C.fr t (by simp))) (C.sub a o e), at_set_ne (ne_obj C.st k2 (by intro q; cases q)) C.st, at_set_ne (ne_obj C.itl k2 (by intro q; cases q)) C.itl, at_set_ne (ne_obj C.seen k2 (own_ne (by intro q; cases q))) C.seen, ⟨nd0, ep0, at_set_ne (ne_obj hnd0 k2 (own_ne (by intro q; cases q))) hnd0, e0⟩, fun ts0 t0 e => ?_, C.nu, C.fr, C.mem, C.snd, C.ssub, C.ne, C.z⟩
  obtain ⟨e1, e2⟩ := List.append_inj' e rfl
  obtain rfl := List.singleton_inj.mp e2
  subst e1
  exact ⟨⟨at_set_ne (ne_obj k1 k2 (by intro q; cases q)) k1, at_set_same⟩, fun t' ht => ⟨at_set_ne (ne_obj (kk t' ht).1 k2 (by intro q; cases q)) (kk t' ht).1, at_set_ne (nu.2.2 _ (List.mem_map_of_mem ht) _ (by simp)) (kk t' ht).2⟩⟩
noncomputable def cycFor : Stmt := (bdAt 127).getD 5 (.Pass default)
noncomputable def cycBody : List Stmt := match cycFor with
  | .For _ _ body _ _ => (match body.getD 1 (.Pass default) with | .While _ b _ _ => b | _ => [])
  | _ => []
noncomputable def cycIn : Stmt := cycBody.getD 1 (.Pass default)
noncomputable abbrev muC (S od stA itA seA ndA : Addr) : Locals := [(Str.ofString "self", .ref S), (Str.ofString "n2i", .ref od), (Str.ofString "stack", .ref stA), (Str.ofString "itstack", .ref itA), (Str.ofString "seen", .ref seA), (Str.ofString "node2stacki", .ref ndA)]
theorem keys_last {nd : List (Int × PV)} {l : List Nat} {k : Nat} (h : nd.map (·.1) = keyL (l ++ [k])) : ∃ nd0 p, nd = nd0 ++ [((k : Int), p)] ∧ nd0.map (·.1) = keyL l := by
  rw [keyL_snoc] at h
  obtain ⟨a, b, rfl, h1, h2⟩ := List.map_eq_append_iff.mp h
  obtain ⟨x, rfl, hx⟩ := List.map_eq_singleton_iff.mp h2
  exact ⟨a, x.2, by rw [← hx], h1⟩
noncomputable def CyI (s : Srt) (σ0 : AHeap) (stA itA seA ndA : Addr) (ts : List Tr) (j y : Nat) (se : List Nat) (m : Nat) (st : St) : Prop := ∃ ts' j' τ', st = (muC s.S s.od stA itA seA ndA ++ [(Str.ofString "node", .int (y : Int))], τ') ∧ m = ts'.length ∧ Cyc s σ0 τ' stA itA seA ndA ts' j' se ∧ (ts'.map (·.1)).Nodup ∧ (j' = 1 ∨ (j' = 0 ∧ ts' = ts ∧ j = 0))
theorem cyc_in (B : Bs (G w base os mb)) {lv : Lv} {A : Around} {env : Env} (hcalm : lv.calm = true) (hsc : env.scope = (fdAt 127).scope) {s : Srt} {σ0 τ : AHeap} (At : s.At σ0) {stA itA seA ndA : Addr} {ts : List Tr} {j y : Nat} {se : List Nat} {Q : AFlow → St → Prop} (C : Cyc s σ0 τ stA itA seA ndA ts j se)
    (hj : j = 1 ∨ (j = 0 ∧ ∃ ts0 u it, ts = ts0 ++ [(y, u, it)])) (hnd : (ts.map (·.1)).Nodup)
    (hbrk : ∀ u τ', s.up y = some u → Cyc s σ0 τ' stA itA seA ndA ts 1 se → Q .next (muC s.S s.od stA itA seA ndA ++ [(Str.ofString "node", .int (u : Int))], τ'))
    (hend : ∀ τ', Cyc s σ0 τ' stA itA seA ndA [] 1 se → Q .brk (muC s.S s.od stA itA seA ndA ++ [(Str.ofString "node", .int (y : Int))], τ')) :
    WX ⟨G w base os mb, lv, A, env⟩ cycIn Q (muC s.S s.od stA itA seA ndA ++ [(Str.ofString "node", .int (y : Int))], τ) := by
  refine S_while (CyI s σ0 stA itA seA ndA ts j y se) ts.length _ ⟨ts, j, τ, rfl, rfl, C, hnd, hj.imp id fun h => ⟨h.1, rfl, h.1⟩⟩ (St.le_refl _) ?_
  clear C
  rintro m _ ⟨ts', j', τ', rfl, rfl, C, hnd', hj'⟩
  have hlen : ts'.length ≤ 1000 := by
    have h1 : (ts'.map (·.1)).length ≤ s.order.length := List.Nodup.length_le_of_subset hnd' fun k hk => by obtain ⟨t, ht, rfl⟩ := List.mem_map.mp hk; exact C.mem t ht
    rw [List.length_map] at h1
    exact Nat.le_trans h1 At.small
  repeat walk_at "s1"
  refine truthy_l (seq_of C.st) (by rw [natL_len, List.length_map]; exact Nat.le_trans hlen (by decide)) ?_
  rcases List.eq_nil_or_concat ts' with e | ⟨ts0, t, e⟩
  · subst e
    refine ⟨fun h => (by cases h), fun _ => ?_⟩
    refine S_last ?_
    refine S_Break ?_
    rcases hj' with rfl | ⟨rfl, e1, e2⟩
    · exact hend τ' C
    · rcases hj with h | ⟨_, ts0, u, it, h⟩
      · rw [e2] at h; cases h
      · rw [← e1] at h; exact absurd h.symm (by simp)
  · rw [List.concat_eq_append] at e
    subst e
    have hcs := C.its ts0 t rfl
    obtain ⟨⟨k1, k2⟩, _⟩ := hcs
    have hts0 : ts0.length < 1000 := by rw [List.length_append] at hlen; exact hlen
    refine ⟨fun _ => ?_, fun h => ?_⟩
    · refine S_last ?_
      refine S_TryNext hcalm B.gd (by walk_at "kd") (by walk_at "kd") rfl ?_ rfl (swaps_of hsc rfl)
      repeat walk_at "s1"
      refine E_UnaryOp ?_
      repeat walk_at "s1"
      refine un_neg ?_
      refine get_list_last (p := .ref t.2.1) (seq_of C.itl) (by decide) (by rw [List.length_map, List.length_append]; simp; omega) ?_ (by rw [List.length_map]; exact Nat.le_trans hlen (by decide)) ?_
      · rw [List.length_map, List.length_append, List.map_append]
        rw [show ((-1 : Int) + ((ts0.length + [t].length : Nat) : Int)).toNat = (ts0.map fun t => PV.ref t.2.1).length by simp; omega]
        rw [List.getElem?_append_right (Nat.le_refl _), Nat.sub_self]; rfl
      refine ⟨t.2.1, t.2.2, s.sc t.1, j', _, rfl, k1, k2, seq_of (C.sub _ _ (At.succ t.1 (C.mem t (by simp)))), fun p hp => ?_, fun hp c' hcx hex hdx => ?_⟩
      · obtain ⟨u, hu, rfl⟩ := natL_get hp
        obtain ⟨rfl, hup⟩ : j' = 0 ∧ s.up t.1 = some u := by
          cases q : s.up t.1 with
          | none => rw [q] at hu; simp at hu
          | some v =>
            rw [q] at hu
            cases j' with
            | zero => simp at hu; exact ⟨rfl, by rw [hu]⟩
            | succ k => simp at hu
        rcases hj' with h | ⟨_, e1, e2⟩
        · cases h
        · rcases hj with h | ⟨_, ts1, u1, it1, h⟩
          · rw [e2] at h; cases h
          · rw [h] at e1
            obtain ⟨e3, e4⟩ := List.append_inj' e1 rfl
            obtain rfl := List.singleton_inj.mp e4
            subst e3
            subst h
            refine loopQ_brk ?_
            exact hbrk u _ hup C.step
      · obtain ⟨g', lv', A', env'⟩ := c'
        obtain rfl : g' = G w base os mb := hcx
        obtain rfl : env' = env := hex
        have hst := C.st
        have hitl := C.itl
        obtain ⟨nd, ep, hnd0, hndk⟩ := C.nd
        rw [List.map_append] at hst hitl hndk
        obtain ⟨nd0, p, rfl, hnd0k⟩ := keys_last hndk
        have n1 : stA ≠ t.2.2 := ne_obj hst k2 (by intro q; cases q)
        have n2 : itA ≠ t.2.2 := ne_obj hitl k2 (by intro q; cases q)
        have n3 : ndA ≠ t.2.2 := ne_obj hnd0 k2 (own_ne (by intro q; cases q))
        have n4 : ndA ≠ stA := ne_obj hnd0 hst (by intro q; cases q)
        have n5 : ndA ≠ itA := ne_obj hnd0 hitl (by intro q; cases q)
        have n6 := C.ne
        have nk : nd0.lookup (t.1 : Int) = none := lookup_none_iff.mpr (by
          rw [hnd0k, keyL_mem]
          rw [List.map_append, List.nodup_append] at hnd'
          intro q
          exact hnd'.2.2 _ q t.1 (by simp) rfl)
        have hnl : nd0.length ≤ 10000 := by
          have := congrArg List.length hnd0k
          rw [List.length_map] at this
          unfold keyL at this
          rw [List.length_map, List.length_map] at this
          omega
        rw [show natL (ts0.map (·.1) ++ [t].map (·.1)) = natL (ts0.map (·.1)) ++ [.int (t.1 : Int)] from natL_snoc _ _] at hst
        refine S_seq ?_
        refine S_DelSub ?_
        repeat walk_at "s1"
        refine ⟨⟨_, _, rfl, seq_of ((AHeap.del_ne n1).trans hst)⟩, ?_⟩
        refine pop_list (l := natL (ts0.map (·.1))) (p := .int (t.1 : Int)) ((AHeap.del_ne n1).trans hst) (by rw [natL_len, List.length_map]; omega) ?_
        refine del_dict (at_set_ne n4 ((AHeap.del_ne n3).trans hnd0)) nk hnl fun ep' => ?_
        repeat walk_at "s1"
        refine ⟨⟨_, _, rfl, seq_of (at_set_ne (Ne.symm n5) (at_set_ne (Ne.symm n6) ((AHeap.del_ne n2).trans hitl)))⟩, ?_⟩
        refine pop_list (l := ts0.map fun t => PV.ref t.2.1) (p := .ref t.2.1) (at_set_ne (Ne.symm n5) (at_set_ne (Ne.symm n6) ((AHeap.del_ne n2).trans hitl))) (by rw [List.length_map]; omega) ?_
        refine loopQ_next ts0.length (by simp) ⟨ts0, 1, _, rfl, rfl, C.pop hnd0k, ?_, .inl rfl⟩ (St.le_refl _)
        rw [List.map_append, List.nodup_append] at hnd'
        exact hnd'.1
    · exfalso
      rw [List.map_append, show natL (ts0.map (·.1) ++ [t].map (·.1)) = natL (ts0.map (·.1)) ++ [.int (t.1 : Int)] from natL_snoc _ _] at h
      simp at h


end
section


variable {w : World} {base : Heap} {os : OsState} {mb : Str → Option Value}
theorem keyL_len (l : List Nat) : (keyL l).length = l.length := List.length_map ..
theorem dl_keys (s : Srt) : s.dl.map (·.1) = keyL s.order := by unfold Srt.dl keyL; rw [List.map_map]; rfl
theorem Cyc.seLen {s : Srt} {σ0 τ : AHeap} {stA itA seA ndA : Addr} {ts : List Tr} {j : Nat} {se : List Nat} (C : Cyc s σ0 τ stA itA seA ndA ts j se) (A : s.At σ0) : (keyL se).length ≤ 1000 := by
  rw [keyL_len]
  exact Nat.le_trans (List.Nodup.length_le_of_subset C.snd C.ssub) A.small
noncomputable def CwI (s : Srt) (σ0 : AHeap) (stA itA seA ndA : Addr) (rk : Nat → Nat) (m : Nat) (st : St) : Prop := ∃ y ts τ' se', st = (muC s.S s.od stA itA seA ndA ++ [(Str.ofString "node", .int (y : Int))], τ') ∧ m = rk y ∧ y ∈ s.order ∧ Cyc s σ0 τ' stA itA seA ndA ts 1 se' ∧ (ts.map (·.1)).Nodup ∧ ∀ t ∈ ts, rk y < rk t.1
set_option maxHeartbeats 1000000 in
theorem cyc_while (B : Bs (G w base os mb)) {lv : Lv} {A : Around} {env : Env} (hcalm : lv.calm = true) (hsc : env.scope = (fdAt 127).scope) {s : Srt} {σ0 τ : AHeap} (At : s.At σ0) (rk : Nat → Nat) (hrk : ∀ k ∈ s.order, ∀ u, s.up k = some u → rk u < rk k) {stA itA seA ndA : Addr} {x : Nat} {se : List Nat} {test : Expr} {pos : Pos} {Q : AFlow → St → Prop} (hx : x ∈ s.order) (hndS : (ndA == sysModules) = false) (C : Cyc s σ0 τ stA itA seA ndA [] 1 se) (ht : ∃ p, test = .Constant (.bool true) 0 p)
    (hend : ∀ τ' se' y, Cyc s σ0 τ' stA itA seA ndA [] 1 se' → Q .next (muC s.S s.od stA itA seA ndA ++ [(Str.ofString "node", .int (y : Nat))], τ')) :
    WX ⟨G w base os mb, lv, A, env⟩ (.While test cycBody [] pos) Q (muC s.S s.od stA itA seA ndA ++ [(Str.ofString "node", .int (x : Int))], τ) := by
  obtain ⟨tp, rfl⟩ := ht
  refine S_while (CwI s σ0 stA itA seA ndA rk) (rk x) _ ⟨x, [], τ, se, rfl, rfl, hx, C, by simp, by simp⟩ (St.le_refl _) ?_
  clear C hx
  rintro m _ ⟨y, ts, τ', se', rfl, rfl, hy, C, hnd, hts⟩
  repeat walk_at "s1"
  refine ⟨fun _ => ?_, fun h => (by cases h)⟩
  have hylt : y ∉ ts.map (·.1) := fun h => by
    obtain ⟨t, ht, e⟩ := List.mem_map.mp h
    have := hts t ht
    rw [e] at this
    exact Nat.lt_irrefl _ this
  show WS _ [_, cycIn] _ _
  refine S_seq ?_
  refine S_if ?_
  repeat walk_at "s1"
  refine in_set C.seen (C.seLen At) ?_
  repeat walk_at "s1"
  refine ifQ_dec (fun hb => ?_) (fun hb => ?_)
  · repeat walk_at "s1"
    obtain ⟨nd, ep, hnd0, hndk⟩ := C.nd
    refine in_dict hnd0 hndS ?_
    rw [lookup_none_iff.mpr (by rw [hndk, keyL_mem]; exact hylt), Option.isSome_none]
    repeat walk_at "s1"
    refine cyc_in B hcalm hsc At C (.inl rfl) hnd (fun u τ1 hu C1 => ?_) (fun τ1 C1 => ?_)
    · exact loopQ_next (rk u) (hrk y hy u hu) ⟨u, ts, τ1, se', rfl, rfl, At.ups y hy u hu, C1, hnd, fun t ht => Nat.lt_trans (hrk y hy u hu) (hts t ht)⟩ (St.le_refl _)
    · exact loopQ_brk (hend τ1 se' y C1)
  · have hyse : y ∉ se' := fun h => by rw [decide_eq_false_iff_not, keyL_mem] at hb; exact hb h
    have hAy := At.node y hy
    obtain ⟨nd, ep, hnd0, hndk⟩ := C.nd
    refine S_seq ?_
    refine S_Expr ?_ (by unfold PySem.interactive; walk_at "kd") rfl
    refine E_MethB F.plainAttrs_set F.slot_set_add F.type_set_add ?_ rfl rfl rfl rfl rfl
    repeat walk_at "s1"
    refine ⟨typB_set C.seen, ?_⟩
    repeat walk_at "s1"
    refine set_add C.seen (by rw [keyL_mem]; exact hyse) (C.seLen At) ?_
    obtain ⟨z1, z2, z3, z4⟩ := C.z
    have q1 : stA ≠ seA := ne_obj C.st C.seen (by intro q; cases q)
    have q2 : itA ≠ seA := ne_obj C.itl C.seen (by intro q; cases q)
    have q3 : ndA ≠ seA := ne_obj hnd0 C.seen (own_ne (by intro q; cases q))
    have q4 : stA ≠ ndA := ne_obj C.st hnd0 (by intro q; cases q)
    have q5 : itA ≠ ndA := ne_obj C.itl hnd0 (by intro q; cases q)
    have S1 : ∀ a o, σ0 a = some o → (τ'.set seA (.own (isetR (keyL se' ++ [(y : Int)])))) a = some o := fun a o e => at_set_ne (ne_none e z3) (C.sub a o e)
    refine seqQ_next ?_
    refine S_seq ?_
    refine S_Expr ?_ (by unfold PySem.interactive; walk_at "kd") rfl
    refine E_MethList (id := "list.append") F.slot_list_append F.type_list_append ?_ rfl rfl rfl rfl rfl
    repeat walk_at "s1"
    refine ⟨⟨_, _, rfl, seq_of (at_set_ne q2 C.itl)⟩, ?_⟩
    repeat walk_at "s1"
    refine get_dict (p := .ref (s.info y)) (S1 _ _ At.dict) (by rw [dl_lookup, if_pos hy]) ?_
    refine get_slotP B.K (n_get2 _) (S1 _ _ hAy) (S1 _ _ (At.dxs y hy)) rfl rfl ?_
    repeat walk_at "s1"
    refine call_iterO (seq_of (S1 _ _ (At.succ y hy))) fun it hit => ?_
    have hit' : τ' it = none := by
      have : it ≠ seA := fun e => by rw [e, AHeap.set_same] at hit; cases hit
      rw [← AHeap.set_ne τ' (.own (isetR (keyL se' ++ [(y : Int)]))) this]; exact hit
    refine attr_next at_set_same fun u hui hu => ?_
    rw [AHeap.set_set]
    have hu1 : (τ'.set seA (.own (isetR (keyL se' ++ [(y : Int)])))) u = none := by rw [← AHeap.set_ne (τ'.set seA (.own (isetR (keyL se' ++ [(y : Int)])))) (.raw (listIter0 (s.sc y))) hui]; exact hu
    have hu' : τ' u = none := by
      have : u ≠ seA := fun e => by rw [e, AHeap.set_same] at hu1; cases hu1
      rw [← AHeap.set_ne τ' (.own (isetR (keyL se' ++ [(y : Int)]))) this]; exact hu1
    have up : ∀ a o, τ' a = some o → a ≠ seA → (((τ'.set seA (.own (isetR (keyL se' ++ [(y : Int)])))).set it (.own (litR (s.sc y) 0))).set u (.raw (bnObj it))) a = some o := fun a o e h => at_set_ne (ne_none e hu') (at_set_ne (ne_none e hit') (at_set_ne h e))
    have hsl : se'.length ≤ 1000 := by have := C.seLen At; rw [keyL_len] at this; exact this
    have htl : ts.length ≤ 1000 := by
      have h1 : (ts.map (·.1)).length ≤ s.order.length := List.Nodup.length_le_of_subset hnd fun k hk => by obtain ⟨t, ht, rfl⟩ := List.mem_map.mp hk; exact C.mem t ht
      rw [List.length_map] at h1
      exact Nat.le_trans h1 At.small
    repeat walk_at "s1"
    refine append_list (up _ _ C.itl q2) (by rw [List.length_map]; exact Nat.le_trans htl (by decide)) ?_
    refine seqQ_next ?_
    refine S_seq ?_
    repeat walk_at "s1"
    refine len_seq (seq_of (at_set_ne C.ne (up _ _ C.st q1))) (by rw [natL_len, List.length_map]; exact Nat.le_trans htl (by decide)) ?_
    repeat walk_at "s1"
    refine set_dict (at_set_ne (Ne.symm q5) (up _ _ hnd0 q3)) (lookup_none_iff.mpr (by rw [hndk, keyL_mem]; exact hylt)) (by
      have := congrArg List.length hndk
      rw [List.length_map, keyL_len, List.length_map] at this
      omega) fun ep' => ?_
    refine seqQ_next ?_
    refine S_last ?_
    refine S_Expr ?_ (by unfold PySem.interactive; walk_at "kd") rfl
    refine E_MethList (id := "list.append") F.slot_list_append F.type_list_append ?_ rfl rfl rfl rfl rfl
    repeat walk_at "s1"
    refine ⟨⟨_, _, rfl, seq_of (at_set_ne q4 (at_set_ne C.ne (up _ _ C.st q1)))⟩, ?_⟩
    repeat walk_at "s1"
    refine append_list (at_set_ne q4 (at_set_ne C.ne (up _ _ C.st q1))) (by rw [natL_len, List.length_map]; exact Nat.le_trans htl (by decide)) ?_
    have C2 := C.push (ep := ep') (nd := nd ++ [((y : Int), .int ((natL (ts.map (·.1))).length : Int))]) hy hyse hit' hu' hui (by rw [List.map_append, hndk, List.map_append]; exact (keyL_snoc _ _).symm)
    have hnd2 : ((ts ++ [(y, u, it)]).map (·.1)).Nodup := by
      rw [List.map_append, List.nodup_append]
      exact ⟨hnd, by simp, fun a ha b hb e => hylt (by rw [show b = y by simpa using hb] at e; exact e ▸ ha)⟩
    refine seqQ_next ?_
    refine S_last (cyc_in B hcalm hsc At C2 (.inr ⟨rfl, ts, u, it, rfl⟩) hnd2 (fun v τ1 hv C1 => ?_) (fun τ1 C1 => ?_))
    · refine loopQ_next (rk v) (hrk y hy v hv) ⟨v, _, τ1, _, rfl, rfl, At.ups y hy v hv, C1, hnd2, fun t ht => ?_⟩ (St.le_refl _)
      rcases List.mem_append.mp ht with h | h
      · exact Nat.lt_trans (hrk y hy v hv) (hts t h)
      · rw [List.mem_singleton.mp h]; exact hrk y hy v hv
    · exact loopQ_brk (hend τ1 _ y C1)


end
section


variable {w : World} {base : Heap} {os : OsState} {mb : Str → Option Value}
theorem truthy_n {c : Cx} {st : St} {Q : Bool → St → Prop} (h : Q false st) : W1 c BoolRep .none truthy Q st := fun v hid stk s ok R hv => by
  cases hv
  exact w_eq (v := false) rfl ⟨false, st, R, rfl, .refl _, h⟩
theorem compL_bind {α : Type} (l : List α) (g : α → Option PV) : compL (fun k => (l[k]?).bind g) l.length = l.filterMap g := by
  have : ∀ n, n ≤ l.length → compL (fun k => (l[k]?).bind g) n = (l.take n).filterMap g := by
    intro n
    induction n with
    | zero => intro _; rfl
    | succ n ih =>
      intro h
      have hn : n < l.length := h
      rw [List.take_add_one, List.filterMap_append, ← ih (Nat.le_of_lt hn), List.getElem?_eq_getElem hn]
      cases q : g l[n] with
      | none => rw [compL_none (by rw [List.getElem?_eq_getElem hn]; exact q)]; simp [q]
      | some p => rw [compL_some (q := p) (by rw [List.getElem?_eq_getElem hn]; exact q)]; simp [q]
  rw [this _ (Nat.le_refl _), List.take_length]
theorem compL_filter (l : List Nat) (np : Nat → Int) : compL (fun k => (l[k]?).bind fun j => if np j = 0 then some (PV.int (j : Int)) else none) l.length = natL (l.filter fun k => np k == 0) := by
  rw [compL_bind]
  induction l with
  | nil => rfl
  | cons x l ih =>
    rw [List.filterMap_cons, List.filter_cons]
    by_cases h : np x = 0
    · rw [if_pos h, if_pos (by simpa using h)]; simp only [ih]; rfl
    · rw [if_neg h, if_neg (by simpa using h)]; exact ih
theorem cyc_call (B : Bs (G w base os mb)) {n : Nat} {s : Srt} {σ : AHeap} {S0 : Addr} (At : s.At σ) (hS : s.S = S0) (rk : Nat → Nat) (hrk : ∀ k ∈ s.order, ∀ u, s.up k = some u → rk u < rk k) {Q : PV → AHeap → Prop} (h : ∀ τ, σ.Sub τ → Q .none τ) : CallS (G w base os mb) ⟨n + 1, true⟩ (.ref 127) [.ref S0] Q σ := by
  subst hS
  refine call_def (fd := fdAt 127) (body := bdAt 127) [Str.ofString "self"] B.gd (B.fn 127 (by simp)).get rfl rfl (B.fn 127 (by simp)).code rfl rfl rfl rfl rfl rfl (by decide) rfl (fun vs hv => ?_) (fun i => rfl) (fun i => rfl) ?_
  · obtain ⟨v1, rfl⟩ := len1 hv; rfl
  intro c L hc hlv hsc hce hq hf
  obtain ⟨g, lv, Ar, env⟩ := c
  subst hc hlv
  show WS _ (bdAt 127) _ ([(Str.ofString "self", .ref s.S)], σ)
  clear hq hf hce
  refine S_seq ?_
  repeat walk_at "s1"
  refine get_attr B.K (t_own1 _) At.inst At.attrs rfl rfl ?_
  repeat walk_at "s1"
  refine ⟨by simp, fun stA h1 => ?_⟩
  have h1' : σ stA = none := h1
  repeat walk_at "s1"
  refine ⟨by simp, fun itA h2 => ?_⟩
  have h2' : (σ.set stA (.list [])) itA = none := h2
  have n1 : stA ≠ itA := ne_none at_set_same h2'
  rw [AHeap.set_ne _ _ (Ne.symm n1)] at h2'
  repeat walk_at "s1"
  refine E_CallT0 B.gd (by walk_at "kd") rfl (by decide) rfl (call_set0 fun seA h3 => ?_) rfl rfl
  have h3' : ((σ.set stA (.list [])).set itA (.list [])) seA = none := h3
  have n2 : stA ≠ seA := ne_none (at_set_ne n1 at_set_same) h3'
  have n3 : itA ≠ seA := ne_none at_set_same h3'
  rw [AHeap.set_ne _ _ (Ne.symm n3), AHeap.set_ne _ _ (Ne.symm n2)] at h3'
  repeat walk_at "s1"
  refine E_Dict0 B.gd fun ndA ep h4 hnds => ?_
  have h4' : (((σ.set stA (.list [])).set itA (.list [])).set seA (.own (isetR []))) ndA = none := h4
  have n4 : stA ≠ ndA := ne_none (at_set_ne n2 (at_set_ne n1 at_set_same)) h4'
  have n5 : itA ≠ ndA := ne_none (at_set_ne n3 at_set_same) h4'
  have n6 : seA ≠ ndA := ne_none at_set_same h4'
  rw [AHeap.set_ne _ _ (Ne.symm n6), AHeap.set_ne _ _ (Ne.symm n5), AHeap.set_ne _ _ (Ne.symm n4)] at h4'
  have C0 : Cyc s σ ((((σ.set stA (.list [])).set itA (.list [])).set seA (.own (isetR []))).set ndA (.own (idictR [] ep))) stA itA seA ndA [] 1 [] :=
    ⟨fun a o e => at_set_ne (ne_none e h4') (at_set_ne (ne_none e h3') (at_set_ne (ne_none e h2') (at_set_ne (ne_none e h1') e))), at_set_ne n4 (at_set_ne n2 (at_set_ne n1 at_set_same)), at_set_ne n5 (at_set_ne n3 at_set_same), at_set_ne n6 at_set_same, ⟨[], ep, at_set_same, rfl⟩, fun ts0 t e => by simp at e, by simp, by simp, by simp, by simp, by simp, n1, h1', h2', h3', h4'⟩
  refine W1_store (by walk_at "kd") ?_
  refine seqQ_next ?_
  refine S_seq ?_
  show WX _ cycFor _ (muC s.S s.od stA itA seA ndA, _)
  generalize (((σ.set stA (.list [])).set itA (.list [])).set seA (.own (isetR []))).set ndA (.own (idictR [] ep)) = τ0 at C0 ⊢
  refine S_for rfl (fun k st => ∃ τ se, st = (muC s.S s.od stA itA seA ndA, τ) ∧ Cyc s σ τ stA itA seA ndA [] 1 se) ?_ (fun x => rfl)
  repeat walk_at "s1"
  refine ⟨_, _, _, it_keys (C0.sub _ _ At.dict) At.sysm, ⟨τ0, [], rfl, C0⟩, St.le_refl _, ?_, ?_, ?_⟩
  · rintro k _ ⟨τ, se, rfl, C⟩; exact C.sub _ _ At.dict
  · rintro k q _ hk0 ⟨τ, se, rfl, C⟩
    rw [dl_keys] at hk0
    obtain ⟨x, hx, rfl⟩ : ∃ x, s.order[k]? = some x ∧ q = .int (x : Int) := by
      have : intL (keyL s.order) = natL s.order := by unfold intL keyL natL; rw [List.map_map]; rfl
      rw [this] at hk0
      exact natL_get hk0
    have hxo : x ∈ s.order := List.mem_of_getElem? hx
    refine Asg_local (by walk_at "kd") ?_
    refine S_seq ?_
    repeat walk_at "s1"
    refine in_set C.seen (C.seLen At) ?_
    repeat walk_at "s1"
    refine ifQ_dec (fun hb => ?_) (fun hb => ?_)
    · repeat walk_at "s1"
      exact forQ_cont ⟨τ, se, rfl, C⟩ (St.le_app (.refl _))
    · repeat walk_at "s1"
      refine cyc_while B rfl hsc At rk hrk hxo hnds C ⟨_, rfl⟩ fun τ' se' y C' => ?_
      exact forQ_next ⟨τ', se', rfl, C'⟩ (St.le_app (.refl _))
  · rintro _ ⟨τ, se, rfl, C⟩
    repeat walk_at "s1"
    exact h τ C.sub
noncomputable def Srt.prep (s : Srt) (a : Addr) (l : List Nat) : Srt := { s with rdy := some a, rl := l }
theorem prep_at {s : Srt} {σ : AHeap} (A : s.At σ) (hr : s.rdy = none) {a : Addr} {l : List Nat} (ha : σ a = some (.list (natL l))) (hsc : ∀ k ∈ s.order, s.sc k ≠ a) (how : ¬ s.own a) : (s.prep a l).At (σ.set s.D (.own (attrsR (s.prep a l).al))) ∧ (∀ b o, ¬ s.own b → σ b = some o → (σ.set s.D (.own (attrsR (s.prep a l).al))) b = some o) := by
  have ne : ∀ b o, σ b = some o → (∀ l, o ≠ .own (attrsR l)) → b ≠ s.D := fun b o e h q => by rw [q, A.attrs] at e; exact h _ (Option.some.inj e).symm
  refine ⟨⟨at_set_ne (ne _ _ A.inst fun _ e => by cases e) A.inst, at_set_same, at_set_ne (ne _ _ A.dict fun l => own_ne (by intro q; cases q)) A.dict, A.sysm, fun j hj => at_set_ne (ne _ _ (A.node j hj) fun l => own_ne (by intro q; cases q)) (A.node j hj), fun j hj => at_set_ne (ne _ _ (A.dxs j hj) fun _ e => by cases e) (A.dxs j hj), fun j hj => at_set_ne (ne _ _ (A.succ j hj) fun _ e => by cases e) (A.succ j hj), A.scinj, ?_, A.nodup, A.small, A.ups, A.clean⟩, fun b o h e => at_set_ne (fun q => h (.inr (.inl q))) e⟩
  intro b hb
  cases Option.some.inj hb
  exact ⟨at_set_ne (ne _ _ ha fun _ e => by cases e) ha, hsc⟩
set_option maxHeartbeats 1000000 in
theorem prep_call (B : Bs (G w base os mb)) {n : Nat} {s : Srt} {σ : AHeap} (At : s.At σ) (hr : s.rdy = none) (rk : Nat → Nat) (hrk : ∀ k ∈ s.order, ∀ u, s.up k = some u → rk u < rk k) {Q : PV → AHeap → Prop}
    (h : ∀ s' τ a, s'.At τ → Fr s σ s' τ → s'.v = (s.S, s.order, s.up, s.np, some a, s.order.filter (fun k => s.np k == 0), s.pa, s.fi) → Q .none τ) : CallS (G w base os mb) ⟨n + 2, true⟩ (.ref 92) [.ref s.S] Q σ := by
  refine call_def (fd := fdAt 92) (body := bdAt 92) [Str.ofString "self"] B.gd (B.fn 92 (by simp)).get rfl rfl (B.fn 92 (by simp)).code rfl rfl rfl rfl rfl rfl (by decide) rfl (fun vs hv => ?_) (fun i => rfl) (fun i => rfl) ?_
  · obtain ⟨v1, rfl⟩ := len1 hv; rfl
  intro c L hc hlv hsc hce hq hf
  obtain ⟨g, lv, Ar, env⟩ := c
  subst hc hlv
  show WS _ (bdAt 92) _ ([(Str.ofString "self", .ref s.S)], σ)
  refine S_seq ?_
  repeat walk_at "s1"
  refine get_attr B.K (t_own2 _) At.inst At.attrs rfl (by rw [rv_none hr]; rfl) ?_
  rw [rv_none hr]
  repeat walk_at "s1"
  refine E_ListComp (cl := []) rfl (closure_of hce rfl) (by decide) rfl (by decide) (fun x => rfl) ?_
  refine E_MethB0 F.plainAttrs_dict F.slot_dict_values F.type_dict_values ?_ rfl rfl
  repeat walk_at "s1"
  refine get_attr B.K (t_own1 _) At.inst At.attrs rfl rfl ?_
  refine ⟨typB_dict At.dict, dict_values At.dict At.sysm fun v hv => ?_⟩
  have s1 : σ.Sub (σ.set v (.raw (valView s.od))) := AHeap.sub_set _ hv
  have hvv : (σ.set v (.raw (valView s.od))) v = some (.raw (valView s.od)) := at_set_same
  generalize σ.set v (.raw (valView s.od)) = σ1 at s1 hvv ⊢
  have At1 := At.sub s1
  have hvals : s.dl.map (·.2) = s.order.map fun k => PV.ref (s.info k) := by unfold Srt.dl; rw [List.map_map]; rfl
  have hz : (s.dl.map (·.2)).length ≤ 1000000 := by rw [hvals, List.length_map]; exact Nat.le_trans At.small (by decide)
  refine ⟨_, _, it_vals hvv At1.dict, comp_pure (fun k => (s.order[k]?).bind fun j => if s.np j = 0 then some (.int (j : Int)) else none) hz (fun τ h => h _ _ At1.dict) ?_ ?_⟩
  · intro c' hcx hlx hsc' hce' k p τ' hp hsub
    obtain ⟨g', lv', A', env'⟩ := c'
    obtain rfl : g' = G w base os mb := hcx
    rw [hvals, List.getElem?_map] at hp
    cases q : s.order[k]? with
    | none => rw [q] at hp; cases hp
    | some j =>
      rw [q] at hp
      obtain rfl := Option.some.inj hp
      have hj : j ∈ s.order := List.mem_of_getElem? q
      have At2 := At1.sub hsub
      refine Asg_local (by walk_at "kd") ?_
      repeat walk_at "s1"
      refine get_slotP B.K (n_get1 _) (At2.node j hj) (At2.dxs j hj) rfl rfl ?_
      repeat walk_at "s1"
      refine ⟨fun hb => ?_, fun hb => ?_⟩
      · have hb' : s.np j = 0 := by simpa using hb
        repeat walk_at "s1"
        refine get_slotP B.K (n_get0 _) (At2.node j hj) (At2.dxs j hj) rfl rfl ?_
        exact ⟨by simp only [Option.bind_some, if_pos hb'], .refl _⟩
      · have hb' : ¬ s.np j = 0 := by simpa using hb
        exact ⟨by simp only [Option.bind_some, if_neg hb'], .refl _⟩
  · intro r τ s2 hr0 hrl
    have hc : compL (fun k => (s.order[k]?).bind fun j => if s.np j = 0 then some (PV.int (j : Int)) else none) (s.dl.map (·.2)).length = natL (s.order.filter fun k => s.np k == 0) := by
      rw [hvals, List.length_map]
      exact compL_filter _ _
    rw [hc] at hrl
    have At2 := At1.sub s2
    repeat walk_at "s1"
    refine set_attrE (l' := (s.prep r (s.order.filter fun k => s.np k == 0)).al) B.K (t_set2 _) At2.inst At2.attrs (by unfold Srt.al; rw [rv_none hr]; kernel_rfl) (show (4 : Nat) ≤ 50 by decide) ?_
    have hrσ : σ r = none := fresh_sub' s1 (show σ1 r = none from hr0)
    have how : ¬ s.own r := by
      have : ∀ a o, σ a = some o → r ≠ a := fun a o e q => by rw [q, e] at hrσ; cases hrσ
      rintro (q | q | q | ⟨k, hk, q | q | q⟩ | q)
      · exact this _ _ At.inst q
      · exact this _ _ At.attrs q
      · exact this _ _ At.dict q
      · exact this _ _ (At.node k hk) q
      · exact this _ _ (At.succ k hk) q
      · exact this _ _ (At.dxs k hk) q
      · rw [hr] at q; cases q
    have hscr : ∀ k ∈ s.order, s.sc k ≠ r := fun k hk q => how (.inr (.inr (.inr (.inl ⟨k, hk, .inr (.inl q.symm)⟩))))
    obtain ⟨At3, kp⟩ := prep_at At2 hr hrl hscr how
    have F3 : Fr s σ (s.prep r (s.order.filter fun k => s.np k == 0)) (τ.set s.D (.own (attrsR (s.prep r (s.order.filter fun k => s.np k == 0)).al))) := ⟨fun a o h e => kp a o h (s2 _ _ (s1 _ _ e)), fun a e h => by
      rintro (q | q | q | q | q)
      · exact h (.inl q)
      · exact h (.inr (.inl q))
      · exact h (.inr (.inr (.inl q)))
      · exact h (.inr (.inr (.inr (.inl q))))
      · have : r = a := Option.some.inj q
        rw [← this, hrσ] at e; exact e rfl⟩
    generalize τ.set s.D (.own (attrsR (s.prep r (s.order.filter fun k => s.np k == 0)).al)) = τ3 at At3 F3 ⊢
    clear kp hrl s2 At2
    refine seqQ_next ?_
    refine S_seq ?_
    refine S_Assign ?_ rfl
    refine E_MethI0 B.K (t_m7 _) (by rfl) ?_ rfl
    repeat walk_at "s1"
    refine ⟨⟨s.S, s.D, _, rfl, At3.inst, At3.attrs, rfl⟩, WN_call (cyc_call B At3 rfl rk hrk fun τ4 s4 => ?_)⟩
    repeat walk_at "s1"
    refine truthy_n ?_
    repeat walk_at "s1"
    exact h _ τ4 r (At3.sub s4) (F3.trans (Fr.sub s4)) rfl


end
section


variable {w : World} {base : Heap} {os : OsState} {mb : Str → Option Value}
noncomputable def Srt.setpf (s : Srt) (pa fi : Int) : Srt := { s with pa := pa, fi := fi }
theorem setpf_v {s : Srt} {S : Addr} {o : List Nat} {u : Nat → Option Nat} {np : Nat → Int} {r : Option Addr} {rl : List Nat} {pa fi pa' fi' : Int} (h : s.v = (S, o, u, np, r, rl, pa, fi)) : (s.setpf pa' fi').v = (S, o, u, np, r, rl, pa', fi') := by
  obtain ⟨rfl, rfl, rfl, rfl, rfl, rfl, rfl, rfl⟩ := v_inv h; rfl
theorem setpf_at {s : Srt} {σ : AHeap} (A : s.At σ) (pa fi : Int) : (s.setpf pa fi).At (σ.set s.D (.own (attrsR (s.setpf pa fi).al))) ∧ Fr s σ (s.setpf pa fi) (σ.set s.D (.own (attrsR (s.setpf pa fi).al))) := by
  have ne : ∀ b o, σ b = some o → (∀ l, o ≠ .own (attrsR l)) → b ≠ s.D := fun b o e h q => by rw [q, A.attrs] at e; exact h _ (Option.some.inj e).symm
  exact ⟨⟨at_set_ne (ne _ _ A.inst fun _ e => by cases e) A.inst, at_set_same, at_set_ne (ne _ _ A.dict fun l => own_ne (by intro q; cases q)) A.dict, A.sysm, fun j hj => at_set_ne (ne _ _ (A.node j hj) fun l => own_ne (by intro q; cases q)) (A.node j hj), fun j hj => at_set_ne (ne _ _ (A.dxs j hj) fun _ e => by cases e) (A.dxs j hj), fun j hj => at_set_ne (ne _ _ (A.succ j hj) fun _ e => by cases e) (A.succ j hj), A.scinj, fun a ha => ⟨at_set_ne (ne _ _ (A.ready a ha).1 fun _ e => by cases e) (A.ready a ha).1, (A.ready a ha).2⟩, A.nodup, A.small, A.ups, A.clean⟩,
    fun b o h e => at_set_ne (fun q => h (.inr (.inl q))) e, fun a e h => h⟩
noncomputable def Srt.setrl (s : Srt) (l : List Nat) : Srt := { s with rl := l }
theorem setrl_v {s : Srt} {S : Addr} {o : List Nat} {u : Nat → Option Nat} {np : Nat → Int} {r : Option Addr} {rl l : List Nat} {pa fi : Int} (h : s.v = (S, o, u, np, r, rl, pa, fi)) : (s.setrl l).v = (S, o, u, np, r, l, pa, fi) := by
  obtain ⟨rfl, rfl, rfl, rfl, rfl, rfl, rfl, rfl⟩ := v_inv h; rfl
theorem setrl_at {s : Srt} {σ : AHeap} (A : s.At σ) {a : Addr} (ha : s.rdy = some a) (l : List Nat) : (s.setrl l).At (σ.set a (.list (natL l))) ∧ Fr s σ (s.setrl l) (σ.set a (.list (natL l))) := by
  obtain ⟨h1, h2⟩ := A.ready a ha
  have ne : ∀ b o, σ b = some o → (∀ l, o ≠ .list l) → b ≠ a := fun b o e h q => by rw [q, h1] at e; exact h _ (Option.some.inj e).symm
  refine ⟨⟨at_set_ne (ne _ _ A.inst fun _ e => by cases e) A.inst, at_set_ne (ne _ _ A.attrs fun _ e => by cases e) A.attrs, at_set_ne (ne _ _ A.dict fun _ e => by cases e) A.dict, A.sysm, fun j hj => at_set_ne (ne _ _ (A.node j hj) fun _ e => by cases e) (A.node j hj), fun j hj => at_set_ne (ne _ _ (A.dxs j hj) fun _ e => by cases e) (A.dxs j hj), fun j hj => at_set_ne (h2 j hj) (A.succ j hj), A.scinj, fun b hb => ?_, A.nodup, A.small, A.ups, A.clean⟩,
    fun b o h e => at_set_ne (fun q => h (.inr (.inr (.inr (.inr (q ▸ ha)))))) e, fun a e h => h⟩
  have : some a = some b := ha.symm.trans hb
  cases this
  exact ⟨at_set_same, h2⟩
theorem active_call (B : Bs (G w base os mb)) {n : Nat} {s : Srt} {σ : AHeap} {S0 : Addr} (At : s.At σ) (hS : s.S = S0) {a : Addr} (hr : s.rdy = some a) (hz : s.rl.length ≤ 1000) {Q : PV → AHeap → Prop} (h : Q (.bool (decide (s.fi < s.pa) || !s.rl.isEmpty)) σ) : CallS (G w base os mb) ⟨n + 1, true⟩ (.ref 106) [.ref S0] Q σ := by
  subst hS
  refine call_def (fd := fdAt 106) (body := bdAt 106) [Str.ofString "self"] B.gd (B.fn 106 (by simp)).get rfl rfl (B.fn 106 (by simp)).code rfl rfl rfl rfl rfl rfl (by decide) rfl (fun vs hv => ?_) (fun i => rfl) (fun i => rfl) ?_
  · obtain ⟨v1, rfl⟩ := len1 hv; rfl
  intro c L hc hlv hsc hce hq hf
  obtain ⟨g, lv, Ar, env⟩ := c
  subst hc hlv
  show WS _ (bdAt 106) _ ([(Str.ofString "self", .ref s.S)], σ)
  clear hq hf hce
  obtain ⟨r1, _⟩ := At.ready a hr
  refine S_seq ?_
  repeat walk_at "s1"
  refine get_attr B.K (t_own2 _) At.inst At.attrs rfl (by rw [rv_some hr]; rfl) ?_
  rw [rv_some hr]
  repeat walk_at "s1"
  refine E_Or ?_
  refine E_Compare ?_ rfl
  repeat walk_at "s1"
  refine get_attr B.K (t_own4 _) At.inst At.attrs rfl rfl ?_
  repeat walk_at "s1"
  refine get_attr B.K (t_own3 _) At.inst At.attrs rfl rfl ?_
  repeat walk_at "s1"
  cases hb : decide (s.fi < s.pa) with
  | true =>
    rw [hb] at h
    exact orV_true h
  | false =>
    rw [hb] at h
    refine orV_false (E_Or1 ?_)
    repeat walk_at "s1"
    refine get_attr B.K (t_own2 _) At.inst At.attrs rfl (by rw [rv_some hr]; rfl) ?_
    rw [rv_some hr]
    repeat walk_at "s1"
    refine bool_list (seq_of r1) (by rw [natL_len]; exact Nat.le_trans hz (by decide)) ?_
    rw [show (natL s.rl).isEmpty = s.rl.isEmpty by unfold natL; cases s.rl <;> rfl]
    exact h
noncomputable def RdI (s : Srt) (σ : AHeap) (a : Addr) (k : Nat) (st : St) : Prop := ∃ s' τ, st = ([(Str.ofString "self", .ref s.S), (Str.ofString "result", .tup (natL s.rl)), (Str.ofString "n2i", .ref s.od)], τ) ∧ s'.At τ ∧ Fr s σ s' τ ∧ s'.od = s.od ∧
    s'.v = (s.S, s.order, s.up, (fun k' => if k' ∈ s.rl.take k then -1 else s.np k'), some a, s.rl, s.pa, s.fi)
theorem ready_call (B : Bs (G w base os mb)) {n : Nat} {s : Srt} {σ : AHeap} {S0 : Addr} (At : s.At σ) (hS : s.S = S0) {a : Addr} (hr : s.rdy = some a) (hz : s.rl.length ≤ 1000) (hin : ∀ k ∈ s.rl, k ∈ s.order) {Q : PV → AHeap → Prop}
    (h : ∀ s' τ, s'.At τ → Fr s σ s' τ → s'.v = (s.S, s.order, s.up, (fun k => if k ∈ s.rl then -1 else s.np k), some a, [], s.pa + (s.rl.length : Int), s.fi) → Q (.tup (natL s.rl)) τ) : CallS (G w base os mb) ⟨n + 1, true⟩ (.ref 99) [.ref S0] Q σ := by
  subst hS
  refine call_def (fd := fdAt 99) (body := bdAt 99) [Str.ofString "self"] B.gd (B.fn 99 (by simp)).get rfl rfl (B.fn 99 (by simp)).code rfl rfl rfl rfl rfl rfl (by decide) rfl (fun vs hv => ?_) (fun i => rfl) (fun i => rfl) ?_
  · obtain ⟨v1, rfl⟩ := len1 hv; rfl
  intro c L hc hlv hsc hce hq hf
  obtain ⟨g, lv, Ar, env⟩ := c
  subst hc hlv
  show WS _ (bdAt 99) _ ([(Str.ofString "self", .ref s.S)], σ)
  clear hq hf hce
  obtain ⟨r1, _⟩ := At.ready a hr
  refine S_seq ?_
  repeat walk_at "s1"
  refine get_attr B.K (t_own2 _) At.inst At.attrs rfl (by rw [rv_some hr]; rfl) ?_
  rw [rv_some hr]
  repeat walk_at "s1"
  refine get_attr B.K (t_own2 _) At.inst At.attrs rfl (by rw [rv_some hr]; rfl) ?_
  rw [rv_some hr]
  repeat walk_at "s1"
  refine tuple_of_list (seq_of r1) (by rw [natL_len]; exact Nat.le_trans hz (by decide)) ?_
  repeat walk_at "s1"
  refine get_attr B.K (t_own1 _) At.inst At.attrs rfl rfl ?_
  refine W1_store (by walk_at "kd") ?_
  refine seqQ_next ?_
  refine S_seq ?_
  refine S_for rfl (RdI s σ a) ?_ (fun x => rfl)
  repeat walk_at "s1"
  refine ⟨_, _, _, it_tuple, ⟨s, σ, rfl, At, .refl _ _, rfl, by unfold Srt.v; simp [hr]⟩, St.le_refl _, fun _ _ _ => trivial, ?_, ?_⟩
  · rintro k q _ hk0 ⟨s', τ, rfl, A', F', eod, v'⟩
    obtain ⟨x, hx, rfl⟩ := natL_get hk0
    obtain ⟨e1, e2, e3, e4, e5, e6, e7, e8⟩ : s'.S = s.S ∧ s'.order = s.order ∧ s'.up = s.up ∧ s'.np = (fun k' => if k' ∈ s.rl.take k then -1 else s.np k') ∧ s'.rdy = some a ∧ s'.rl = s.rl ∧ s'.pa = s.pa ∧ s'.fi = s.fi := v_inv v'
    have hxo : x ∈ s'.order := by rw [e2]; exact hin x (List.mem_of_getElem? hx)
    refine Asg_local (by walk_at "kd") ?_
    refine S_last ?_
    repeat walk_at "s1"
    refine get_dict (p := .ref (s'.info x)) (by rw [← eod]; exact A'.dict) (by rw [dl_lookup, if_pos hxo]) ?_
    refine set_slotP B.K (n_set1 _) (A'.node x hxo) (A'.dxs x hxo) (show 1 ≤ 3 by decide) ?_
    obtain ⟨A2, F2⟩ := setnp_at A' hxo (-1)
    refine forQ_next ⟨s'.setnp x (-1), _, rfl, A2, F'.trans F2, eod, ?_⟩ (St.le_app (.refl _))
    refine (setnp_v v').trans (congrArg (fun f => (s.S, s.order, s.up, f, some a, s.rl, s.pa, s.fi)) (funext fun j => ?_))
    unfold upd
    rw [List.take_add_one, hx]
    by_cases hj : j = x
    · simp [hj]
    · simp [hj]
  · rintro _ ⟨s', τ, rfl, A', F', eod, v'⟩
    rw [natL_len, List.take_length] at v'
    obtain ⟨e1, e2, e3, e4, e5, e6, e7, e8⟩ : s'.S = s.S ∧ s'.order = s.order ∧ s'.up = s.up ∧ s'.np = (fun k' => if k' ∈ s.rl then -1 else s.np k') ∧ s'.rdy = some a ∧ s'.rl = s.rl ∧ s'.pa = s.pa ∧ s'.fi = s.fi := v_inv v'
    obtain ⟨r2, _⟩ := A'.ready a e5
    obtain ⟨A2, F2⟩ := setrl_at A' e5 []
    obtain ⟨A3, F3⟩ := setpf_at A2 (s'.pa + (s.rl.length : Int)) s'.fi
    refine S_nil ?_
    refine seqQ_next ?_
    refine S_seq ?_
    refine S_Expr ?_ (by unfold PySem.interactive; walk_at "kd") rfl
    refine E_MethList0 (id := "list.clear") F.slot_list_clear F.type_list_clear ?_ rfl rfl
    repeat walk_at "s1"
    refine get_attr (p := .ref a) B.K (t_own2 _) (by rw [← e1]; exact A'.inst) A'.attrs (by rw [← rv_some e5]; rfl) rfl ?_
    refine ⟨⟨_, _, rfl, seq_of r2⟩, clear_list r2 (by rw [natL_len, e6]; exact Nat.le_trans hz (by decide)) ?_⟩
    refine seqQ_next ?_
    refine S_seq ?_
    repeat walk_at "s1"
    refine get_attr (p := .int s'.pa) B.K (t_own3 _) (by rw [← e1]; exact A2.inst) A2.attrs rfl rfl ?_
    repeat walk_at "s1"
    refine len_tup (by rw [natL_len]; exact Nat.le_trans hz (by decide)) ?_
    rw [natL_len]
    repeat walk_at "s1"
    refine set_attrE (l' := ((s'.setrl []).setpf (s'.pa + (s.rl.length : Int)) s'.fi).al) B.K (t_set3 _) (by rw [← e1]; exact A2.inst) A2.attrs (by kernel_rfl) (show (4 : Nat) ≤ 50 by decide) ?_
    repeat walk_at "s1"
    refine h _ _ A3 (F'.trans (F2.trans F3)) ?_
    refine (setpf_v (setrl_v v')).trans ?_
    rw [e7, e8]


end
section


variable {w : World} {base : Heap} {os : OsState} {mb : Str → Option Value}
/-- a name marked done -/
noncomputable def dstep (up : Nat → Option Nat) (x : (Nat → Int) × List Nat) (k : Nat) : (Nat → Int) × List Nat :=
  match up k with
  | none => (upd x.1 k (-2), x.2)
  | some u => (upd (upd x.1 k (-2)) u (upd x.1 k (-2) u - 1), if upd x.1 k (-2) u - 1 = 0 then x.2 ++ [u] else x.2)
noncomputable def dall (up : Nat → Option Nat) (x : (Nat → Int) × List Nat) (l : List Nat) : (Nat → Int) × List Nat := l.foldl (dstep up) x
theorem upd_same {α : Type} (f : Nat → α) (k : Nat) (v : α) : upd f k v k = v := if_pos rfl
noncomputable abbrev muD (S od : Addr) (l : List Nat) : Locals := [(Str.ofString "self", .ref S), (Str.ofString "nodes", .tup (natL l)), (Str.ofString "n2i", .ref od)]
noncomputable def DnO (s : Srt) (σ : AHeap) (l : List Nat) (a : Addr) (k : Nat) (st : St) : Prop := ∃ s' τ, st = (muD s.S s.od l, τ) ∧ s'.At τ ∧ Fr s σ s' τ ∧ s'.od = s.od ∧
    s'.v = (s.S, s.order, s.up, (dall s.up (s.np, s.rl) (l.take k)).1, some a, (dall s.up (s.np, s.rl) (l.take k)).2, s.pa, s.fi + (k : Int))
noncomputable def DnI (s : Srt) (σ : AHeap) (l : List Nat) (a : Addr) (x : Nat) (sc0 : Addr) (np0 : Nat → Int) (rl0 : List Nat) (i k : Nat) (st : St) : Prop := ∃ s' τ, st = (muD s.S s.od l, τ) ∧ s'.At τ ∧ Fr s σ s' τ ∧ s'.od = s.od ∧ s'.sc x = sc0 ∧
      s'.v = (s.S, s.order, s.up, (if k = 0 then upd np0 x (-2) else (dstep s.up (np0, rl0) x).1), some a, (if k = 0 then rl0 else (dstep s.up (np0, rl0) x).2), s.pa, s.fi + (i : Int))
set_option maxHeartbeats 1000000 in
theorem done_call (B : Bs (G w base os mb)) {n : Nat} {s : Srt} {σ : AHeap} {S0 : Addr} (At : s.At σ) (hS : s.S = S0) {a : Addr} (hr : s.rdy = some a) {l : List Nat} (hl : l.length ≤ 1000) (hz : ∀ i ≤ l.length, (dall s.up (s.np, s.rl) (l.take i)).2.length ≤ 1000)
    (hin : ∀ i k, l[i]? = some k → k ∈ s.order ∧ (dall s.up (s.np, s.rl) (l.take i)).1 k = -1) {Q : PV → AHeap → Prop}
    (h : ∀ s' τ, s'.At τ → Fr s σ s' τ → s'.v = (s.S, s.order, s.up, (dall s.up (s.np, s.rl) l).1, some a, (dall s.up (s.np, s.rl) l).2, s.pa, s.fi + (l.length : Int)) → Q .none τ) :
    CallS (G w base os mb) ⟨n + 1, true⟩ (.ref 120) (.ref S0 :: natL l) Q σ := by
  subst hS
  refine call_bind (fd := fdAt 120) (body := bdAt 120) (kw := []) (ps := [.ref s.S] ++ [.tup (natL l)]) [Str.ofString "self", Str.ofString "nodes"] B.gd (B.fn 120 (by simp)).get rfl rfl (B.fn 120 (by simp)).code rfl rfl rfl rfl rfl rfl (by decide) rfl ?_ (fun i => rfl) (fun i => rfl) ?_
  · intro A hid stk s' vs ks E Q R hv hks hQ
    obtain ⟨v1, r1, rfl, h1, hv⟩ := hv.cons_inv
    obtain rfl := hks.nil_inv
    refine bind_var (fd := fdAt 120) (front := [v1]) R (.cons h1 .nil) hv (by rw [natL_len]; exact hl) ?_ hQ
    cases r1 with
    | nil => kernel_rfl
    | cons v2 r2 => kernel_rfl
  intro c L hc hlv hsc hce hq hf
  obtain ⟨g, lv, Ar, env⟩ := c
  subst hc hlv
  show WS _ (bdAt 120) _ ([(Str.ofString "self", .ref s.S), (Str.ofString "nodes", .tup (natL l))], σ)
  clear hq hf hce
  refine S_seq ?_
  repeat walk_at "s1"
  refine get_attr B.K (t_own2 _) At.inst At.attrs rfl (by rw [rv_some hr]; rfl) ?_
  rw [rv_some hr]
  repeat walk_at "s1"
  refine get_attr B.K (t_own1 _) At.inst At.attrs rfl rfl ?_
  refine W1_store (by walk_at "kd") ?_
  refine seqQ_next ?_
  refine S_last ?_
  refine S_for rfl (DnO s σ l a) ?_ (fun x => rfl)
  repeat walk_at "s1"
  refine ⟨_, _, _, it_tuple, ⟨s, σ, rfl, At, .refl _ _, rfl, by unfold Srt.v dall; simp [hr]⟩, St.le_refl _, fun _ _ _ => trivial, ?_, ?_⟩
  · rintro i q _ hk0 ⟨s', τ, rfl, A', F', eod, v'⟩
    obtain ⟨x, hx, rfl⟩ := natL_get hk0
    obtain ⟨hxo0, hnp⟩ := hin i x hx
    have hi : i < l.length := (List.getElem?_eq_some_iff.mp hx).1
    have hz1 := hz i (Nat.le_of_lt hi)
    have htk : dall s.up (s.np, s.rl) (l.take (i + 1)) = dstep s.up (dall s.up (s.np, s.rl) (l.take i)) x := by
      rw [List.take_add_one, hx]; unfold dall; rw [List.foldl_append]; rfl
    have hz2 := hz (i + 1) hi
    rw [htk] at hz2
    generalize dall s.up (s.np, s.rl) (l.take i) = D at *
    obtain ⟨np0, rl0⟩ := D
    obtain ⟨e1, e2, e3, e4, e5, e6, e7, e8⟩ : s'.S = s.S ∧ s'.order = s.order ∧ s'.up = s.up ∧ s'.np = np0 ∧ s'.rdy = some a ∧ s'.rl = rl0 ∧ s'.pa = s.pa ∧ s'.fi = s.fi + (i : Int) := v_inv v'
    have hxo : x ∈ s'.order := by rw [e2]; exact hxo0
    refine Asg_local (by walk_at "kd") ?_
    refine S_seq ?_
    repeat walk_at "s1"
    refine E_MethB F.plainAttrs_dict F.slot_dict_get F.type_dict_get ?_ rfl rfl rfl rfl rfl
    repeat walk_at "s1"
    refine ⟨typB_dict (by rw [← eod]; exact A'.dict), ?_⟩
    repeat walk_at "s1"
    refine dict_get (by rw [← eod]; exact A'.dict) (by rw [← eod]; exact A'.sysm) ?_
    rw [dl_lookup, if_pos hxo, Option.getD_some]
    repeat walk_at "s1"
    refine get_slotP B.K (n_get1 _) (A'.node x hxo) (A'.dxs x hxo) rfl rfl ?_
    rw [show PV.int (s'.np x) = .int (-1) by rw [e4]; exact congrArg PV.int hnp]
    repeat walk_at "s1"
    refine cmp_ne (i := -1) (j := -1) ?_
    rw [show ((-1 : Int) != -1) = false from rfl]
    repeat walk_at "s1"
    refine set_slotP B.K (n_set1 _) (A'.node x hxo) (A'.dxs x hxo) (show 1 ≤ 3 by decide) ?_
    obtain ⟨A2, F2⟩ := setnp_at A' hxo (-2)
    have F2 := F'.trans F2
    have hn2 : s'.info x = (s'.setnp x (-2)).info x := rfl
    rw [show s'.info x = (s'.setnp x (-2)).info x from rfl]
    have v2 : (s'.setnp x (-2)).v = (s.S, s.order, s.up, upd np0 x (-2), some a, rl0, s.pa, s.fi + (i : Int)) := setnp_v v'
    have eod2 : (s'.setnp x (-2)).od = s.od := eod
    show seqQ _ _ _ .next (_, τ.set (s'.info x) (.own (slotsR 40 (s'.dx x) [.int (x : Int), .int (-2), .ref (s'.sc x)])))
    generalize τ.set (s'.info x) (.own (slotsR 40 (s'.dx x) [.int (x : Int), .int (-2), .ref (s'.sc x)])) = τ2 at A2 F2 ⊢
    generalize s'.setnp x (-2) = s2 at A2 F2 v2 eod2 ⊢
    clear A' F' v' e1 e2 e3 e4 e5 e6 e7 e8 hxo eod hn2
    obtain ⟨e1, e2, e3, e4, e5, e6, e7, e8⟩ : s2.S = s.S ∧ s2.order = s.order ∧ s2.up = s.up ∧ s2.np = upd np0 x (-2) ∧ s2.rdy = some a ∧ s2.rl = rl0 ∧ s2.pa = s.pa ∧ s2.fi = s.fi + (i : Int) := v_inv v2
    have hxo : x ∈ s2.order := by rw [e2]; exact hxo0
    refine seqQ_next ?_
    refine S_seq ?_
    refine S_for rfl (DnI s σ l a x (s2.sc x) np0 rl0 i) ?_ (fun x => rfl)
    repeat walk_at "s1"
    refine get_slotP B.K (n_get2 _) (A2.node x hxo) (A2.dxs x hxo) rfl rfl ?_
    have hsc2 := A2.succ x hxo
    refine ⟨_, _, _, it_list (seq_of hsc2), ⟨s2, τ2, rfl, A2, F2, eod2, rfl, by rw [if_pos rfl, if_pos rfl]; exact v2⟩, St.le_app (.refl _), ?_, ?_, ?_⟩
    · rintro k _ ⟨s3, τ3, rfl, A3, F3, eod3, esc, v3⟩
      have hup3 : s3.up = s2.up := by have : s3.up = s.up := congrArg (fun t => t.2.2.1) v3; rw [this, e3]
      have hx3 : x ∈ s3.order := by have : s3.order = s.order := congrArg (fun t => t.2.1) v3; rw [this]; exact hxo0
      have := A3.succ x hx3
      rw [esc, hup3] at this
      exact seq_of this
    · rintro k q _ hk1 ⟨s3, τ3, rfl, A3, F3, eod3, esc, v3⟩
      obtain ⟨u, hu, rfl⟩ := natL_get hk1
      rw [e3] at hu
      obtain ⟨rfl, hup⟩ : k = 0 ∧ s.up x = some u := by
        cases q : s.up x with
        | none => rw [q] at hu; simp at hu
        | some v =>
          rw [q] at hu
          cases k with
          | zero => simp at hu; exact ⟨rfl, by rw [hu]⟩
          | succ k => simp at hu
      rw [if_pos rfl, if_pos rfl] at v3
      obtain ⟨g1, g2, g3, g4, g5, g6, g7, g8⟩ : s3.S = s.S ∧ s3.order = s.order ∧ s3.up = s.up ∧ s3.np = upd np0 x (-2) ∧ s3.rdy = some a ∧ s3.rl = rl0 ∧ s3.pa = s.pa ∧ s3.fi = s.fi + (i : Int) := v_inv v3
      have huo : u ∈ s3.order := by rw [g2]; exact At.ups x hxo0 u hup
      have hds : dstep s.up (np0, rl0) x = (upd (upd np0 x (-2)) u (upd np0 x (-2) u - 1), if upd np0 x (-2) u - 1 = 0 then rl0 ++ [u] else rl0) := by unfold dstep; rw [hup]
      rw [hds] at hz2
      refine Asg_local (by walk_at "kd") ?_
      refine S_seq ?_
      repeat walk_at "s1"
      refine get_dict (p := .ref (s3.info u)) (by rw [← eod3]; exact A3.dict) (by rw [dl_lookup, if_pos huo]) ?_
      repeat walk_at "s1"
      refine get_slotP B.K (n_get1 _) (A3.node u huo) (A3.dxs u huo) rfl rfl ?_
      repeat walk_at "s1"
      refine set_slotP B.K (n_set1 _) (A3.node u huo) (A3.dxs u huo) (show 1 ≤ 3 by decide) ?_
      obtain ⟨A4, F4⟩ := setnp_at A3 huo (s3.np u - 1)
      have F4 := F3.trans F4
      have v4 : (s3.setnp u (s3.np u - 1)).v = (s.S, s.order, s.up, upd (upd np0 x (-2)) u (upd np0 x (-2) u - 1), some a, rl0, s.pa, s.fi + (i : Int)) := by
        rw [g4]; exact setnp_v v3
      repeat walk_at "s1"
      refine get_slotP (q := .int (s3.np u - 1)) B.K (n_get1 _) (A4.node u huo) (A4.dxs u huo) (by unfold Srt.nl Srt.setnp; simp only [upd_same]; rfl) rfl ?_
      repeat walk_at "s1"
      refine ifQ_dec (fun hb => ?_) (fun hb => ?_)
      · have hb' : upd np0 x (-2) u - 1 = 0 := by rw [← g4]; simpa using hb
        obtain ⟨r4, _⟩ := A4.ready a g5
        obtain ⟨A5, F5⟩ := setrl_at A4 g5 (rl0 ++ [u])
        refine S_last ?_
        refine S_Expr ?_ (by unfold PySem.interactive; walk_at "kd") rfl
        refine E_MethList (id := "list.append") F.slot_list_append F.type_list_append ?_ rfl rfl rfl rfl rfl
        repeat walk_at "s1"
        refine get_attr (p := .ref a) B.K (t_own2 _) (by rw [← g1]; exact A4.inst) A4.attrs (by rw [← rv_some g5]; rfl) rfl ?_
        refine ⟨⟨_, _, rfl, seq_of r4⟩, ?_⟩
        repeat walk_at "s1"
        refine append_list r4 (by rw [natL_len]; show s3.rl.length ≤ _; rw [g6]; rw [if_pos hb'] at hz2; simp at hz2; omega) ?_
        refine forQ_next ⟨(s3.setnp u (s3.np u - 1)).setrl (rl0 ++ [u]), _, rfl, A5, F4.trans F5, eod3, esc, ?_⟩ ?_
        · rw [if_neg (Nat.succ_ne_zero _), if_neg (Nat.succ_ne_zero _), hds, if_pos hb']
          exact setrl_v v4
        · rw [natL_snoc, ← g6]; exact St.le_app (.refl _)
      · have hb' : ¬ upd np0 x (-2) u - 1 = 0 := by rw [← g4]; simpa using hb
        refine S_nil ?_
        refine forQ_next ⟨s3.setnp u (s3.np u - 1), _, rfl, A4, F4, eod3, esc, ?_⟩ (St.le_app (.refl _))
        rw [if_neg (Nat.succ_ne_zero _), if_neg (Nat.succ_ne_zero _), hds, if_neg hb']
        exact v4
    · rintro _ ⟨s3, τ3, rfl, A3, F3, eod3, esc, v3⟩
      rw [natL_len] at v3
      have v4 : s3.v = (s.S, s.order, s.up, (dstep s.up (np0, rl0) x).1, some a, (dstep s.up (np0, rl0) x).2, s.pa, s.fi + (i : Int)) := by
        rw [v3]
        cases hux : s2.up x with
        | none =>
          have : s.up x = none := by rw [← e3]; exact hux
          unfold dstep; rw [this]; rfl
        | some u => rfl
      obtain ⟨g1, g2, g3, g4, g5, g6, g7, g8⟩ : s3.S = s.S ∧ s3.order = s.order ∧ s3.up = s.up ∧ s3.np = (dstep s.up (np0, rl0) x).1 ∧ s3.rdy = some a ∧ s3.rl = (dstep s.up (np0, rl0) x).2 ∧ s3.pa = s.pa ∧ s3.fi = s.fi + (i : Int) := v_inv v4
      obtain ⟨A4, F4⟩ := setpf_at A3 s3.pa (s3.fi + 1)
      refine S_nil ?_
      refine seqQ_next ?_
      refine S_last ?_
      repeat walk_at "s1"
      refine get_attr (p := .int s3.fi) B.K (t_own4 _) (by rw [← g1]; exact A3.inst) A3.attrs rfl rfl ?_
      repeat walk_at "s1"
      refine set_attrE (l' := (s3.setpf s3.pa (s3.fi + 1)).al) B.K (t_set4 _) (by rw [← g1]; exact A3.inst) A3.attrs (by kernel_rfl) (show (4 : Nat) ≤ 50 by decide) ?_
      refine forQ_next ⟨s3.setpf s3.pa (s3.fi + 1), _, rfl, A4, F3.trans F4, eod3, ?_⟩ (St.le_refl _)
      rw [htk]
      rw [g7, g8, Int.natCast_add, ← Int.add_assoc]
      exact setpf_v v4
  · rintro _ ⟨s', τ, rfl, A', F', eod, v'⟩
    rw [natL_len, List.take_length] at v'
    refine S_nil ?_
    exact h s' τ A' F' v'


end
section


variable {w : World} {base : Heap} {os : OsState} {mb : Str → Option Value}
/-- how many of a row are at most x -/
noncomputable def cutB (x : Nat) (l : List Nat) : Nat := (l.filter fun y => decide (y ≤ x)).length
theorem cutB_le (x : Nat) (l : List Nat) : cutB x l ≤ l.length := List.length_filter_le _ _
theorem cutB_iff {x : Nat} : ∀ {l : List Nat}, l.Pairwise (· ≤ ·) → ∀ i (h : i < l.length), (x < l[i] ↔ cutB x l ≤ i)
  | [], _, i, h => absurd h (Nat.not_lt_zero _)
  | y :: l, hp, i, h => by
    obtain ⟨h1, h2⟩ := List.pairwise_cons.mp hp
    by_cases hy : y ≤ x
    · have e : cutB x (y :: l) = cutB x l + 1 := by unfold cutB; rw [List.filter_cons_of_pos (by simpa using hy)]; rfl
      cases i with
      | zero => rw [e]; simp; omega
      | succ i =>
        rw [e, List.getElem_cons_succ, cutB_iff h2 i (Nat.lt_of_succ_lt_succ h)]
        omega
    · have : ∀ z ∈ y :: l, ¬ z ≤ x := fun z hz => by
        rcases List.mem_cons.mp hz with rfl | hz
        · exact hy
        · have := h1 z hz; omega
      have e : cutB x (y :: l) = 0 := by
        unfold cutB; rw [List.filter_eq_nil_iff.mpr fun z hz => by simpa using this z hz]; rfl
      rw [e]
      have := this _ (List.getElem_mem h)
      simp; omega
theorem cut_sorted {x : Nat} {l : List Nat} (hp : l.Pairwise (· ≤ ·)) : (l.take (cutB x l) ++ x :: l.drop (cutB x l)).Pairwise (· ≤ ·) := by
  have lo : ∀ y ∈ l.take (cutB x l), y ≤ x := fun y hy => by
    obtain ⟨i, hi, rfl⟩ := List.getElem_of_mem hy
    rw [List.getElem_take]
    rw [List.length_take] at hi
    have := cutB_iff (x := x) hp i (by omega)
    omega
  have hi : ∀ y ∈ l.drop (cutB x l), x ≤ y := fun y hy => by
    obtain ⟨i, hi, rfl⟩ := List.getElem_of_mem hy
    rw [List.getElem_drop]
    rw [List.length_drop] at hi
    have := cutB_iff (x := x) hp (cutB x l + i) (by omega)
    omega
  rw [List.pairwise_append]
  refine ⟨hp.sublist (List.take_sublist _ _), List.pairwise_cons.mpr ⟨hi, hp.sublist (List.drop_sublist _ _)⟩, fun a ha b hb => ?_⟩
  rcases List.mem_cons.mp hb with rfl | hb
  · exact lo a ha
  · exact Nat.le_trans (lo a ha) (hi b hb)
theorem cut_perm {x : Nat} {l : List Nat} {k : Nat} : (l.take k ++ x :: l.drop k).Perm (x :: l) := by
  refine List.perm_middle.trans (.cons _ ?_)
  rw [List.take_append_drop]
theorem natL_at {l : List Nat} {i : Nat} (h : i < l.length) : (natL l)[(i : Int).toNat]? = some (.int (l[i] : Int)) := by
  unfold natL
  rw [Int.toNat_natCast, List.getElem?_map, List.getElem?_eq_getElem h]; rfl
noncomputable def BiI (a : Addr) (l : List Nat) (x : Nat) (σ : AHeap) (m : Nat) (st : St) : Prop := ∃ (lo hi : Nat), lo ≤ cutB x l ∧ cutB x l ≤ hi ∧ hi ≤ l.length ∧ m + lo = hi ∧
    st = ([(Str.ofString "a", .ref a), (Str.ofString "x", .int (x : Int)), (Str.ofString "lo", .int (lo : Int)), (Str.ofString "hi", .int (hi : Int)), (Str.ofString "key", .none)], σ)
theorem bisect_body (B : Bs (G w base os mb)) {n : Nat} {A : Around} {env : Env} {a : Addr} {l : List Nat} {σ : AHeap} {x : Nat} {Q : PV → AHeap → Prop} (hsc : env.scope = (fdAt 159).scope)
    (hs : σ a = some (.list (natL l))) (hz : l.length ≤ 1000) (hp : l.Pairwise (· ≤ ·)) (hQ : Q (.int (cutB x l : Int)) σ) :
    WS ⟨G w base os mb, ⟨n, true⟩, A, env⟩ (bdAt 159) (fun f st => Q (match f with | .ret p => p | _ => .none) st.2)
      ([(Str.ofString "a", .ref a), (Str.ofString "x", .int (x : Int)), (Str.ofString "lo", .int 0), (Str.ofString "hi", .none), (Str.ofString "key", .none)], σ) := by
  refine S_seq ?_
  repeat walk_at "s1"
  refine ifQ_false ?_
  repeat walk_at "s1"
  refine len_seq (seq_of hs) (by rw [natL_len]; exact Nat.le_trans hz (by decide)) ?_
  rw [natL_len]
  repeat walk_at "s1"
  refine S_while (BiI a l x σ) l.length _ ⟨0, l.length, Nat.zero_le _, cutB_le _ _, Nat.le_refl _, rfl, rfl⟩ (St.le_refl _) ?_
  rintro m _ ⟨lo, hi, h1, h2, h3, h4, rfl⟩
  repeat walk_at "s1"
  refine ⟨fun hb => ?_, fun hb => ?_⟩
  · have hb' : lo < hi := Int.ofNat_lt.mp (of_decide_eq_true hb)
    repeat walk_at "s1"
    have hm : ((lo : Int) + (hi : Int)).fdiv 2 = (((lo + hi) / 2 : Nat) : Int) := by rw [Int.fdiv_eq_ediv_of_nonneg _ (by omega)]; omega
    rw [hm]
    have hml : (lo + hi) / 2 < l.length := by omega
    repeat walk_at "s1"
    refine get_list (p := .int (l[(lo + hi) / 2] : Int)) (seq_of hs) (Int.natCast_nonneg _) (natL_at hml) (by rw [natL_len]; exact Nat.le_trans hz (by decide)) ?_
    have hc := cutB_iff (x := x) hp _ hml
    repeat walk_at "s1"
    refine ifQ_dec (fun hb2 => ?_) (fun hb2 => ?_)
    · have hk := hc.mp (Int.ofNat_lt.mp (of_decide_eq_true hb2))
      repeat walk_at "s1"
      exact loopQ_next ((lo + hi) / 2 - lo) (by omega) ⟨lo, (lo + hi) / 2, h1, hk, by omega, by omega, rfl⟩ (St.le_app (.refl _))
    · have hk : ¬ cutB x l ≤ (lo + hi) / 2 := fun q => of_decide_eq_false hb2 (Int.ofNat_lt.mpr (hc.mpr q))
      repeat walk_at "s1"
      exact loopQ_next (hi - ((lo + hi) / 2 + 1)) (by omega) ⟨(lo + hi) / 2 + 1, hi, by omega, h2, h3, by omega, rfl⟩ (St.le_app (.refl _))
  · have hb' : ¬ lo < hi := fun q => of_decide_eq_false hb (Int.ofNat_lt.mpr q)
    repeat walk_at "s1"
    have : lo = cutB x l := by omega
    subst this
    exact hQ
theorem VReps.two {h : Heap} {p q : PV} {vs : List Value} (x : VReps h [p, q] vs) : ∃ v u, vs = [v, u] ∧ VRep h p v ∧ VRep h q u := by
  obtain ⟨v1, r1, rfl, h1, x⟩ := x.cons_inv
  obtain ⟨v2, r2, rfl, h2, x⟩ := x.cons_inv
  exact ⟨v1, v2, by rw [x.nil_inv], h1, h2⟩
theorem bisect_call4 (B : Bs (G w base os mb)) {n : Nat} {a : Addr} {l : List Nat} {σ : AHeap} {x : Nat} {Q : PV → AHeap → Prop}
    (hs : σ a = some (.list (natL l))) (hz : l.length ≤ 1000) (hp : l.Pairwise (· ≤ ·)) (hQ : Q (.int (cutB x l : Int)) σ) :
    CallS (G w base os mb) ⟨n + 1, true⟩ (.ref 159) [.ref a, .int (x : Int), .int 0, .none] Q σ := by
  refine call_bind (fd := fdAt 159) (body := bdAt 159) (kw := []) (ps := [.ref a, .int (x : Int), .int 0, .none, .none]) [Str.ofString "a", Str.ofString "x", Str.ofString "lo", Str.ofString "hi", Str.ofString "key"] B.gd (B.fn 159 (by simp)).get rfl rfl (B.fn 159 (by simp)).code rfl rfl rfl rfl rfl rfl (by decide) rfl ?_ (fun i => rfl) (fun i => rfl) ?_
  · intro A hid stk s vs ks E Q R hv hks hQ
    obtain ⟨v1, r1, rfl, h1, hv⟩ := hv.cons_inv
    obtain ⟨v2, r2, rfl, h2, hv⟩ := hv.cons_inv
    obtain ⟨v3, v4, rfl, h3, h4⟩ := hv.two
    obtain rfl := hks.nil_inv
    obtain ⟨m, hm, hkey⟩ := B.kw 152 (by simp)
    show wpAny _ _ (seqItems? (Value.ref 151) >>= _) _ _ s
    refine wpAny_bind (wpAny_seqItems (R.stays _ _ (B.K 151 _ rfl)) rfl ?_)
    show wpAny _ _ (((nsGet 152 (Str.ofString "key") >>= _) >>= _) >>= _) _ _ s
    refine wpAny_bind (wpAny_bind (wpAny_bind (wpAny_nsGet (hm.keeps R.stays) ?_)))
    rw [hkey]
    exact wpAny_pure (wpAny_pure (wpAny_pure (hQ _ s R (.refl _) (.cons h1 (.cons h2 (.cons h3 (.cons h4 (.cons (p := .none) rfl .nil))))))))
  intro c L hc hlv hsc hce hq hf
  obtain ⟨g, lv, A, env⟩ := c
  subst hc hlv
  exact bisect_body B hsc hs hz hp hQ
theorem insort_call2 (B : Bs (G w base os mb)) {n : Nat} {a : Addr} {l : List Nat} {σ : AHeap} {x : Nat} {Q : PV → AHeap → Prop}
    (hs : σ a = some (.list (natL l))) (hz : l.length < 1000) (hp : l.Pairwise (· ≤ ·)) (hQ : ∀ l' : List Nat, l'.Perm (x :: l) → l'.Pairwise (· ≤ ·) → Q .none (σ.set a (.list (natL l')))) :
    CallS (G w base os mb) ⟨n + 2, true⟩ (.ref 150) [.ref a, .int (x : Int)] Q σ := by
  refine call_bind (fd := fdAt 150) (body := bdAt 150) (kw := []) (ps := [.ref a, .int (x : Int), .int 0, .none, .none]) [Str.ofString "a", Str.ofString "x", Str.ofString "lo", Str.ofString "hi", Str.ofString "key"] B.gd (B.fn 150 (by simp)).get rfl rfl (B.fn 150 (by simp)).code rfl rfl rfl rfl rfl rfl (by decide) rfl ?_ (fun i => rfl) (fun i => rfl) ?_
  · intro A hid stk s vs ks E Q R hv hks hQ
    obtain ⟨v1, v2, rfl, h1, h2⟩ := hv.two
    obtain rfl := hks.nil_inv
    obtain ⟨m, hm, hkey⟩ := B.kw 143 (by simp)
    show wpAny _ _ (seqItems? (Value.ref 142) >>= _) _ _ s
    refine wpAny_bind (wpAny_seqItems (R.stays _ _ (B.K 142 _ rfl)) rfl ?_)
    show wpAny _ _ (((nsGet 143 (Str.ofString "key") >>= _) >>= _) >>= _) _ _ s
    refine wpAny_bind (wpAny_bind (wpAny_bind (wpAny_nsGet (hm.keeps R.stays) ?_)))
    rw [hkey]
    exact wpAny_pure (wpAny_pure (wpAny_pure (hQ _ s R (.refl _) (.cons h1 (.cons h2 (.cons (p := .int 0) ⟨_, rfl⟩ (.cons (p := .none) rfl (.cons (p := .none) rfl .nil))))))))
  intro c L hc hlv hsc hce hq hf
  obtain ⟨g, lv, A, env⟩ := c
  subst hc hlv
  show WS _ (bdAt 150) _ ([(Str.ofString "a", .ref a), (Str.ofString "x", .int (x : Int)), (Str.ofString "lo", .int 0), (Str.ofString "hi", .none), (Str.ofString "key", .none)], σ)
  refine S_seq ?_
  repeat walk_at "s1"
  refine WN_call ?_
  refine bisect_call4 B hs (Nat.le_of_lt hz) hp ?_
  repeat walk_at "s1"
  have hc := cutB_le x l
  refine insert_list hs (Int.natCast_nonneg _) (by rw [natL_len]; exact Int.ofNat_le.mpr hc) (by rw [natL_len]; exact Nat.le_trans (Nat.le_of_lt hz) (by decide)) ?_
  rw [Int.toNat_natCast]
  have := hQ _ cut_perm (cut_sorted (x := x) hp)
  unfold natL at this ⊢
  rw [List.map_append, List.map_cons, List.map_take, List.map_drop] at this
  exact this


end
section

/-! the sorter, plainly -/
section
variable {up : Nat → Option Nat} {nodes : List Nat}
/-- how many names not yet done stand right under k -/
noncomputable def cntS (up : Nat → Option Nat) (nodes dn : List Nat) (k : Nat) : Nat := (nodes.filter fun v => decide (v ∉ dn ∧ up v = some k)).length
theorem filter_len_drop {α : Type} [DecidableEq α] {p q : α → Bool} {k : α} : ∀ {l : List α}, l.Nodup → k ∈ l → (∀ v ∈ l, q v = (p v && decide (v ≠ k))) → (l.filter p).length = (l.filter q).length + if p k = true then 1 else 0
  | [], _, h, _ => absurd h (List.not_mem_nil)
  | a :: l, hn, hk, h => by
    obtain ⟨h1, h2⟩ := List.nodup_cons.mp hn
    have ha := h a (List.mem_cons_self ..)
    by_cases e : k = a
    · subst e
      have hq : q k = false := by rw [ha]; simp
      have : l.filter q = l.filter p := List.filter_congr fun v hv => by
        rw [h v (List.mem_cons_of_mem _ hv)]
        have : v ≠ k := fun e => h1 (e ▸ hv)
        simp [this]
      rw [List.filter_cons_of_neg (a := k) (p := q) (by rw [hq]; simp), this]
      by_cases hp : p k = true
      · rw [List.filter_cons_of_pos hp, if_pos hp]; rfl
      · rw [List.filter_cons_of_neg hp, if_neg hp]; rfl
    · have hk' : k ∈ l := (List.mem_cons.mp hk).resolve_left e
      have ih := filter_len_drop h2 hk' fun v hv => h v (List.mem_cons_of_mem _ hv)
      have hq : q a = p a := by rw [ha]; simp [Ne.symm e]
      by_cases hp : p a = true
      · rw [List.filter_cons_of_pos hp, List.filter_cons_of_pos (hq.trans hp), List.length_cons, List.length_cons, ih]; omega
      · rw [List.filter_cons_of_neg hp, List.filter_cons_of_neg (by rw [hq]; exact hp), ih]
theorem cnt_step {dn : List Nat} {k u : Nat} (hn : nodes.Nodup) (hk : k ∈ nodes) (hd : k ∉ dn) : cntS up nodes dn u = cntS up nodes (dn ++ [k]) u + if up k = some u then 1 else 0 := by
  have := filter_len_drop (p := fun v => decide (v ∉ dn ∧ up v = some u)) (q := fun v => decide (v ∉ dn ++ [k] ∧ up v = some u)) hn hk fun v _ => by
    by_cases h1 : v = k
    · simp [h1]
    · by_cases h2 : v ∈ dn
      · simp [h1, h2]
      · by_cases h3 : up v = some u
        · simp [h1, h2, h3]
        · simp [h2, h3]
  unfold cntS
  rw [this]
  simp [hd]
theorem cnt_pos {dn : List Nat} {k u : Nat} (hk : k ∈ nodes) (hd : k ∉ dn) (h : up k = some u) : 0 < cntS up nodes dn u :=
  List.length_pos_of_mem (List.mem_filter.mpr ⟨hk, by simp [hd, h]⟩)
theorem cnt_zero {dn : List Nat} {u : Nat} : cntS up nodes dn u = 0 ↔ ∀ v ∈ nodes, v ∉ dn → up v ≠ some u := by
  constructor
  · intro h v hv hd e
    have := cnt_pos hv hd e
    omega
  · intro h
    unfold cntS
    rw [List.length_eq_zero_iff, List.filter_eq_nil_iff]
    intro v hv
    simp only [decide_eq_true_eq, not_and]
    exact fun hd => h v hv hd
/-- the sorter's state: dn are done, out are handed out, rl are ready -/
structure SInv (up : Nat → Option Nat) (nodes dn out : List Nat) (np : Nat → Int) (rl : List Nat) : Prop where
  nn : nodes.Nodup
  np : ∀ k ∈ nodes, np k = if k ∈ dn then -2 else if k ∈ out then -1 else (cntS up nodes dn k : Int)
  nd : (out ++ rl).Nodup
  iff : ∀ k, k ∈ out ++ rl ↔ k ∈ nodes ∧ k ∉ dn ∧ cntS up nodes dn k = 0
  dnd : dn.Nodup
  dni : ∀ k ∈ dn, k ∈ nodes
  cl : ∀ k ∈ dn, cntS up nodes dn k = 0
theorem SInv.perm {dn out out' rl : List Nat} {np : Nat → Int} (h : SInv up nodes dn out np rl) (p : out.Perm out') : SInv up nodes dn out' np rl :=
  ⟨h.nn, fun k hk => by rw [h.np k hk]; simp only [p.mem_iff], (p.append_right rl).nodup_iff.mp h.nd, fun k => by rw [← h.iff k]; simp only [List.mem_append, p.mem_iff], h.dnd, h.dni, h.cl⟩
theorem SInv.ready {dn out rl : List Nat} {np : Nat → Int} (h : SInv up nodes dn out np rl) : SInv up nodes dn (out ++ rl) (fun k => if k ∈ rl then -1 else np k) [] :=
  ⟨h.nn, fun k hk => by
    by_cases hr : k ∈ rl
    · have := (h.iff k).mp (List.mem_append_right _ hr)
      rw [if_pos hr, if_neg this.2.1, if_pos (List.mem_append_right _ hr)]
    · rw [if_neg hr, h.np k hk]
      simp only [List.mem_append, hr, or_false], by rw [List.append_nil]; exact h.nd, fun k => by rw [List.append_nil]; exact h.iff k, h.dnd, h.dni, h.cl⟩
theorem SInv.room {dn out rl : List Nat} {np : Nat → Int} (h : SInv up nodes dn out np rl) : dn.length + out.length + rl.length ≤ nodes.length := by
  have : (dn ++ (out ++ rl)).Nodup := List.nodup_append.mpr ⟨h.dnd, h.nd, fun a ha b hb e => ((h.iff b).mp hb).2.1 (e ▸ ha)⟩
  have hs : dn ++ (out ++ rl) ⊆ nodes := fun k hk => by
    rcases List.mem_append.mp hk with hk | hk
    · exact h.dni k hk
    · exact ((h.iff k).mp hk).1
  have := this.length_le_of_subset hs
  simp only [List.length_append] at this
  omega
theorem SInv.done {dn out rl : List Nat} {np : Nat → Int} {k : Nat} (h : SInv up nodes dn (k :: out) np rl) (hu : ∀ k ∈ nodes, ∀ u, up k = some u → u ∈ nodes ∧ u ≠ k) :
    np k = -1 ∧ SInv up nodes (dn ++ [k]) out (dstep up (np, rl) k).1 (dstep up (np, rl) k).2 := by
  obtain ⟨k1, k2, k3⟩ := (h.iff k).mp (by simp)
  have hnd : k ∉ out ++ rl ∧ (out ++ rl).Nodup := List.nodup_cons.mp h.nd
  have dnd : (dn ++ [k]).Nodup := List.nodup_append.mpr ⟨h.dnd, by simp, fun a ha b hb e => k2 (by simp at hb; rw [← hb, ← e]; exact ha)⟩
  have dni : ∀ j ∈ dn ++ [k], j ∈ nodes := fun j hj => by
    rcases List.mem_append.mp hj with hj | hj
    · exact h.dni j hj
    · simp at hj; exact hj ▸ k1
  refine ⟨by rw [h.np k k1, if_neg k2, if_pos (by simp)], ?_⟩
  have iff0 : ∀ j, j ∈ out ++ rl ↔ j ≠ k ∧ j ∈ nodes ∧ j ∉ dn ∧ cntS up nodes dn j = 0 := fun j => by
    rw [← h.iff j, List.cons_append, List.mem_cons]
    constructor
    · exact fun hj => ⟨fun e => hnd.1 (e ▸ hj), .inr hj⟩
    · rintro ⟨h1, h2 | h2⟩
      · exact absurd h2 h1
      · exact h2
  have cle : ∀ j, cntS up nodes (dn ++ [k]) j ≤ cntS up nodes dn j := fun j => by
    rw [cnt_step (k := k) (u := j) h.nn k1 k2]; omega
  have cl : ∀ j ∈ dn ++ [k], cntS up nodes (dn ++ [k]) j = 0 := fun j hj => by
    have := cle j
    rcases List.mem_append.mp hj with hj | hj
    · have := h.cl j hj; omega
    · simp at hj; rw [hj] at this ⊢; omega
  cases hup : up k with
  | none =>
    have ec : ∀ j, cntS up nodes (dn ++ [k]) j = cntS up nodes dn j := fun j => by
      rw [cnt_step (k := k) (u := j) h.nn k1 k2, hup, if_neg (by simp)]; rfl
    unfold dstep
    rw [hup]
    refine ⟨h.nn, fun j hj => ?_, hnd.2, fun j => ?_, dnd, dni, cl⟩
    · show upd np k (-2) j = _
      unfold upd
      by_cases e : j = k
      · rw [if_pos e, if_pos (by simp [e])]
      · rw [if_neg e, h.np j hj, ec j]
        simp only [List.mem_append, List.mem_cons, e, List.not_mem_nil, or_false, false_or]
    · rw [iff0, ec]
      simp only [List.mem_append, List.mem_cons, List.not_mem_nil, or_false, not_or]
      exact ⟨fun ⟨a, b, c, d⟩ => ⟨b, ⟨c, a⟩, d⟩, fun ⟨b, ⟨c, a⟩, d⟩ => ⟨a, b, c, d⟩⟩
  | some u =>
    obtain ⟨u1, u2⟩ := hu k k1 u hup
    have hpos := cnt_pos (up := up) k1 k2 hup
    have hno : u ∉ (k :: out) ++ rl := fun q => by have := ((h.iff u).mp q).2.2; omega
    have ec : ∀ j, cntS up nodes dn j = cntS up nodes (dn ++ [k]) j + if u = j then 1 else 0 := fun j => by
      rw [cnt_step (k := k) (u := j) h.nn k1 k2, hup]; simp
    have hund : u ∉ dn := fun q => by have := h.cl u q; omega
    have hnu : np u = (cntS up nodes dn u : Int) := by
      rw [h.np u u1, if_neg hund, if_neg (fun q => hno (List.mem_append_left _ q))]
    have ecu := ec u
    rw [if_pos rfl] at ecu
    have hnu' : upd np k (-2) u - 1 = (cntS up nodes (dn ++ [k]) u : Int) := by
      unfold upd; rw [if_neg u2, hnu]; omega
    have huo : u ∉ out := fun q => hno (List.mem_append_left _ (List.mem_cons_of_mem _ q))
    have hur : u ∉ out ++ rl := fun q => hno (by rw [List.cons_append]; exact List.mem_cons_of_mem _ q)
    have hnp : ∀ j ∈ nodes, upd (upd np k (-2)) u (upd np k (-2) u - 1) j = if j ∈ dn ++ [k] then -2 else if j ∈ out then -1 else (cntS up nodes (dn ++ [k]) j : Int) := fun j hj => by
      rw [hnu']
      unfold upd
      by_cases e : j = u
      · rw [if_pos e, e, if_neg (by simp [hund, u2]), if_neg huo]
      · rw [if_neg e]
        by_cases e2 : j = k
        · rw [if_pos e2, if_pos (by simp [e2])]
        · have := ec j
          rw [if_neg (Ne.symm e), Nat.add_zero] at this
          rw [if_neg e2, h.np j hj, this]
          simp only [List.mem_append, List.mem_cons, e2, List.not_mem_nil, or_false, false_or]
    have hiff : ∀ j, (j ∈ out ++ rl ∨ (j = u ∧ cntS up nodes (dn ++ [k]) u = 0)) ↔ j ∈ nodes ∧ j ∉ dn ++ [k] ∧ cntS up nodes (dn ++ [k]) j = 0 := fun j => by
      by_cases e : j = u
      · subst e
        simp [hur, hund, u1, u2]
      · have := ec j
        rw [if_neg (Ne.symm e), Nat.add_zero] at this
        rw [iff0, this]
        simp only [e, false_and, or_false, List.mem_append, List.mem_cons, List.not_mem_nil, not_or]
        exact ⟨fun ⟨a, b, c, d⟩ => ⟨b, ⟨c, a⟩, d⟩, fun ⟨b, ⟨c, a⟩, d⟩ => ⟨a, b, c, d⟩⟩
    unfold dstep
    rw [hup]
    show SInv up nodes (dn ++ [k]) out (upd (upd np k (-2)) u (upd np k (-2) u - 1)) (if upd np k (-2) u - 1 = 0 then rl ++ [u] else rl)
    by_cases hz : upd np k (-2) u - 1 = 0
    · rw [if_pos hz]
      have hz' : cntS up nodes (dn ++ [k]) u = 0 := by omega
      refine ⟨h.nn, hnp, ?_, fun j => ?_, dnd, dni, cl⟩
      · rw [← List.append_assoc]
        exact List.nodup_append.mpr ⟨hnd.2, by simp, fun a ha b hb e => hur (by simp at hb; rw [← hb, ← e]; exact ha)⟩
      · rw [← hiff j, ← List.append_assoc, List.mem_append, List.mem_singleton]
        simp only [hz', and_true]
    · rw [if_neg hz]
      have hz' : ¬ cntS up nodes (dn ++ [k]) u = 0 := by omega
      refine ⟨h.nn, hnp, hnd.2, fun j => ?_, dnd, dni, cl⟩
      rw [← hiff j]
      simp only [hz', and_false, or_false]
/-- all of a row done -/
theorem SInv.doneAll (hu : ∀ k ∈ nodes, ∀ u, up k = some u → u ∈ nodes ∧ u ≠ k) : ∀ (l : List Nat) {dn out rl : List Nat} {np : Nat → Int}, SInv up nodes dn (l ++ out) np rl →
    (∀ i k, l[i]? = some k → k ∈ nodes ∧ (dall up (np, rl) (l.take i)).1 k = -1) ∧ (∀ i ≤ l.length, (dall up (np, rl) (l.take i)).2.length ≤ nodes.length) ∧ SInv up nodes (dn ++ l) out (dall up (np, rl) l).1 (dall up (np, rl) l).2
  | [], dn, out, rl, np, h => ⟨fun i k e => (by simp at e), fun i hi => (by have := h.room; simp [dall]; omega), by rw [List.append_nil]; exact h⟩
  | k :: l, dn, out, rl, np, h => by
    obtain ⟨h1, h2⟩ := h.done hu
    obtain ⟨g1, g2, g3⟩ := doneAll hu l h2
    have e : ∀ i, dall up (np, rl) ((k :: l).take (i + 1)) = dall up (dstep up (np, rl) k) (l.take i) := fun i => rfl
    refine ⟨fun i j hj => ?_, fun i hi => ?_, ?_⟩
    · cases i with
      | zero => simp at hj; subst hj; exact ⟨((h.iff k).mp (by simp)).1, h1⟩
      | succ i => rw [e]; exact g1 i j (by simpa using hj)
    · cases i with
      | zero => have := h.room; simp [dall]; omega
      | succ i => rw [e]; exact g2 i (by simpa using hi)
    · rw [List.append_assoc] at g3
      exact g3
end


end
section

section
open PySem.SeqAt PyProof.Rows
variable {c : Cx} {μ : Locals} {σ : AHeap}
theorem cmp_ne_nil {a b : Addr} {l : List PV} {Q : PV → St → Prop} (ha : seqAt σ a = some l) (hb : seqAt σ b = some []) (hQ : Q (.bool (!l.isEmpty)) (μ, σ)) : W2 c VRep (.ref a) (.ref b) (compareOp .NotEq) Q (μ, σ) := by
  cases l with
  | nil => exact cmp_lists_ne (n := 0) (e := fun _ => true) ha hb rfl (fun j p q h _ => by simp at h) (Nat.zero_le _) hQ
  | cons p l =>
    intro v u hid stk s ok R hv hu
    simp only [VRep] at hv hu; subst hv hu
    obtain ⟨vs, hL, hvs⟩ := R.seq ha
    obtain ⟨ws, hM, hws⟩ := R.seq hb
    have e1 := hvs.length; have e2 := hws.length
    have hU := ok.units
    exact PySem.SeqAt.RcNeAt.lists_lengths (A := c.A) hL.isList hM.isList (by simp [e1, e2]) (by rw [cLine_is]; omega) c.prog c.w _ _ ⟨.bool true, (μ, σ), R, by simp [VRep], .refl _, hQ⟩
theorem cmp_ne_same {a b : Addr} {l : List Int} {Q : PV → St → Prop} (ha : seqAt σ a = some (intL l)) (hb : seqAt σ b = some (intL l)) (hQ : Q (.bool false) (μ, σ)) : W2 c VRep (.ref a) (.ref b) (compareOp .NotEq) Q (μ, σ) :=
  cmp_lists_ne (n := 0) (e := fun _ => true) ha hb rfl (fun j p q h g => by
    rw [h] at g; cases g
    unfold intL at h; rw [List.getElem?_map] at h
    cases e : l[j]? with
    | none => rw [e] at h; cases h
    | some i => rw [e] at h; cases h; have := EqR.int (σ := σ) (n := 0) i i; rw [show (i == i) = true by simp] at this; exact this) (Nat.zero_le _) (by
    rw [show (List.range (intL l).length).all (fun _ => true) = true by simp]; exact hQ)
end
theorem Srt.At.frame {s : Srt} {σ τ : AHeap} (A : s.At σ) (h : ∀ a o, s.own a → σ a = some o → τ a = some o) : s.At τ :=
  ⟨h _ _ (.inl rfl) A.inst, h _ _ (.inr (.inl rfl)) A.attrs, h _ _ (.inr (.inr (.inl rfl))) A.dict, A.sysm, fun k hk => h _ _ (.inr (.inr (.inr (.inl ⟨k, hk, .inl rfl⟩)))) (A.node k hk),
    fun k hk => h _ _ (.inr (.inr (.inr (.inl ⟨k, hk, .inr (.inr rfl)⟩)))) (A.dxs k hk), fun k hk => h _ _ (.inr (.inr (.inr (.inl ⟨k, hk, .inr (.inl rfl)⟩)))) (A.succ k hk), A.scinj,
    fun a ha => ⟨h _ _ (.inr (.inr (.inr (.inr ha)))) (A.ready a ha).1, (A.ready a ha).2⟩, A.nodup, A.small, A.ups, A.clean⟩
/-- what stands beside a sorter -/
noncomputable def Out (s : Srt) (τ : AHeap) (a : Addr) (o : AObj) : Prop := τ a = some o ∧ ¬ s.own a
theorem Out.fr {s s' : Srt} {τ τ' : AHeap} {a : Addr} {o : AObj} (h : Out s τ a o) (F : Fr s τ s' τ') : Out s' τ' a o := ⟨F.keep a o h.2 h.1, F.off a (by rw [h.1]; simp) h.2⟩
theorem Out.set {s : Srt} {τ : AHeap} {a b : Addr} {o o' : AObj} (h : Out s τ a o) (hb : a ≠ b) : Out s (τ.set b o') a o := ⟨at_set_ne hb h.1, h.2⟩
theorem Out.here {s : Srt} {τ : AHeap} {a : Addr} {o o' : AObj} (h : Out s τ a o) : Out s (τ.set a o') a o' := ⟨at_set_same, h.2⟩
theorem Srt.At.own_ne {s : Srt} {τ : AHeap} (A : s.At τ) {a : Addr} (h : s.own a) : τ a ≠ none := by
  rcases h with rfl | rfl | rfl | ⟨k, hk, rfl | rfl | rfl⟩ | h
  · rw [A.inst]; simp
  · rw [A.attrs]; simp
  · rw [A.dict]; simp
  · rw [A.node k hk]; simp
  · rw [A.succ k hk]; simp
  · rw [A.dxs k hk]; simp
  · rw [(A.ready a h).1]; simp
theorem Out.fresh {s : Srt} {τ : AHeap} {a : Addr} {o : AObj} (A : s.At τ) (h : τ a = none) : Out s (τ.set a o) a o := ⟨at_set_same, fun q => A.own_ne q h⟩
theorem Out.fset {s : Srt} {τ : AHeap} {a b : Addr} {o o' : AObj} (h : Out s τ a o) (hb : τ b = none) : Out s (τ.set b o') a o := h.set fun e => by have := h.1; rw [e, hb] at this; cases this
theorem Srt.At.oset {s : Srt} {τ : AHeap} (A : s.At τ) {a : Addr} {o : AObj} (h : ¬ s.own a) : s.At (τ.set a o) := A.frame fun b o' hb e => at_set_ne (fun q => h (q ▸ hb)) e
theorem Srt.At.fset {s : Srt} {τ : AHeap} (A : s.At τ) {a : Addr} {o : AObj} (h : τ a = none) : s.At (τ.set a o) := A.sub (AHeap.sub_set _ h)
/-- what lay there stays, beside a sorter -/
noncomputable def Old (σ : AHeap) (s : Srt) (τ : AHeap) : Prop := ∀ a o, σ a = some o → Out s τ a o
theorem Old.fr {σ : AHeap} {s s' : Srt} {τ τ' : AHeap} (h : Old σ s τ) (F : Fr s τ s' τ') : Old σ s' τ' := fun a o e => (h a o e).fr F
theorem Old.sub {σ : AHeap} {s : Srt} {τ : AHeap} (h : Old σ s τ) : σ.Sub τ := fun a o e => (h a o e).1
theorem Old.set {σ : AHeap} {s : Srt} {τ : AHeap} (h : Old σ s τ) {b : Addr} {o' : AObj} (hb : σ b = none) : Old σ s (τ.set b o') := fun a o e => (h a o e).set fun q => by rw [q, hb] at e; cases e
theorem Old.none {σ : AHeap} {s : Srt} {τ : AHeap} (h : Old σ s τ) {b : Addr} (hb : τ b = none) : σ b = none := fresh_sub' h.sub hb


end
section

/-! Pruefer's code, plainly -/
noncomputable def endsL (N : Nat) (code dn : List Nat) (i : Nat) : List Nat := (List.range N).filter fun k => decide (k ∉ dn ∧ k ∉ code.drop i)
/-- who goes, one after the other -/
noncomputable def dec (N : Nat) (code : List Nat) : Nat → List Nat
  | 0 => []
  | i + 1 => dec N code i ++ [(endsL N code (dec N code i) i).headD 0]
structure CodeOk (N : Nat) (code : List Nat) : Prop where
  size : code.length + 2 = N
  lt : ∀ c ∈ code, c < N
theorem dec_len (N : Nat) (code : List Nat) : ∀ i, (dec N code i).length = i
  | 0 => rfl
  | i + 1 => by rw [dec, List.length_append, dec_len N code i]; rfl
theorem out_len (N : Nat) (X : List Nat) : N ≤ ((List.range N).filter fun k => decide (k ∉ X)).length + X.length := by
  have h1 : ((List.range N).filter fun k => decide (k ∈ X)).length ≤ X.length :=
    List.Nodup.length_le_of_subset (List.nodup_range.filter _) fun k hk => by simpa using (List.mem_filter.mp hk).2
  have h2 : ∀ l : List Nat, (l.filter fun k => decide (k ∉ X)).length + (l.filter fun k => decide (k ∈ X)).length = l.length := by
    intro l
    induction l with
    | nil => rfl
    | cons a l ih =>
      by_cases h : a ∈ X
      · rw [List.filter_cons_of_neg (by simpa using h), List.filter_cons_of_pos (by simpa using h), List.length_cons, List.length_cons]; omega
      · rw [List.filter_cons_of_pos (by simpa using h), List.filter_cons_of_neg (by simpa using h), List.length_cons, List.length_cons]; omega
  have := h2 (List.range N)
  rw [List.length_range] at this
  omega
section
variable {N : Nat} {code : List Nat}
theorem ends_len (C : CodeOk N code) {i : Nat} (hi : i ≤ code.length) : 2 ≤ (endsL N code (dec N code i) i).length := by
  have h1 := out_len N (dec N code i ++ code.drop i)
  have e : (List.range N).filter (fun k => decide (k ∉ dec N code i ++ code.drop i)) = endsL N code (dec N code i) i := by
    unfold endsL
    refine List.filter_congr fun k _ => ?_
    simp only [List.mem_append, not_or]
  rw [e, List.length_append, dec_len, List.length_drop] at h1
  have := C.size
  omega
theorem ends_sorted (dn : List Nat) (i : Nat) : (endsL N code dn i).Pairwise (· < ·) := List.Pairwise.filter _ List.pairwise_lt_range
theorem ends_mem {dn : List Nat} {i k : Nat} : k ∈ endsL N code dn i ↔ k < N ∧ k ∉ dn ∧ k ∉ code.drop i := by
  unfold endsL; rw [List.mem_filter]; simp
/-- the one who goes -/
noncomputable def gone (N : Nat) (code : List Nat) (i : Nat) : Nat := (endsL N code (dec N code i) i).headD 0
theorem gone_split (C : CodeOk N code) {i : Nat} (hi : i ≤ code.length) : ∃ b t, endsL N code (dec N code i) i = gone N code i :: b :: t := by
  have := ends_len C hi
  unfold gone
  cases h : endsL N code (dec N code i) i with
  | nil => rw [h] at this; simp at this
  | cons a l =>
    cases l with
    | nil => rw [h] at this; simp at this
    | cons b t => exact ⟨b, t, rfl⟩
theorem gone_spec (C : CodeOk N code) {i : Nat} (hi : i ≤ code.length) : gone N code i + 1 < N ∧ gone N code i ∉ dec N code i ∧ gone N code i ∉ code.drop i ∧ ∀ k, k < N → k ∉ dec N code i → k ∉ code.drop i → gone N code i ≤ k := by
  obtain ⟨b, t, e⟩ := gone_split C hi
  have hs := ends_sorted (N := N) (code := code) (dec N code i) i
  have hg := ends_mem.mp (show gone N code i ∈ endsL N code (dec N code i) i by rw [e]; exact List.mem_cons_self ..)
  have hb := ends_mem.mp (show b ∈ endsL N code (dec N code i) i by rw [e]; simp)
  rw [e] at hs
  have h1 := (List.pairwise_cons.mp hs).1
  have := h1 b (List.mem_cons_self ..)
  refine ⟨by omega, hg.2.1, hg.2.2, fun k k1 k2 k3 => ?_⟩
  have hk := ends_mem.mpr ⟨k1, k2, k3⟩
  rw [e] at hk
  rcases List.mem_cons.mp hk with q | q
  · omega
  · exact Nat.le_of_lt (h1 k q)
theorem dec_succ (i : Nat) : dec N code (i + 1) = dec N code i ++ [gone N code i] := rfl
theorem dec_take {i j : Nat} (h : i ≤ j) : (dec N code j).take i = dec N code i := by
  induction j with
  | zero => obtain rfl : i = 0 := by omega
            rfl
  | succ j ih =>
    by_cases e : i = j + 1
    · rw [e, List.take_of_length_le (by rw [dec_len]; omega)]
    · rw [dec_succ, List.take_append_of_le_length (by rw [dec_len]; omega)]; exact ih (by omega)
theorem dec_get {i j : Nat} (h : i < j) : (dec N code j)[i]? = some (gone N code i) := by
  induction j with
  | zero => omega
  | succ j ih =>
    rw [dec_succ]
    by_cases e : i = j
    · rw [e, List.getElem?_append_right (by rw [dec_len]; omega), dec_len, Nat.sub_self]; rfl
    · rw [List.getElem?_append_left (by rw [dec_len]; omega)]; exact ih (by omega)
theorem dec_ok (C : CodeOk N code) {i : Nat} (hi : i ≤ code.length + 1) : (dec N code i).Nodup ∧ ∀ k ∈ dec N code i, k + 1 < N := by
  induction i with
  | zero => exact ⟨List.nodup_nil, fun k hk => by cases hk⟩
  | succ i ih =>
    obtain ⟨h1, h2⟩ := ih (by omega)
    obtain ⟨g1, g2, g3, _⟩ := gone_spec C (i := i) (by omega)
    rw [dec_succ]
    refine ⟨List.nodup_append.mpr ⟨h1, by simp, fun a ha b hb e => ?_⟩, fun k hk => ?_⟩
    · simp at hb; rw [e, hb] at ha; exact g2 ha
    · rcases List.mem_append.mp hk with hk | hk
      · exact h2 k hk
      · simp at hk; rw [hk]; exact g1
/-- the code with the root behind -/
noncomputable def cod2 (N : Nat) (code : List Nat) : List Nat := code ++ [N - 1]
/-- all of them, the root last -/
noncomputable def allG (N : Nat) (code : List Nat) : List Nat := dec N code (code.length + 1) ++ [N - 1]
/-- who is over whom -/
noncomputable def upP (N : Nat) (code : List Nat) (k : Nat) : Option Nat := (cod2 N code)[(dec N code (code.length + 1)).idxOf k]?
theorem cod2_len : (cod2 N code).length = code.length + 1 := by unfold cod2; rw [List.length_append]; rfl
theorem idx_gone (C : CodeOk N code) {i : Nat} (hi : i ≤ code.length) : (dec N code (code.length + 1)).idxOf (gone N code i) = i := by
  have hl : i < (dec N code (code.length + 1)).length := by rw [dec_len]; omega
  have e : (dec N code (code.length + 1))[i] = gone N code i := by
    have := dec_get (N := N) (code := code) (show i < code.length + 1 by omega)
    rw [List.getElem?_eq_getElem hl] at this
    exact Option.some.inj this
  rw [← e]
  exact (dec_ok C (Nat.le_refl _)).1.idxOf_getElem i hl
theorem up_gone (C : CodeOk N code) {i : Nat} (hi : i ≤ code.length) : upP N code (gone N code i) = (cod2 N code)[i]? := by unfold upP; rw [idx_gone C hi]
theorem mem_gone (C : CodeOk N code) {k : Nat} (h : k ∈ dec N code (code.length + 1)) : ∃ i ≤ code.length, k = gone N code i := by
  obtain ⟨i, hi, e⟩ := List.getElem_of_mem h
  have hi' : i < code.length + 1 := by rw [dec_len] at hi; exact hi
  refine ⟨i, by omega, ?_⟩
  have := dec_get (N := N) (code := code) hi'
  rw [List.getElem?_eq_getElem hi, e] at this
  exact Option.some.inj this
theorem all_perm (C : CodeOk N code) : (allG N code).Perm (List.range N) := by
  obtain ⟨h1, h2⟩ := dec_ok C (Nat.le_refl _)
  have hn : (allG N code).Nodup := List.nodup_append.mpr ⟨h1, by simp, fun a ha b hb e => by simp at hb; have := h2 a ha; omega⟩
  have hs : allG N code ⊆ List.range N := fun k hk => by
    have := C.size
    rcases List.mem_append.mp hk with hk | hk
    · have := h2 k hk; simp; omega
    · simp at hk; simp; omega
  refine (List.perm_ext_iff_of_nodup hn List.nodup_range).mpr fun k => ⟨fun h => hs h, fun h => Classical.byContradiction fun q => ?_⟩
  have hc : (k :: allG N code).Nodup := List.nodup_cons.mpr ⟨q, hn⟩
  have := List.Nodup.length_le_of_subset hc (l₂ := List.range N) fun j hj => by
    rcases List.mem_cons.mp hj with rfl | hj
    · exact h
    · exact hs hj
  have hz := C.size
  rw [List.length_cons, List.length_range] at this
  unfold allG at this
  rw [List.length_append, dec_len] at this
  simp at this
  omega
theorem not_dec (C : CodeOk N code) {k : Nat} (h1 : k < N) (h2 : k ∉ dec N code (code.length + 1)) : k = N - 1 := by
  have := (all_perm C).mem_iff.mpr (show k ∈ List.range N by simpa using h1)
  rcases List.mem_append.mp this with h | h
  · exact absurd h h2
  · simpa using h
theorem up_some (C : CodeOk N code) {k u : Nat} (h : upP N code k = some u) : ∃ i ≤ code.length, k = gone N code i ∧ (cod2 N code)[i]? = some u := by
  have hk : k ∈ dec N code (code.length + 1) := by
    refine Classical.byContradiction fun q => ?_
    unfold upP at h
    rw [List.idxOf_eq_length q, dec_len, List.getElem?_eq_none (by rw [cod2_len]; omega)] at h
    cases h
  obtain ⟨i, hi, rfl⟩ := mem_gone C hk
  exact ⟨i, hi, rfl, by rw [← up_gone C hi]; exact h⟩
theorem up_root (C : CodeOk N code) : upP N code (N - 1) = none := by
  cases h : upP N code (N - 1) with
  | none => rfl
  | some u =>
    obtain ⟨i, hi, e, _⟩ := up_some C h
    have := (gone_spec C hi).1
    have := C.size
    omega
theorem up_lt (C : CodeOk N code) {k : Nat} (h : k + 1 < N) : ∃ u, upP N code k = some u ∧ u < N := by
  have hk : k ∈ dec N code (code.length + 1) := Classical.byContradiction fun q => by have := not_dec C (by omega) q; omega
  obtain ⟨i, hi, rfl⟩ := mem_gone C hk
  have hl : i < (cod2 N code).length := by rw [cod2_len]; omega
  refine ⟨(cod2 N code)[i], by rw [up_gone C hi, List.getElem?_eq_getElem hl], ?_⟩
  have hm : (cod2 N code)[i] ∈ cod2 N code := List.getElem_mem hl
  have := C.size
  rcases List.mem_append.mp hm with q | q
  · exact C.lt _ q
  · simp at q; omega
/-- the one over goes later -/
theorem up_later (C : CodeOk N code) {k u : Nat} (h : upP N code k = some u) : (dec N code (code.length + 1)).idxOf k < (dec N code (code.length + 1)).idxOf u := by
  obtain ⟨i, hi, rfl, e⟩ := up_some C h
  rw [idx_gone C hi]
  by_cases hu : u ∈ dec N code (code.length + 1)
  · obtain ⟨j, hj, rfl⟩ := mem_gone C hu
    rw [idx_gone C hj]
    refine Nat.lt_of_not_le fun q => ?_
    obtain ⟨g1, g2, g3, _⟩ := gone_spec C hj
    unfold cod2 at e
    by_cases hc : i < code.length
    · rw [List.getElem?_append_left hc] at e
      apply g3
      refine List.mem_of_getElem? (i := i - j) ?_
      rw [List.getElem?_drop, show j + (i - j) = i by omega]; exact e
    · rw [List.getElem?_append_right (by omega), show i - code.length = 0 by omega] at e
      simp at e
      omega
  · rw [List.idxOf_eq_length hu, dec_len]; omega
theorem all_get (C : CodeOk N code) {i : Nat} (hi : i ≤ code.length) : (allG N code)[i]? = some (gone N code i) := by
  unfold allG
  rw [List.getElem?_append_left (by rw [dec_len]; omega)]
  exact dec_get (by omega)
theorem all_take {i : Nat} (hi : i ≤ code.length + 1) : (allG N code).take i = dec N code i := by
  unfold allG
  rw [List.take_append_of_le_length (by rw [dec_len]; exact hi), dec_take hi]
/-- whom nobody left is under -/
theorem free_iff (C : CodeOk N code) {i k : Nat} (hi : i ≤ code.length + 1) (hk : k < N) (hd : k ∉ dec N code i) : (∀ v, v < N → v ∉ dec N code i → upP N code v ≠ some k) ↔ k ∉ (cod2 N code).drop i := by
  constructor
  · intro h q
    obtain ⟨j, hj⟩ := List.getElem?_of_mem q
    rw [List.getElem?_drop] at hj
    have hl : i + j < (cod2 N code).length := (List.getElem?_eq_some_iff.mp hj).1
    rw [cod2_len] at hl
    have g := gone_spec C (i := i + j) (by omega)
    refine h (gone N code (i + j)) (by omega) (fun m => g.2.1 ?_) (by rw [up_gone C (by omega)]; exact hj)
    rw [← dec_take (show i ≤ i + j by omega)] at m
    exact List.mem_of_mem_take m
  · intro h v hv hvd e
    obtain ⟨j, hj, rfl, ej⟩ := up_some C e
    apply h
    have hij : i ≤ j := Nat.le_of_not_lt fun q => hvd (List.mem_of_getElem? (dec_get q))
    refine List.mem_of_getElem? (i := j - i) ?_
    rw [List.getElem?_drop, show i + (j - i) = j by omega]; exact ej
/-- the least of them goes -/
theorem least (C : CodeOk N code) {i k : Nat} (hi : i ≤ code.length + 1) (hk : k < N) (hd : k ∉ dec N code i) (hf : k ∉ (cod2 N code).drop i)
    (hm : ∀ j, j < N → j ∉ dec N code i → j ∉ (cod2 N code).drop i → k ≤ j) : (allG N code)[i]? = some k := by
  have hsub : ∀ {j}, j ∉ (cod2 N code).drop i → j ∉ code.drop i := fun {j} q m => q (by
    unfold cod2; rw [List.drop_append]; exact List.mem_append_left _ m)
  by_cases e : i = code.length + 1
  · subst e
    rw [not_dec C hk hd]
    unfold allG
    rw [List.getElem?_append_right (by rw [dec_len]; omega), dec_len, Nat.sub_self]; rfl
  · rw [all_get C (by omega)]
    obtain ⟨g1, g2, g3, g4⟩ := gone_spec C (i := i) (by omega)
    have a1 := g4 k hk hd (hsub hf)
    have a2 := hm (gone N code i) (by omega) g2 (fun m => by
      unfold cod2 at m
      rw [List.drop_append] at m
      rcases List.mem_append.mp m with m | m
      · exact g3 m
      · have := List.mem_of_mem_drop m
        simp at this
        omega)
    rw [show gone N code i = k by omega]
/-- what is told -/
theorem told_all (C : CodeOk N code) : (allG N code).map (upP N code) = (cod2 N code).map some ++ [none] := by
  unfold allG
  rw [List.map_append]
  congr 1
  · apply List.ext_getElem?
    intro i
    rw [List.getElem?_map, List.getElem?_map]
    by_cases hi : i ≤ code.length
    · rw [dec_get (by omega), Option.map_some, up_gone C hi, List.getElem?_eq_getElem (by rw [cod2_len]; omega)]; rfl
    · rw [List.getElem?_eq_none (by rw [dec_len]; omega), List.getElem?_eq_none (by rw [cod2_len]; omega)]; rfl
  · show [upP N code (N - 1)] = _
    rw [up_root C]
end


end
section

/-! Pruefer's code: the row of ends, plainly -/
theorem sorted_uniq {l m : List Nat} (p : l.Perm m) (h1 : l.Pairwise (· ≤ ·)) (h2 : m.Pairwise (· < ·)) : l = m :=
  p.eq_of_pairwise (fun a b _ _ x y => Nat.le_antisymm x y) h1 (h2.imp Nat.le_of_lt)
theorem row_next {P : Nat → Bool} {k : Nat} {l : List Nat} (hk : P k = true) (p : l.Perm (k :: (List.range k).filter P)) (h : l.Pairwise (· ≤ ·)) : l = (List.range (k + 1)).filter P := by
  refine sorted_uniq (p.trans ?_) h (List.Pairwise.filter _ List.pairwise_lt_range)
  rw [List.range_succ, List.filter_append, List.filter_cons_of_pos hk]
  exact List.perm_append_comm (l₁ := [k])
theorem row_skip {P : Nat → Bool} {k : Nat} (hk : P k = false) : (List.range (k + 1)).filter P = (List.range k).filter P := by
  rw [List.range_succ, List.filter_append, List.filter_cons_of_neg (by rw [hk]; simp)]; simp
/-- how many neighbours are left -/
noncomputable def lftC (code : List Nat) (i k : Nat) : Nat := 1 + (code.drop i).count k
theorem lftC_one {code : List Nat} {i k : Nat} : lftC code i k = 1 ↔ k ∉ code.drop i := by
  unfold lftC
  constructor
  · intro h q
    have := List.count_pos_iff.mpr q
    omega
  · intro h
    rw [List.count_eq_zero.mpr h]
section
variable {N : Nat} {code : List Nat}
theorem drop_code {i c : Nat} (hc : code[i]? = some c) : code.drop i = c :: code.drop (i + 1) := by
  obtain ⟨hl, e⟩ := List.getElem?_eq_some_iff.mp hc
  rw [List.drop_eq_getElem_cons hl, e]
theorem lftC_next {i c : Nat} (hc : code[i]? = some c) (k : Nat) : lftC code i k = lftC code (i + 1) k + if k = c then 1 else 0 := by
  unfold lftC
  rw [drop_code hc, List.count_cons]
  by_cases h : k = c
  · subst h; simp; omega
  · rw [if_neg h, if_neg (by simpa using fun q => h q.symm)]; rfl
theorem ends_next (C : CodeOk N code) {i c : Nat} {t : List Nat} (hc : code[i]? = some c) (e : endsL N code (dec N code i) i = gone N code i :: t) :
    (c ∈ code.drop (i + 1) → t = endsL N code (dec N code (i + 1)) (i + 1)) ∧ (c ∉ code.drop (i + 1) → ∀ l', l'.Perm (c :: t) → l'.Pairwise (· ≤ ·) → l' = endsL N code (dec N code (i + 1)) (i + 1)) := by
  have hi : i < code.length := (List.getElem?_eq_some_iff.mp hc).1
  have hd := drop_code hc
  have hs := ends_sorted (N := N) (code := code) (dec N code i) i
  rw [e] at hs
  obtain ⟨h1, h2⟩ := List.pairwise_cons.mp hs
  have hs' := ends_sorted (N := N) (code := code) (dec N code (i + 1)) (i + 1)
  have mt : ∀ k, k ∈ t ↔ k ≠ gone N code i ∧ k < N ∧ k ∉ dec N code i ∧ k ∉ code.drop i := fun k => by
    rw [← ends_mem, e, List.mem_cons]
    exact ⟨fun h => ⟨fun q => by have := h1 k h; omega, .inr h⟩, fun ⟨a, b⟩ => b.resolve_left a⟩
  have hcN : c < N := C.lt c (List.mem_of_getElem? hc)
  have hg := gone_spec C (i := i) (by omega)
  have hcg : c ≠ gone N code i := fun q => hg.2.2.1 (by rw [hd, q]; exact List.mem_cons_self ..)
  have hcd : c ∉ dec N code i := fun q => by
    obtain ⟨j, hj, ej⟩ := List.getElem_of_mem q
    rw [dec_len] at hj
    have : (dec N code i)[j]? = some c := by rw [List.getElem?_eq_getElem (by rw [dec_len]; exact hj), ej]
    rw [dec_get hj] at this
    have g := gone_spec C (i := j) (by omega)
    apply g.2.2.1
    rw [Option.some.inj this]
    refine List.mem_of_getElem? (i := i - j) ?_
    rw [List.getElem?_drop, show j + (i - j) = i by omega]; exact hc
  have mn : ∀ k, k ∈ endsL N code (dec N code (i + 1)) (i + 1) ↔ k < N ∧ k ∉ dec N code i ∧ k ≠ gone N code i ∧ k ∉ code.drop (i + 1) := fun k => by
    rw [ends_mem, dec_succ, List.mem_append, List.mem_singleton, not_or]
    exact ⟨fun ⟨a, ⟨b, c⟩, d⟩ => ⟨a, b, c, d⟩, fun ⟨a, b, c, d⟩ => ⟨a, ⟨b, c⟩, d⟩⟩
  have nt : t.Nodup := h2.imp Nat.ne_of_lt
  have nn : (endsL N code (dec N code (i + 1)) (i + 1)).Nodup := hs'.imp Nat.ne_of_lt
  have dr : ∀ k, k ∉ code.drop i ↔ k ≠ c ∧ k ∉ code.drop (i + 1) := fun k => by rw [hd, List.mem_cons, not_or]
  constructor
  · intro hm
    refine sorted_uniq ((List.perm_ext_iff_of_nodup nt nn).mpr fun k => ?_) (h2.imp Nat.le_of_lt) hs'
    rw [mt, mn, dr]
    exact ⟨fun ⟨a, b, c, _, d⟩ => ⟨b, c, a, d⟩, fun ⟨b, c, a, d⟩ => ⟨a, b, c, fun q => d (q ▸ hm), d⟩⟩
  · intro hm l' p h'
    refine sorted_uniq (p.trans ((List.perm_ext_iff_of_nodup (List.nodup_cons.mpr ⟨fun q => ((dr c).mp ((mt c).mp q).2.2.2).1 rfl, nt⟩) nn).mpr fun k => ?_)) h' hs'
    rw [List.mem_cons, mt, mn, dr]
    constructor
    · rintro (rfl | ⟨a, b, c, _, d⟩)
      · exact ⟨hcN, hcd, hcg, hm⟩
      · exact ⟨b, c, a, d⟩
    · rintro ⟨b, c', a, d⟩
      by_cases q : k = c
      · exact .inl q
      · exact .inr ⟨a, b, c', q, d⟩
/-- the pair of neighbours that goes at a step -/
noncomputable def prI (N : Nat) (code : List Nat) (i : Nat) : List Int := [((min (gone N code i) ((cod2 N code).getD i 0) : Nat) : Int), ((max (gone N code i) ((cod2 N code).getD i 0) : Nat) : Int)]
theorem cod2_get {i c : Nat} (hc : code[i]? = some c) : (cod2 N code).getD i 0 = c := by
  unfold cod2
  rw [List.getD_eq_getElem?_getD, List.getElem?_append_left (List.getElem?_eq_some_iff.mp hc).1, hc]; rfl
theorem cod2_last : (cod2 N code).getD code.length 0 = N - 1 := by
  unfold cod2
  rw [List.getD_eq_getElem?_getD, List.getElem?_append_right (Nat.le_refl _), Nat.sub_self]; rfl
theorem last_ends (C : CodeOk N code) {m M : Nat} (h1 : m ∈ endsL N code (dec N code code.length) code.length) (h2 : ∀ k ∈ endsL N code (dec N code code.length) code.length, m ≤ k)
    (h3 : M ∈ endsL N code (dec N code code.length) code.length) (h4 : ∀ k ∈ endsL N code (dec N code code.length) code.length, k ≤ M) : [(m : Int), (M : Int)] = prI N code code.length := by
  obtain ⟨g1, g2, g3, g4⟩ := gone_spec C (Nat.le_refl code.length)
  have hz := C.size
  have d0 : code.drop code.length = [] := List.drop_of_length_le (Nat.le_refl _)
  obtain ⟨a1, a2, a3⟩ := ends_mem.mp h1
  obtain ⟨b1, b2, b3⟩ := ends_mem.mp h3
  have e1 : m = gone N code code.length := Nat.le_antisymm (h2 _ (ends_mem.mpr ⟨by omega, g2, g3⟩)) (g4 m a1 a2 a3)
  have e2 : M = N - 1 := by
    have := h4 (N - 1) (ends_mem.mpr ⟨by omega, fun q => by have := (dec_ok C (show code.length ≤ code.length + 1 by omega)).2 _ q; omega, by rw [d0]; simp⟩)
    omega
  unfold prI
  rw [cod2_last, e1, e2, Nat.min_eq_left (by omega), Nat.max_eq_right (by omega)]
end


end
section


/-! lists told -/
theorem seq_sub' {σ τ : AHeap} {a : Addr} {l : List PV} (h : σ.Sub τ) (hs : seqAt σ a = some l) : seqAt τ a = some l := by
  unfold seqAt at hs ⊢
  cases e : σ a with
  | none => rw [e] at hs; cases hs
  | some o => rw [h _ _ e]; rw [e] at hs; exact hs
theorem compL_tot (g : Nat → PV) (n : Nat) : compL (fun k => some (g k)) n = (List.range n).map g := by
  unfold compL; rw [List.filterMap_eq_map']
theorem compL_if {α : Type} (l : List α) (b : α → Bool) (g : α → PV) : compL (fun k => (l[k]?).bind fun x => if b x = true then some (g x) else none) l.length = (l.filter b).map g := by
  rw [compL_bind]
  induction l with
  | nil => rfl
  | cons x l ih =>
    by_cases h : b x = true
    · rw [List.filterMap_cons, if_pos h, List.filter_cons_of_pos h, List.map_cons, ih]
    · rw [List.filterMap_cons, if_neg h, List.filter_cons_of_neg h, ih]
theorem natL_int (l : List Nat) : natL l = intL (l.map fun (k : Nat) => (k : Int)) := by unfold natL intL; rw [List.map_map]; rfl
theorem lft_at {N k : Nat} {f : Nat → Nat} (hk : k < N) : (natL ((List.range N).map f))[(k : Int).toNat]? = some (.int (f k : Int)) := by
  have hl : k < ((List.range N).map f).length := by rw [List.length_map, List.length_range]; exact hk
  rw [natL_at hl, List.getElem_map, List.getElem_range]
theorem lft_len {N : Nat} {f : Nat → Nat} : (natL ((List.range N).map f)).length = N := by rw [natL_len, List.length_map, List.length_range]
theorem map_set {N c : Nat} {f g : Nat → Nat} (hc : c < N) (h : ∀ k, k ≠ c → g k = f k) : ((List.range N).map f).set c (g c) = (List.range N).map g := by
  apply List.ext_getElem?
  intro k
  rw [List.getElem?_set]
  by_cases e : c = k
  · subst e
    rw [if_pos rfl, if_pos (by rw [List.length_map, List.length_range]; exact hc), List.getElem?_map, List.getElem?_range hc]; rfl
  · rw [if_neg e, List.getElem?_map, List.getElem?_map]
    cases q : (List.range N)[k]? with
    | none => rfl
    | some j =>
      have : j = k := by
        obtain ⟨hl, e⟩ := List.getElem?_eq_some_iff.mp q
        rw [List.getElem_range] at e; exact e.symm
      rw [Option.map_some, Option.map_some, h j (by omega)]
theorem filt_count (code : List Nat) (k : Nat) : (code.filter fun c : Nat => ((c : Int) == (k : Int))).length = code.count k := by
  rw [List.count_eq_length_filter]
  congr 1
  refine List.filter_congr fun c _ => ?_
  by_cases h : c = k
  · subst h; simp
  · rw [beq_eq_false_iff_ne.mpr h]; exact beq_eq_false_iff_ne.mpr fun q => h (Int.ofNat.inj q)
variable {w : World} {base : Heap} {os : OsState} {mb : Str → Option Value}
noncomputable def tlP2 : List Stmt := match bdAt 192 with | _ :: r => r | _ => []
set_option maxHeartbeats 1000000 in
theorem pairs_left (B : Bs (G w base os mb)) {n : Nat} {A : Around} {env : Env} {L ca : Addr} {N : Nat} {code : List Nat} (hz : code.length + 2 = N) (hN : N ≤ 100) {σ : AHeap} {Q : AFlow → St → Prop} (hsc : env.scope = (fdAt 192).scope)
    (hce : env.cells = [(Str.ofString "code", L + 1)]) (hcc : σ (L + 1) = some (.cell (some (.ref ca)))) (hcd : σ ca = some (.list (natL code)))
    (next : ∀ τ la, σ.Sub τ → σ la = none → τ la = some (.list (natL ((List.range N).map (lftC code 0)))) → seqQ ⟨G w base os mb, ⟨n + 5, true⟩, A, env⟩ tlP2 Q .next ([(Str.ofString "size", .int (N : Int)), (Str.ofString "left", .ref la)], τ)) :
    WS ⟨G w base os mb, ⟨n + 5, true⟩, A, env⟩ (bdAt 192) Q ([(Str.ofString "size", .int (N : Int))], σ) := by
  refine S_seq ?_
  refine S_AssignCompK (y := Str.ofString "k") (cl := [(Str.ofString "code", L + 1)]) rfl (swaps_of hsc rfl) (by walk_at "kd") (closure_of hce rfl) (fun h => rfl) (fun n cl => rfl) rfl (by decide) (fun x => rfl) ?_
  repeat walk_at "s1"
  refine call_range1 fun r hr => ?_
  have sr := AHeap.sub_set (.range 0 (N : Int) 1) hr
  have hrr : (σ.set r (.range 0 (N : Int) 1)) r = some (.range 0 (N : Int) 1) := at_set_same
  generalize σ.set r (.range 0 (N : Int) 1) = σ1 at sr hrr ⊢
  refine ⟨_, _, it_range hrr (by omega) (by omega) (by omega) (by omega), comp_pureK (fun k => some (.int (lftC code 0 k : Int))) (by rw [rangeL_length]; omega) (fun τ h => trivial) (fun env' h => by rw [h, relabel_of hsc]; rfl) ?_ ?_⟩
  · intro c' C hcx hlx hsc' hce' k p τ hp hsub hCv
    obtain ⟨g', lv', A', env'⟩ := c'
    obtain rfl : g' = G w base os mb := hcx
    obtain rfl : lv' = ⟨n + 5, true⟩ := hlx
    obtain ⟨hk, rfl⟩ := rangeL_get hp
    rw [show (0 : Int) + (k : Int) * 1 = (k : Int) by omega] at hCv
    have hsc2 := hsc'.trans (relabel_of hsc)
    have hcc' := hsub _ _ (sr _ _ hcc)
    have hcd' := hsub _ _ (sr _ _ hcd)
    repeat walk_at "s1"
    refine E_ListComp (cl := [(Str.ofString "k", C)]) rfl (closure_of hce' rfl) (by decide) rfl (by decide) (fun x => rfl) ?_
    repeat walk_at "s1"
    refine ⟨_, _, it_list (seq_of hcd'), comp_pure (fun j => (code[j]?).bind fun (c : Nat) => if (((c : Int) == (k : Int))) = true then some (.int (c : Int)) else none) (by rw [natL_len]; omega) (fun τ h => seq_of (h _ _ hcd')) ?_ ?_⟩
    · clear hp hce hsc' hce'
      have hsc := hsc2
      intro c' hcx hlx hsc' hce' j p τ2 hp hsub2
      obtain ⟨g', lv', A2, env2⟩ := c'
      obtain rfl : g' = G w base os mb := hcx
      obtain rfl : lv' = ⟨n + 5, true⟩ := hlx
      obtain ⟨c, hc, rfl⟩ := natL_get hp
      have hCv2 := hsub2 _ _ hCv
      refine Asg_local (by walk_at "kd") ?_
      repeat walk_at "s1"
      refine ⟨fun hb => ?_, fun hb => ?_⟩
      · repeat walk_at "s1"
        exact ⟨by rw [hc, Option.bind_some, if_pos hb], .refl _⟩
      · exact ⟨by rw [hc, Option.bind_some, if_neg (by rw [hb]; simp)], .refl _⟩
    intro ia τ3 u1 hi0 hi
    rw [natL_len, compL_if] at hi
    repeat walk_at "s1"
    refine len_seq (seq_of hi) (by have := List.length_filter_le (fun c : Nat => ((c : Int) == (k : Int))) code; rw [List.length_map]; omega) ?_
    repeat walk_at "s1"
    refine ⟨?_, u1⟩
    rw [List.length_map, filt_count]
    unfold lftC
    rw [List.drop_zero, Int.natCast_add]; rfl
  · intro la τ s1 h0 h1
    rw [rangeL_length, show ((N : Int) - 0).toNat = N by omega, compL_tot] at h1
    have hl0 : σ la = none := fresh_sub' sr h0
    exact next τ la (sr.trans s1) hl0 (by rw [h1]; unfold natL; rw [List.map_map]; rfl)


end
section


variable {w : World} {base : Heap} {os : OsState} {mb : Str → Option Value}
noncomputable def tlP4 : List Stmt := match bdAt 192 with | _ :: _ :: _ :: r => r | _ => []
structure PI (σ τ : AHeap) (ca la ea pa : Addr) (code lf en : List Nat) (ps : List (List Int)) : Prop where
  sub : σ.Sub τ
  cd : τ ca = some (.list (natL code))
  l : τ la = some (.list (natL lf))
  e : τ ea = some (.list (natL en))
  p : τ pa = some (.list (ps.map tupI))
  fl : σ la = none
  fe : σ ea = none
  fp : σ pa = none
  ne1 : la ≠ ea
  ne2 : la ≠ pa
  ne3 : ea ≠ pa
  ne4 : ca ≠ la
  ne5 : ca ≠ ea
  ne6 : ca ≠ pa
section
variable {σ τ : AHeap} {ca la ea pa : Addr} {code lf en : List Nat} {ps : List (List Int)}
theorem PI.setL (I : PI σ τ ca la ea pa code lf en ps) (lf' : List Nat) : PI σ (τ.set la (.list (natL lf'))) ca la ea pa code lf' en ps :=
  { I with sub := I.sub.off I.fl, cd := at_set_ne I.ne4 I.cd, l := at_set_same, e := at_set_ne (Ne.symm I.ne1) I.e, p := at_set_ne (Ne.symm I.ne2) I.p }
theorem PI.setE (I : PI σ τ ca la ea pa code lf en ps) (en' : List Nat) : PI σ (τ.set ea (.list (natL en'))) ca la ea pa code lf en' ps :=
  { I with sub := I.sub.off I.fe, cd := at_set_ne I.ne5 I.cd, l := at_set_ne I.ne1 I.l, e := at_set_same, p := at_set_ne (Ne.symm I.ne3) I.p }
theorem PI.setP (I : PI σ τ ca la ea pa code lf en ps) (ps' : List (List Int)) : PI σ (τ.set pa (.list (ps'.map tupI))) ca la ea pa code lf en ps' :=
  { I with sub := I.sub.off I.fp, cd := at_set_ne I.ne6 I.cd, l := at_set_ne I.ne2 I.l, e := at_set_ne I.ne3 I.e, p := at_set_same }
end
theorem one_eq {x : Nat} : (((x : Nat) : Int) == 1) = decide (x = 1) := by
  by_cases h : x = 1
  · subst h; rfl
  · rw [decide_eq_false h]; exact beq_eq_false_iff_ne.mpr fun q => h (by omega)
set_option maxHeartbeats 1000000 in
theorem pairs_ends (B : Bs (G w base os mb)) {n : Nat} {A : Around} {env : Env} {la : Addr} {N : Nat} {code : List Nat} (hN : N ≤ 100) {σ : AHeap} {Q : AFlow → St → Prop} (hsc : env.scope = (fdAt 192).scope)
    (hl : σ la = some (.list (natL ((List.range N).map (lftC code 0)))))
    (next : ∀ ea, σ ea = none → seqQ ⟨G w base os mb, ⟨n + 5, true⟩, A, env⟩ tlP4 Q .next ([(Str.ofString "size", .int (N : Int)), (Str.ofString "left", .ref la), (Str.ofString "ends", .ref ea)], σ.set ea (.list (natL (endsL N code [] 0))))) :
    seqQ ⟨G w base os mb, ⟨n + 5, true⟩, A, env⟩ tlP2 Q .next ([(Str.ofString "size", .int (N : Int)), (Str.ofString "left", .ref la)], σ) := by
  refine seqQ_next ?_
  refine S_seq ?_
  repeat walk_at "s1"
  refine ⟨by simp, fun ea he => ?_⟩
  have he : σ ea = none := he
  repeat walk_at "s1"
  refine S_for rfl (fun k st => st = ([(Str.ofString "size", .int (N : Int)), (Str.ofString "left", .ref la), (Str.ofString "ends", .ref ea)], σ.set ea (.list (natL ((List.range k).filter fun k => decide (k ∉ ([] : List Nat) ∧ k ∉ code.drop 0)))))) ?_ (fun x => rfl)
  repeat walk_at "s1"
  refine call_range1 fun r hr => ⟨_, _, _, it_range at_set_same (by omega) (by omega) (by omega) (by omega), rfl, St.le_app (AHeap.sub_set _ hr), fun _ _ _ => trivial, ?_, ?_⟩
  · rintro k q _ hk0 rfl
    obtain ⟨hk, rfl⟩ := rangeL_get hk0
    rw [show (0 : Int) + (k : Int) * 1 = (k : Int) by omega]
    have hk : k < N := by omega
    refine Asg_local (by walk_at "kd") ?_
    repeat walk_at "s1"
    refine get_list (seq_of (AHeap.sub_set _ he _ _ hl)) (Int.natCast_nonneg _) (lft_at hk) (by rw [lft_len]; omega) ?_
    repeat walk_at "s1"
    rw [one_eq]
    refine ifQ_dec (fun hb => ?_) (fun hb => ?_)
    · have hP : (fun k => decide (k ∉ ([] : List Nat) ∧ k ∉ code.drop 0)) k = true := decide_eq_true ⟨by simp, lftC_one.mp (of_decide_eq_true hb)⟩
      repeat walk_at "s1"
      refine WN_call (insort_call2 B at_set_same (by have := List.length_filter_le (fun k => decide (k ∉ ([] : List Nat) ∧ k ∉ code.drop 0)) (List.range k); rw [List.length_range] at this; omega) ((List.Pairwise.filter _ List.pairwise_lt_range).imp Nat.le_of_lt) fun l' hp' hs' => ?_)
      rw [AHeap.set_set, row_next hP hp' hs']
      repeat walk_at "s1"
      exact forQ_next rfl (St.le_app (.refl _))
    · have hP : (fun k => decide (k ∉ ([] : List Nat) ∧ k ∉ code.drop 0)) k = false := decide_eq_false fun h => of_decide_eq_false hb (lftC_one.mpr h.2)
      refine S_nil ?_
      refine forQ_next rfl ?_
      rw [row_skip hP]
      exact St.le_app (.refl _)
  · rintro _ rfl
    rw [rangeL_length, show ((N : Int) - 0).toNat = N by omega]
    refine S_nil ?_
    exact next ea he
noncomputable def tlP6 : List Stmt := match bdAt 192 with | _ :: _ :: _ :: _ :: _ :: r => r | _ => []
theorem min_cast {a b : Nat} : (if (b : Int) < (a : Int) then (b : Int) else (a : Int)) = ((min a b : Nat) : Int) := by split <;> omega
theorem max_cast {a b : Nat} : (if (b : Int) > (a : Int) then (b : Int) else (a : Int)) = ((max a b : Nat) : Int) := by split <;> omega
noncomputable def PL (σ : AHeap) (ca la ea pa : Addr) (N : Nat) (code : List Nat) (i : Nat) (st : St) : Prop := ∃ τ, st = ([(Str.ofString "size", .int (N : Int)), (Str.ofString "left", .ref la), (Str.ofString "ends", .ref ea), (Str.ofString "pairs", .ref pa)], τ) ∧
  PI σ τ ca la ea pa code ((List.range N).map (lftC code i)) (endsL N code (dec N code i) i) ((List.range i).map (prI N code))
set_option maxHeartbeats 2000000 in
theorem pairs_main (B : Bs (G w base os mb)) {n : Nat} {A : Around} {env : Env} {L ca la ea : Addr} {N : Nat} {code : List Nat} (C : CodeOk N code) (hN : N ≤ 100) {σ0 σ : AHeap} {Q : AFlow → St → Prop} (hsc : env.scope = (fdAt 192).scope)
    (hce : env.cells = [(Str.ofString "code", L + 1)]) (hcc : σ0 (L + 1) = some (.cell (some (.ref ca))))
    (I0 : ∀ pa, σ pa = none → PI σ0 (σ.set pa (.list [])) ca la ea pa code ((List.range N).map (lftC code 0)) (endsL N code [] 0) [])
    (next : ∀ τ pa, PI σ0 τ ca la ea pa code ((List.range N).map (lftC code code.length)) (endsL N code (dec N code code.length) code.length) ((List.range code.length).map (prI N code)) →
      seqQ ⟨G w base os mb, ⟨n + 5, true⟩, A, env⟩ tlP6 Q .next ([(Str.ofString "size", .int (N : Int)), (Str.ofString "left", .ref la), (Str.ofString "ends", .ref ea), (Str.ofString "pairs", .ref pa)], τ)) :
    seqQ ⟨G w base os mb, ⟨n + 5, true⟩, A, env⟩ tlP4 Q .next ([(Str.ofString "size", .int (N : Int)), (Str.ofString "left", .ref la), (Str.ofString "ends", .ref ea)], σ) := by
  refine seqQ_next ?_
  refine S_seq ?_
  repeat walk_at "s1"
  refine ⟨by simp, fun pa hpa => ?_⟩
  have I := I0 pa hpa
  have hcc1 := I.sub _ _ hcc
  show W1 _ _ _ _ _ (_, σ.set pa (.list []))
  generalize σ.set pa (.list []) = σ1 at I hcc1 ⊢
  repeat walk_at "s1"
  refine S_for rfl (PL σ0 ca la ea pa N code) ?_ (fun x => rfl)
  repeat walk_at "s1"
  refine ⟨_, _, _, it_list (seq_of I.cd), ⟨_, rfl, I⟩, St.le_refl _, ?_, ?_, ?_⟩
  · rintro k _ ⟨τ, rfl, I⟩; exact seq_of I.cd
  · rintro i q _ hi0 ⟨τ, rfl, I⟩
    obtain ⟨c, hc, rfl⟩ := natL_get hi0
    have hi : i < code.length := (List.getElem?_eq_some_iff.mp hc).1
    have hcN : c < N := C.lt c (List.mem_of_getElem? hc)
    obtain ⟨b, t, et⟩ := gone_split C (Nat.le_of_lt hi)
    obtain ⟨n1, n2⟩ := ends_next C hc et
    have hel : (endsL N code (dec N code i) i).length ≤ N := by have := List.length_filter_le (fun k => decide (k ∉ dec N code i ∧ k ∉ code.drop i)) (List.range N); rw [List.length_range] at this; exact this
    have hso := ends_sorted (N := N) (code := code) (dec N code i) i
    rw [et] at hel hso
    rw [et] at I
    have hz := C.size
    refine Asg_local (by walk_at "kd") ?_
    repeat walk_at "s1"
    refine ⟨⟨_, _, rfl, seq_of I.e⟩, ?_⟩
    repeat walk_at "s1"
    refine pop_at (p := .int (gone N code i : Int)) (l := natL (gone N code i :: b :: t)) I.e (Int.le_refl _) rfl (by rw [natL_len]; omega) ?_
    have I1 := I.setE (b :: t)
    show W1 _ _ _ _ _ (_, τ.set ea (.list (natL (b :: t))))
    generalize τ.set ea (.list (natL (b :: t))) = τ1 at I1 ⊢
    repeat walk_at "s1"
    refine ⟨⟨_, _, rfl, seq_of I1.p⟩, ?_⟩
    repeat walk_at "s1"
    refine call_min2 rfl ?_
    repeat walk_at "s1"
    refine call_max2 rfl ?_
    refine A_nil ⟨by simp, ?_⟩
    rw [min_cast, max_cast]
    repeat walk_at "s1"
    refine append_list I1.p (by rw [List.length_map, List.length_map, List.length_range]; omega) ?_
    have epr : (List.range (i + 1)).map (prI N code) = (List.range i).map (prI N code) ++ [prI N code i] := by rw [List.range_succ, List.map_append]; rfl
    have ept : PV.tup [.int ((min (gone N code i) c : Nat) : Int), .int ((max (gone N code i) c : Nat) : Int)] = tupI (prI N code i) := by unfold prI; rw [cod2_get hc]; rfl
    rw [ept]
    have I2 := I1.setP ((List.range (i + 1)).map (prI N code))
    rw [epr, List.map_append] at I2
    show seqQ _ _ _ .next (_, τ1.set pa (.list (((List.range i).map (prI N code)).map tupI ++ [tupI (prI N code i)])))
    rw [show ((List.range i).map (prI N code)).map tupI ++ [tupI (prI N code i)] = ((List.range i).map (prI N code)).map tupI ++ [prI N code i].map tupI from rfl]
    generalize τ1.set pa (.list (((List.range i).map (prI N code)).map tupI ++ [prI N code i].map tupI)) = τ2 at I2 ⊢
    clear I I1
    rw [← epr] at I2
    repeat walk_at "s1"
    refine get_list (seq_of I2.l) (Int.natCast_nonneg _) (lft_at hcN) (by rw [lft_len]; omega) ?_
    have hlc := lftC_next hc c
    rw [if_pos rfl] at hlc
    repeat walk_at "s1"
    rw [show ((lftC code i c : Nat) : Int) - 1 = (lftC code (i + 1) c : Int) by omega]
    repeat walk_at "s1"
    refine set_list (l := natL ((List.range N).map (lftC code i))) I2.l (Int.natCast_nonneg _) (by rw [lft_len]; omega) (by rw [lft_len]; omega) ?_
    have ems : (natL ((List.range N).map (lftC code i))).set (c : Int).toNat (.int (lftC code (i + 1) c : Int)) = natL ((List.range N).map (lftC code (i + 1))) := by
      unfold natL
      rw [Int.toNat_natCast, ← List.map_set (f := fun (k : Nat) => PV.int (k : Int))]
      rw [map_set hcN fun k hk => by have := lftC_next hc k; rw [if_neg hk] at this; exact this.symm]
    rw [ems]
    have I3 := I2.setL ((List.range N).map (lftC code (i + 1)))
    generalize τ2.set la (.list (natL ((List.range N).map (lftC code (i + 1))))) = τ3 at I3 ⊢
    clear I2
    repeat walk_at "s1"
    refine get_list (seq_of I3.l) (Int.natCast_nonneg _) (lft_at hcN) (by rw [lft_len]; omega) ?_
    repeat walk_at "s1"
    rw [one_eq]
    refine ifQ_dec (fun hb => ?_) (fun hb => ?_)
    · have hm := lftC_one.mp (of_decide_eq_true hb)
      repeat walk_at "s1"
      refine WN_call (insort_call2 B I3.e (by simp at hel ⊢; omega) ((List.pairwise_cons.mp hso).2.imp Nat.le_of_lt) fun l' hp' hs' => ?_)
      rw [n2 hm l' hp' hs']
      repeat walk_at "s1"
      exact forQ_next ⟨_, rfl, I3.setE _⟩ (St.le_app (.refl _))
    · have hm : c ∈ code.drop (i + 1) := Classical.byContradiction fun q => of_decide_eq_false hb (lftC_one.mpr q)
      refine S_nil ?_
      rw [n1 hm] at I3
      exact forQ_next ⟨_, rfl, I3⟩ (St.le_app (.refl _))
  · rintro _ ⟨τ, rfl, I⟩
    rw [natL_len] at I
    refine S_nil ?_
    exact next τ pa I


end
section


variable {w : World} {base : Heap} {os : OsState} {mb : Str → Option Value}
set_option maxHeartbeats 1000000 in
theorem pairs_call (B : Bs (G w base os mb)) {n : Nat} {ca : Addr} {N : Nat} {code : List Nat} (C : CodeOk N code) (hN : N ≤ 65) {σ : AHeap} {Q : PV → AHeap → Prop} (hs : σ ca = some (.list (natL code)))
    (hQ : ∀ r (ps : List (List Int)) τ, σ.Sub τ → τ r = some (.list (ps.map tupI)) → ps.Perm ((List.range (code.length + 1)).map (prI N code)) → Q (.ref r) τ) :
    CallS (G w base os mb) ⟨n + 6, true⟩ (.ref 192) [.ref ca, .int (N : Int)] Q σ := by
  refine call_def (fd := fdAt 192) (body := bdAt 192) [Str.ofString "code", Str.ofString "size"] B.gd (B.fn 192 (by simp)).get rfl rfl (B.fn 192 (by simp)).code rfl rfl rfl rfl rfl rfl (by decide) rfl (fun vs hv => ?_) (fun i => rfl) (fun i => ?_) ?_
  · obtain ⟨v1, v2, rfl⟩ := len2 hv; rfl
  · show ((true && (some i == some i)) && true) = true
    simp
  intro c L hc hlv hsc hce hq hf
  obtain ⟨g, lv, A, env⟩ := c
  subst hc hlv
  show WS _ (bdAt 192) _ ([(Str.ofString "size", .int (N : Int))], σ.set (L + 1) (.cell (some (.ref ca))))
  have hce2 : env.cells = [(Str.ofString "code", L + 1)] := hce.trans rfl
  have s0 : σ.Sub (σ.set (L + 1) (.cell (some (.ref ca)))) := AHeap.sub_set _ (hf _ (Nat.le_succ _))
  have hcc : (σ.set (L + 1) (.cell (some (.ref ca)))) (L + 1) = some (.cell (some (.ref ca))) := at_set_same
  have hcd := s0 _ _ hs
  generalize σ.set (L + 1) (.cell (some (.ref ca))) = σ1 at s0 hcc hcd ⊢
  clear hq hf
  have hz := C.size
  refine pairs_left B hz (by omega) hsc hce2 hcc hcd fun τ la s1 hl0 hl => ?_
  refine pairs_ends B (by omega) hsc hl fun ea he => ?_
  have hne1 : la ≠ ea := ne_of_fresh he hl
  have s2 : τ.Sub (τ.set ea (.list (natL (endsL N code [] 0)))) := AHeap.sub_set _ he
  have he0 : σ1 ea = none := fresh_sub' s1 he
  refine pairs_main (L := L) B C (by omega) hsc hce2 hcc (fun pa hpa => ?_) fun τ pa I => ?_
  · have hpa0 : σ1 pa = none := fresh_sub' (s1.trans s2) hpa
    have cd2 := s2 _ _ (s1 _ _ hcd)
    have l2 := s2 _ _ hl
    have e2 : (τ.set ea (.list (natL (endsL N code [] 0)))) ea = some (.list (natL (endsL N code [] 0))) := at_set_same
    have n2 := ne_of_fresh hpa l2
    have n3 := ne_of_fresh hpa e2
    have n6 := ne_of_fresh hpa cd2
    exact ⟨(s1.trans s2).off hpa0, at_set_ne n6 cd2, at_set_ne n2 l2, at_set_ne n3 e2, at_set_same, hl0, he0, hpa0, hne1, n2, n3, ne_of_fresh hl0 hcd, ne_of_fresh he0 hcd, n6⟩
  · have hel := ends_len C (Nat.le_refl code.length)
    have hel2 : (endsL N code (dec N code code.length) code.length).length ≤ N := by have := List.length_filter_le (fun k => decide (k ∉ dec N code code.length ∧ k ∉ code.drop code.length)) (List.range N); rw [List.length_range] at this; exact this
    have he1 := I.e
    rw [natL_int] at he1
    refine seqQ_next ?_
    refine S_seq ?_
    repeat walk_at "s1"
    refine ⟨⟨_, _, rfl, seq_of I.p⟩, ?_⟩
    repeat walk_at "s1"
    refine call_minL rfl (seq_of he1) (by rw [List.length_map]; omega) fun m hm hmx => ?_
    repeat walk_at "s1"
    refine call_maxL rfl (seq_of he1) (by rw [List.length_map]; omega) fun M hM hMx => ?_
    obtain ⟨m, hm2, rfl⟩ := List.mem_map.mp hm
    obtain ⟨M, hM2, rfl⟩ := List.mem_map.mp hM
    have elast := last_ends C hm2 (fun k hk => Int.ofNat_le.mp (hmx _ (List.mem_map.mpr ⟨k, hk, rfl⟩))) hM2 (fun k hk => Int.ofNat_le.mp (hMx _ (List.mem_map.mpr ⟨k, hk, rfl⟩)))
    refine A_nil ⟨by simp, ?_⟩
    repeat walk_at "s1"
    refine append_list I.p (by rw [List.length_map, List.length_map, List.length_range]; omega) ?_
    have ept : PV.tup [.int (m : Int), .int (M : Int)] = tupI (prI N code code.length) := by rw [← elast]; rfl
    rw [ept]
    have I2 := I.setP ((List.range (code.length + 1)).map (prI N code))
    have epr : (List.range (code.length + 1)).map (prI N code) = (List.range code.length).map (prI N code) ++ [prI N code code.length] := by rw [List.range_succ, List.map_append]; rfl
    rw [show ((List.range code.length).map (prI N code)).map tupI ++ [tupI (prI N code code.length)] = ((List.range (code.length + 1)).map (prI N code)).map tupI by rw [epr, List.map_append]; rfl]
    generalize τ.set pa (.list (((List.range (code.length + 1)).map (prI N code)).map tupI)) = τ2 at I2 ⊢
    repeat walk_at "s1"
    refine call_sortedT (seq_of I2.p) (by rw [List.length_map, List.length_range]; omega) 1 (fun q hq => by obtain ⟨i, _, rfl⟩ := List.mem_map.mp hq; rfl) fun b ps' hb hp => ?_
    repeat walk_at "s1"
    exact hQ b ps' _ ((s0.trans I2.sub).trans (AHeap.sub_set _ hb)) at_set_same hp


end
section

/-! who is over whom, plainly -/
noncomputable def upv (N : Nat) (code : List Nat) (k : Nat) : PV := match upP N code k with | none => .none | some u => .int (u : Int)
noncomputable def ovL (N : Nat) (code vs : List Nat) : List PV := (List.range N).map fun b => if b ∈ vs then upv N code b else .none
theorem ovL_congr {N : Nat} {code vs vs' : List Nat} (h : ∀ b, b ∈ vs ↔ b ∈ vs') : ovL N code vs = ovL N code vs' := by
  unfold ovL; exact List.map_congr_left fun b _ => by simp only [h b]
theorem ovL_len {N : Nat} {code vs : List Nat} : (ovL N code vs).length = N := by unfold ovL; rw [List.length_map, List.length_range]
theorem ovL_at {N b : Nat} {code vs : List Nat} (h : b < N) : (ovL N code vs)[(b : Int).toNat]? = some (if b ∈ vs then upv N code b else .none) := by
  unfold ovL; rw [Int.toNat_natCast, List.getElem?_map, List.getElem?_range h]; rfl
section
variable {N : Nat} {code : List Nat}
theorem ovL_set {vs : List Nat} {k : Nat} {p : PV} (hk : k < N) (hp : upv N code k = p) : (ovL N code vs).set k p = ovL N code (vs ++ [k]) := by
  apply List.ext_getElem?
  intro b
  unfold ovL
  rw [List.getElem?_set]
  by_cases e : k = b
  · subst e
    rw [if_pos rfl, if_pos (by rw [List.length_map, List.length_range]; exact hk), List.getElem?_map, List.getElem?_range hk, Option.map_some, if_pos (by simp), hp]
  · rw [if_neg e, List.getElem?_map, List.getElem?_map]
    cases q : (List.range N)[b]? with
    | none => rfl
    | some j =>
      have : j = b := by
        obtain ⟨hl, e⟩ := List.getElem?_eq_some_iff.mp q
        rw [List.getElem_range] at e; exact e.symm
      subst this
      simp only [Option.map_some, List.mem_append, List.mem_singleton, Ne.symm e, or_false]
/-- the walk's state: pr are done with, r are still in the row -/
structure Vis (N : Nat) (code pr r : List Nat) : Prop where
  nd : (pr ++ r).Nodup
  lt : ∀ b ∈ pr ++ r, b < N
  root : N - 1 ∈ pr ++ r
  par : ∀ b ∈ pr ++ r, b ≠ N - 1 → ∃ u ∈ pr, upP N code b = some u
  kid : ∀ a ∈ pr, ∀ b, upP N code b = some a → b ∈ pr ++ r
/-- within the look at the pairs, i of them seen -/
structure VisA (N : Nat) (code : List Nat) (ps : List (List Int)) (pr : List Nat) (a : Nat) (r : List Nat) (i : Nat) : Prop where
  nd : (pr ++ a :: r).Nodup
  lt : ∀ b ∈ pr ++ a :: r, b < N
  root : N - 1 ∈ pr ++ a :: r
  par : ∀ b ∈ pr ++ a :: r, b ≠ N - 1 → ∃ u ∈ pr ++ [a], upP N code b = some u
  kid : ∀ a' ∈ pr, ∀ b, upP N code b = some a' → b ∈ pr ++ a :: r
  cur : ∀ j < i, ∀ t ≤ code.length, ps[j]? = some (prI N code t) → (cod2 N code).getD t 0 = a → gone N code t ∈ pr ++ a :: r
theorem vis0 (C : CodeOk N code) : Vis N code [] [N - 1] := by
  have := C.size
  exact ⟨by simp, fun b hb => by simp at hb; omega, by simp, fun b hb h => by simp at hb; exact absurd hb h, fun a ha => by cases ha⟩
theorem Vis.pop {ps : List (List Int)} {pr r : List Nat} {a : Nat} (h : Vis N code pr (r ++ [a])) : VisA N code ps pr a r 0 := by
  have m : ∀ b, b ∈ pr ++ (r ++ [a]) ↔ b ∈ pr ++ a :: r := fun b => by
    simp only [List.mem_append, List.mem_cons, List.not_mem_nil, or_false]
    constructor
    · rintro (h | h | h)
      · exact .inl h
      · exact .inr (.inr h)
      · exact .inr (.inl h)
    · rintro (h | h | h)
      · exact .inl h
      · exact .inr (.inr h)
      · exact .inr (.inl h)
  refine ⟨?_, fun b hb => h.lt b ((m b).mpr hb), (m _).mp h.root, fun b hb q => ?_, fun a' ha b e => (m b).mp (h.kid a' ha b e), fun j hj => absurd hj (Nat.not_lt_zero _)⟩
  · refine (List.Perm.nodup_iff ?_).mp h.nd
    exact List.Perm.append_left pr List.perm_append_comm
  · obtain ⟨u, hu, e⟩ := h.par b ((m b).mpr hb) q
    exact ⟨u, List.mem_append_left _ hu, e⟩
theorem up_c2 (C : CodeOk N code) {t : Nat} (ht : t ≤ code.length) : upP N code (gone N code t) = some ((cod2 N code).getD t 0) := by
  rw [up_gone C ht, List.getD_eq_getElem?_getD, List.getElem?_eq_getElem (by rw [cod2_len]; omega)]; rfl
theorem mm_eq {p q r s : Nat} (h1 : min p q = min r s) (h2 : max p q = max r s) : (r = p ∧ s = q) ∨ (r = q ∧ s = p) := by
  rcases Nat.le_total p q with a | a <;> rcases Nat.le_total r s with b | b
  · rw [Nat.min_eq_left a, Nat.min_eq_left b] at h1
    rw [Nat.max_eq_right a, Nat.max_eq_right b] at h2
    exact .inl ⟨h1.symm, h2.symm⟩
  · rw [Nat.min_eq_left a, Nat.min_eq_right b] at h1
    rw [Nat.max_eq_right a, Nat.max_eq_left b] at h2
    exact .inr ⟨h2.symm, h1.symm⟩
  · rw [Nat.min_eq_right a, Nat.min_eq_left b] at h1
    rw [Nat.max_eq_left a, Nat.max_eq_right b] at h2
    exact .inr ⟨h1.symm, h2.symm⟩
  · rw [Nat.min_eq_right a, Nat.min_eq_right b] at h1
    rw [Nat.max_eq_left a, Nat.max_eq_left b] at h2
    exact .inl ⟨h2.symm, h1.symm⟩
theorem pair_of (C : CodeOk N code) {t t' : Nat} (e : prI N code t = prI N code t') : (gone N code t' = gone N code t ∧ (cod2 N code).getD t' 0 = (cod2 N code).getD t 0) ∨ (gone N code t' = (cod2 N code).getD t 0 ∧ (cod2 N code).getD t' 0 = gone N code t) := by
  unfold prI at e
  simp only [List.cons.injEq, and_true, Int.natCast_inj] at e
  exact mm_eq e.1 e.2
theorem two_ne (C : CodeOk N code) {t : Nat} (ht : t ≤ code.length) : gone N code t ≠ (cod2 N code).getD t 0 := fun e => by
  have := up_later C (up_c2 C ht)
  rw [← e] at this
  exact Nat.lt_irrefl _ this
/-- a pair that has nothing new to tell -/
theorem VisA.skip (C : CodeOk N code) {ps : List (List Int)} {pr r : List Nat} {a i t : Nat} (h : VisA N code ps pr a r i) (ht : t ≤ code.length) (hp : ps[i]? = some (prI N code t))
    (h1 : (cod2 N code).getD t 0 = a → gone N code t ∈ pr ++ a :: r) : VisA N code ps pr a r (i + 1) := by
  refine { h with cur := fun j hj t' ht' e ea => ?_ }
  by_cases q : j = i
  · subst q
    rw [hp] at e
    rcases pair_of C (Option.some.inj e) with ⟨e1, e2⟩ | ⟨e1, e2⟩
    · rw [e1]; exact h1 (e2 ▸ ea)
    · by_cases ha : a = N - 1
      · have := (gone_spec C ht).1
        rw [ea] at e2
        omega
      · obtain ⟨u, hu, eu⟩ := h.par a (by simp) ha
        rw [ea] at e2
        rw [e2, up_c2 C ht] at eu
        rw [e1, Option.some.inj eu]
        rcases List.mem_append.mp hu with hu | hu
        · exact List.mem_append_left _ hu
        · simp at hu; rw [hu]; simp
  · exact h.cur j (by omega) t' ht' e ea
/-- a pair that tells of a new name -/
theorem VisA.put (C : CodeOk N code) {ps : List (List Int)} {pr r : List Nat} {a i t : Nat} (h : VisA N code ps pr a r i) (ht : t ≤ code.length) (hp : ps[i]? = some (prI N code t))
    (h1 : (cod2 N code).getD t 0 = a) (h2 : gone N code t ∉ pr ++ a :: r) : VisA N code ps pr a (r ++ [gone N code t]) (i + 1) := by
  have e : pr ++ a :: (r ++ [gone N code t]) = (pr ++ a :: r) ++ [gone N code t] := by simp
  have hg := (gone_spec C ht).1
  have sub : ∀ b, b ∈ pr ++ a :: r → b ∈ pr ++ a :: (r ++ [gone N code t]) := fun b hb => by rw [e]; exact List.mem_append_left _ hb
  have g : VisA N code ps pr a (r ++ [gone N code t]) i := by
    refine ⟨?_, fun b hb => ?_, sub _ h.root, fun b hb q => ?_, fun a' ha b eb => sub _ (h.kid a' ha b eb), fun j hj t' ht' e ea => sub _ (h.cur j hj t' ht' e ea)⟩
    · rw [e]
      exact List.nodup_append.mpr ⟨h.nd, by simp, fun x hx y hy q => by simp at hy; rw [hy] at q; exact h2 (q ▸ hx)⟩
    · rw [e] at hb
      rcases List.mem_append.mp hb with hb | hb
      · exact h.lt b hb
      · simp at hb; omega
    · rw [e] at hb
      rcases List.mem_append.mp hb with hb | hb
      · exact h.par b hb q
      · simp at hb
        exact ⟨a, by simp, by rw [hb, up_c2 C ht, h1]⟩
  exact g.skip C ht hp fun _ => by simp
theorem VisA.fin (C : CodeOk N code) {ps : List (List Int)} {pr r : List Nat} {a : Nat} (h : VisA N code ps pr a r ps.length) (hp : ps.Perm ((List.range (code.length + 1)).map (prI N code))) : Vis N code (pr ++ [a]) r := by
  have e : pr ++ [a] ++ r = pr ++ a :: r := by simp
  refine ⟨by rw [e]; exact h.nd, by rw [e]; exact h.lt, by rw [e]; exact h.root, by rw [e]; exact h.par, fun a' ha b eb => ?_⟩
  rw [e]
  rcases List.mem_append.mp ha with ha | ha
  · exact h.kid a' ha b eb
  · simp at ha
    subst ha
    obtain ⟨t, ht, rfl, et⟩ := up_some C eb
    have hm : prI N code t ∈ ps := hp.mem_iff.mpr (List.mem_map.mpr ⟨t, by simp; omega, rfl⟩)
    obtain ⟨j, hj, ej⟩ := List.getElem_of_mem hm
    refine h.cur j hj t ht (by rw [List.getElem?_eq_getElem hj, ej]) ?_
    rw [List.getD_eq_getElem?_getD, et]; rfl
theorem Vis.done (C : CodeOk N code) {pr : List Nat} (h : Vis N code pr []) : ∀ b, b < N → b ∈ pr := by
  have key : ∀ d b, b < N → code.length + 1 - (dec N code (code.length + 1)).idxOf b ≤ d → b ∈ pr := by
    intro d
    induction d with
    | zero =>
      intro b hb hd
      have : b ∉ dec N code (code.length + 1) := fun m => by
        have := List.idxOf_lt_length_of_mem m
        rw [dec_len] at this; omega
      have := h.root
      rw [List.append_nil] at this
      rw [not_dec C hb ‹_›]; exact this
    | succ d ih =>
      intro b hb hd
      by_cases q : b = N - 1
      · have := h.root
        rw [List.append_nil] at this
        rw [q]; exact this
      · obtain ⟨u, eu, hu⟩ := up_lt C (show b + 1 < N by omega)
        have hl := up_later C eu
        have hle : (dec N code (code.length + 1)).idxOf u ≤ code.length + 1 := by have := List.idxOf_le_length (l := dec N code (code.length + 1)) (a := u); rw [dec_len] at this; exact this
        have := h.kid u (ih u hu (by omega)) b eu
        rw [List.append_nil] at this; exact this
  exact fun b hb => key _ b hb (Nat.le_refl _)
theorem ovL_full {pr : List Nat} (h : ∀ b, b < N → b ∈ pr) : ovL N code pr = (List.range N).map (upv N code) := by
  unfold ovL
  exact List.map_congr_left fun b hb => if_pos (h b (by simpa using hb))
theorem Vis.small {pr r : List Nat} (h : Vis N code pr r) : pr.length + r.length ≤ N := by
  have := List.Nodup.length_le_of_subset h.nd (l₂ := List.range N) fun b hb => by have := h.lt b hb; simpa using this
  rw [List.length_append, List.length_range] at this; exact this
theorem VisA.small {ps : List (List Int)} {pr r : List Nat} {a i : Nat} (h : VisA N code ps pr a r i) : pr.length + 1 + r.length ≤ N := by
  have := List.Nodup.length_le_of_subset h.nd (l₂ := List.range N) fun b hb => by have := h.lt b hb; simpa using this
  rw [List.length_append, List.length_range, List.length_cons] at this; omega
end


end
section


variable {w : World} {base : Heap} {os : OsState} {mb : Str → Option Value}
theorem orQ_dec {c : Cx} {st : St} {l} {Q : Bool → St → Prop} {b : Bool} (h1 : b = true → Q true st) (h2 : b = false → WAll c .Or l Q st) : orQ c l Q b st := by
  cases b with
  | true => exact orQ_true (h1 rfl)
  | false => exact orQ_false (h2 rfl)
noncomputable def bdOv : List Stmt := match bdAt 197 with | [_, _, .While _ b _ _, _] => b | _ => []
noncomputable def bdOv2 : List Stmt := match bdOv with | [_, .For _ _ b _ _] => b | _ => []
noncomputable def bdOv3 : List Stmt := match bdOv2 with | [.If _ b _ _] => b | _ => []
noncomputable abbrev muO (pa oa ra : Addr) (N : Nat) : Locals := [(Str.ofString "pairs", .ref pa), (Str.ofString "size", .int (N : Int)), (Str.ofString "over", .ref oa), (Str.ofString "row", .ref ra)]
structure OvA (σ τ : AHeap) (oa ra : Addr) (N : Nat) (code : List Nat) (ps : List (List Int)) (pr : List Nat) (a : Nat) (r : List Nat) (i : Nat) : Prop where
  sub : σ.Sub τ
  o : τ oa = some (.list (ovL N code (pr ++ a :: r)))
  w : τ ra = some (.list (natL r))
  v : VisA N code ps pr a r i
noncomputable def OvF (σ : AHeap) (pa oa ra : Addr) (N : Nat) (code : List Nat) (ps : List (List Int)) (pr : List Nat) (a i : Nat) (st : St) : Prop := ∃ τ r, st = (muO pa oa ra N ++ [(Str.ofString "a", .int (a : Int))], τ) ∧ OvA σ τ oa ra N code ps pr a r i
theorem int_eqb {x y : Nat} : (((x : Nat) : Int) == (y : Int)) = decide (x = y) := by
  by_cases h : x = y
  · subst h; simp
  · rw [decide_eq_false h]; exact beq_eq_false_iff_ne.mpr fun q => h (Int.ofNat.inj q)
theorem int_neb {x y : Nat} : (((x : Nat) : Int) != (y : Int)) = !decide (x = y) := by rw [bne, int_eqb]
set_option maxHeartbeats 2000000 in
/-- the look at one pair -/
theorem over_pair (B : Bs (G w base os mb)) {n : Nat} {A : Around} {env : Env} (hsc : env.scope = (fdAt 197).scope) {pa oa ra : Addr} {N : Nat} {code : List Nat} (C : CodeOk N code) (hN : N ≤ 100) {ps : List (List Int)} {σ τ : AHeap} {pr r : List Nat} {a i t : Nat} (hfo : σ oa = none) (hfr : σ ra = none) (hne : oa ≠ ra)
    (I : OvA σ τ oa ra N code ps pr a r i) (ht : t ≤ code.length) (hp : ps[i]? = some (prI N code t)) {Q : AFlow → St → Prop} :
    WS ⟨G w base os mb, ⟨n, true⟩, A, env⟩ bdOv2 (forQ (OvF σ pa oa ra N code ps pr a) (i + 1) Q) (muO pa oa ra N ++ [(Str.ofString "a", .int (a : Int)), (Str.ofString "one", .int ((min (gone N code t) ((cod2 N code).getD t 0) : Nat) : Int)), (Str.ofString "other", .int ((max (gone N code t) ((cod2 N code).getD t 0) : Nat) : Int))], τ) := by
  have hg := (gone_spec C ht).1
  have hz := C.size
  have h2 := two_ne C ht
  have hup := up_c2 C ht
  have hsk := I.v.skip C ht hp
  have hpt := I.v.put C ht hp
  have hpar := I.v.par
  have hcN : (cod2 N code).getD t 0 < N := by
    obtain ⟨u, e1, e2⟩ := up_lt C hg
    rw [hup] at e1; exact Option.some.inj e1 ▸ e2
  generalize gone N code t = k at hg h2 hup hsk hpt ⊢
  generalize (cod2 N code).getD t 0 = u at h2 hup hsk hpt hcN ⊢
  have no : ¬ (a = k ∨ a = u) → forQ (OvF σ pa oa ra N code ps pr a) (i + 1) Q .next (muO pa oa ra N ++ [(Str.ofString "a", .int (a : Int)), (Str.ofString "one", .int ((min k u : Nat) : Int)), (Str.ofString "other", .int ((max k u : Nat) : Int))], τ) := fun q =>
    forQ_next ⟨τ, r, rfl, { I with v := hsk fun e => absurd (.inr e.symm) q }⟩ (St.le_app (.refl _))
  have fin : ∀ b : Nat, (u = a → k ∈ pr ++ a :: r) → forQ (OvF σ pa oa ra N code ps pr a) (i + 1) Q .next (muO pa oa ra N ++ [(Str.ofString "a", .int (a : Int)), (Str.ofString "one", .int ((min k u : Nat) : Int)), (Str.ofString "other", .int ((max k u : Nat) : Int)), (Str.ofString "b", .int (b : Int))], τ) := fun b q =>
    forQ_next ⟨τ, r, rfl, { I with v := hsk q }⟩ (St.le_app (.refl _))
  have yes : (a = k ∨ a = u) → WS ⟨G w base os mb, ⟨n, true⟩, A, env⟩ bdOv3 (forQ (OvF σ pa oa ra N code ps pr a) (i + 1) Q) (muO pa oa ra N ++ [(Str.ofString "a", .int (a : Int)), (Str.ofString "one", .int ((min k u : Nat) : Int)), (Str.ofString "other", .int ((max k u : Nat) : Int))], τ) := fun q => by
    have eb : ∃ b : Nat, ((min k u : Nat) : Int) + ((max k u : Nat) : Int) - (a : Int) = (b : Int) ∧ ((a = k ∧ b = u) ∨ (a = u ∧ b = k)) := by
      rcases q with q | q
      · exact ⟨u, by omega, .inl ⟨q, rfl⟩⟩
      · exact ⟨k, by omega, .inr ⟨q, rfl⟩⟩
    obtain ⟨b, eb, hb⟩ := eb
    have hbN : b < N := by omega
    refine S_seq ?_
    repeat walk_at "s1"
    rw [eb]
    repeat walk_at "s1"
    rw [show ((N : Int) - 1) = ((N - 1 : Nat) : Int) by omega, int_neb]
    refine andQ_dec (fun hb1 => ?_) (fun hb1 => ?_)
    · have hb1 : b ≠ N - 1 := fun q => by rw [decide_eq_true q] at hb1; cases hb1
      repeat walk_at "s1"
      refine get_list (seq_of I.o) (Int.natCast_nonneg _) (ovL_at hbN) (by rw [ovL_len]; omega) ?_
      by_cases hv : b ∈ pr ++ a :: r
      · obtain ⟨j, _, ej⟩ := hpar b hv hb1
        have ev : upv N code b = .int (j : Int) := by unfold upv; rw [ej]
        rw [if_pos hv, ev]
        repeat walk_at "s1"
        refine fin b fun e => ?_
        rcases hb with ⟨e1, e2⟩ | ⟨e1, e2⟩
        · exact absurd (e1.symm.trans e.symm) h2
        · exact e2 ▸ hv
      · have hbk : a = u ∧ b = k := hb.resolve_left fun ⟨e1, e2⟩ => hv (by
          obtain ⟨u', hu', e'⟩ := hpar a (by simp) (by omega)
          rw [e1, hup] at e'
          rw [e2, Option.some.inj e']
          rcases List.mem_append.mp hu' with m | m
          · exact List.mem_append_left _ m
          · simp at m; rw [m]; simp)
        obtain ⟨e1, rfl⟩ := hbk
        subst e1
        rw [if_neg hv]
        repeat walk_at "s1"
        refine set_list (l := ovL N code (pr ++ a :: r)) I.o (Int.natCast_nonneg _) (by rw [ovL_len]; omega) (by rw [ovL_len]; omega) ?_
        rw [Int.toNat_natCast, ovL_set (k := b) (by omega) (show upv N code b = .int (a : Int) by unfold upv; rw [hup])]
        have ew := at_set_ne (o' := .list (ovL N code ((pr ++ a :: r) ++ [b]))) (Ne.symm hne) I.w
        repeat walk_at "s1"
        have hsm := I.v.small
        refine append_list ew (by rw [natL_len]; omega) ?_
        refine forQ_next ⟨_, r ++ [b], rfl, ⟨(I.sub.off hfo).off hfr, ?_, ?_, hpt rfl hv⟩⟩ (St.le_app (.refl _))
        · rw [show pr ++ a :: (r ++ [b]) = (pr ++ a :: r) ++ [b] by simp]
          exact at_set_ne hne at_set_same
        · rw [natL_snoc]; exact at_set_same
    · have hb1 : b = N - 1 := Classical.byContradiction fun q => by rw [decide_eq_false q] at hb1; cases hb1
      repeat walk_at "s1"
      refine fin b fun e => ?_
      rcases hb with ⟨e1, e2⟩ | ⟨e1, e2⟩
      · exact absurd (e1.symm.trans e.symm) h2
      · omega
  refine S_last ?_
  repeat walk_at "s1"
  rw [int_eqb]
  refine orQ_dec (fun h1 => ?_) (fun h1 => ?_)
  · have h1 : a = min k u := of_decide_eq_true h1
    refine ifQ_true ?_
    exact yes (by omega)
  · have h1 : ¬ a = min k u := of_decide_eq_false h1
    repeat walk_at "s1"
    rw [int_eqb]
    refine ifQ_dec (fun h3 => ?_) (fun h3 => ?_)
    · have h3 : a = max k u := of_decide_eq_true h3
      exact yes (by omega)
    · have h3 : ¬ a = max k u := of_decide_eq_false h3
      refine S_nil ?_
      exact no (by omega)
noncomputable def OwI (σ : AHeap) (pa oa ra : Addr) (N : Nat) (code : List Nat) (m : Nat) (st : St) : Prop := ∃ τ pr r, m + pr.length = N ∧ st = (muO pa oa ra N, τ) ∧ σ.Sub τ ∧ τ oa = some (.list (ovL N code (pr ++ r))) ∧ τ ra = some (.list (natL r)) ∧ Vis N code pr r
set_option maxHeartbeats 2000000 in
theorem over_call (B : Bs (G w base os mb)) {n : Nat} {pa : Addr} {N : Nat} {code : List Nat} (C : CodeOk N code) (hN : N ≤ 65) {ps : List (List Int)} {σ : AHeap} {Q : PV → AHeap → Prop} (hs : σ pa = some (.list (ps.map tupI))) (hp : ps.Perm ((List.range (code.length + 1)).map (prI N code)))
    (hQ : ∀ oa τ, σ.Sub τ → τ oa = some (.list ((List.range N).map (upv N code))) → Q (.ref oa) τ) : CallS (G w base os mb) ⟨n + 1, true⟩ (.ref 197) [.ref pa, .int (N : Int)] Q σ := by
  refine call_def (fd := fdAt 197) (body := bdAt 197) [Str.ofString "pairs", Str.ofString "size"] B.gd (B.fn 197 (by simp)).get rfl rfl (B.fn 197 (by simp)).code rfl rfl rfl rfl rfl rfl (by decide) rfl (fun vs hv => ?_) (fun i => rfl) (fun i => rfl) ?_
  · obtain ⟨v1, v2, rfl⟩ := len2 hv; rfl
  intro c L hc hlv hsc hce hq hf
  obtain ⟨g, lv, A, env⟩ := c
  subst hc hlv
  show WS _ (bdAt 197) _ ([(Str.ofString "pairs", .ref pa), (Str.ofString "size", .int (N : Int))], σ)
  have hce2 : env.cells = [] := hce.trans rfl
  clear hq hf
  have hz := C.size
  refine S_seq ?_
  refine S_AssignComp (cl := []) rfl (swaps_of hsc rfl) (by walk_at "kd") (closure_of hce2 rfl) (by decide) rfl (by decide) (fun x => rfl) ?_
  repeat walk_at "s1"
  refine call_range1 fun rg hr => ?_
  have sr := AHeap.sub_set (.range 0 (N : Int) 1) hr
  have hrr : (σ.set rg (.range 0 (N : Int) 1)) rg = some (.range 0 (N : Int) 1) := at_set_same
  generalize σ.set rg (.range 0 (N : Int) 1) = σ1 at sr hrr ⊢
  refine ⟨_, _, it_range hrr (by omega) (by omega) (by omega) (by omega), comp_pure (fun k => some .none) (by rw [rangeL_length]; omega) (fun τ h => trivial) ?_ ?_⟩
  · intro c' hcx hlx hsc' hce' k p τ hp hsub
    obtain ⟨g', lv', A', env'⟩ := c'
    refine Asg_local (by walk_at "kd") ?_
    repeat walk_at "s1"
    refine ⟨fun _ => ?_, fun h => (by cases h)⟩
    repeat walk_at "s1"
    exact ⟨rfl, .refl _⟩
  intro oa τ u1 ho0 ho
  have hσo : σ oa = none := fresh_sub' sr ho0
  rw [rangeL_length, show ((N : Int) - 0).toNat = N by omega, compL_tot] at ho
  have so := sr.trans u1
  clear u1 ho0 hrr sr
  repeat walk_at "s1"
  refine ⟨by simp, fun ra hra => ?_⟩
  have hra : τ ra = none := hra
  have hσr : σ ra = none := fresh_sub' so hra
  have hne : oa ≠ ra := ne_of_fresh hra ho
  have sw := AHeap.sub_set (.list [.int ((N : Int) - 1)]) hra
  repeat walk_at "s1"
  refine S_while (OwI σ pa oa ra N code) N _
    ⟨_, [], [N - 1], rfl, rfl, so.trans sw, ?_, ?_, vis0 C⟩ (St.le_refl _) ?_
  · rw [sw _ _ ho]
    congr 2
    unfold ovL
    refine List.map_congr_left fun b hb => ?_
    by_cases q : b = N - 1
    · subst q
      rw [if_pos (by simp)]
      unfold upv
      rw [up_root C]
    · rw [if_neg (by simpa using q)]
  · rw [at_set_same, show ((N : Int) - 1) = ((N - 1 : Nat) : Int) by omega]; rfl
  clear ho hra so sw
  rintro m _ ⟨τ, pr, r, hm, rfl, so, ho, hw, V⟩
  have hsm := V.small
  repeat walk_at "s1"
  refine ⟨by simp, fun e he => ?_⟩
  have he : τ e = none := he
  have sE := AHeap.sub_set (.list []) he
  refine cmp_ne_nil (l := natL r) (seq_of (sE _ _ hw)) (seq_of at_set_same) ?_
  repeat walk_at "s1"
  refine ⟨fun hb => ?_, fun hb => ?_⟩
  · refine WT.le (st' := (muO pa oa ra N, τ)) ?_ ⟨fun _ _ e => e, sE⟩
    obtain ⟨r', a, rfl⟩ : ∃ r' a, r = r' ++ [a] := by
      rcases List.eq_nil_or_concat r with e | ⟨m, x, e⟩
      · rw [e] at hb; cases hb
      · exact ⟨m, x, by rw [e, List.concat_eq_append]⟩
    rw [List.length_append] at hsm
    rw [natL_snoc] at hw
    refine S_seq ?_
    repeat walk_at "s1"
    refine pop_list hw (by rw [natL_len]; omega) ?_
    repeat walk_at "s1"
    have so2 : σ.Sub (τ.set ra (.list (natL r'))) := so.off hσr
    refine S_for rfl (OvF σ pa oa ra N code ps pr a) ?_ (fun x => rfl)
    repeat walk_at "s1"
    refine ⟨_, _, _, it_list (seq_of (so2 _ _ hs)), ⟨_, r', rfl, so2, ?_, at_set_same, V.pop⟩, St.le_refl _, ?_, ?_, ?_⟩
    · rw [← ovL_congr (vs := pr ++ (r' ++ [a])) (vs' := pr ++ a :: r') fun b => ?_]
      · exact at_set_ne hne ho
      · exact (List.Perm.append_left pr List.perm_append_comm).mem_iff
    · rintro k _ ⟨τ2, r2, rfl, I⟩; exact seq_of (I.sub _ _ hs)
    · rintro i q _ hi0 ⟨τ2, r2, rfl, I⟩
      obtain ⟨p0, hp0, rfl⟩ : ∃ p0, ps[i]? = some p0 ∧ q = tupI p0 := by
        rw [List.getElem?_map] at hi0
        cases e : ps[i]? with
        | none => rw [e] at hi0; cases hi0
        | some x => rw [e] at hi0; exact ⟨x, rfl, (Option.some.inj hi0).symm⟩
      obtain ⟨t, ht, rfl⟩ := List.mem_map.mp (hp.mem_iff.mp (List.mem_of_getElem? hp0))
      have ht : t ≤ code.length := by simp at ht; omega
      show WAsg _ _ (.tup [.int ((min (gone N code t) ((cod2 N code).getD t 0) : Nat) : Int), .int ((max (gone N code t) ((cod2 N code).getD t 0) : Nat) : Int)]) _ _
      refine Asg_Tuple rfl ?_ rfl rfl rfl
      iterate 5 walk_at "s1"
      exact over_pair B hsc C (by omega) hσo hσr hne I ht hp0
    · rintro _ ⟨τ2, r2, rfl, I⟩
      rw [List.length_map] at I
      have V2 := I.v.fin C hp
      have hsm2 := I.v.small
      refine S_nil ?_
      refine loopQ_next (m - 1) (by omega) ⟨τ2, pr ++ [a], r2, by rw [List.length_append, List.length_singleton]; omega, rfl, I.sub, ?_, I.w, V2⟩ (St.le_app (.refl _))
      rw [I.o, show pr ++ [a] ++ r2 = pr ++ a :: r2 by simp]
  · refine WT.le (st' := (muO pa oa ra N, τ)) ?_ ⟨fun _ _ e => e, sE⟩
    obtain rfl : r = [] := by cases r with | nil => rfl | cons a l => cases hb
    rw [List.append_nil, ovL_full (V.done C)] at ho
    refine S_nil ?_
    refine seqQ_next ?_
    repeat walk_at "s1"
    exact hQ oa τ so ho


end
section

/-! what the sorter gets, plainly -/
noncomputable def upK (N : Nat) (code : List Nat) (k j : Nat) : Option Nat := if j < k then upP N code j else none
noncomputable def npK (N : Nat) (code : List Nat) (k j : Nat) : Int := (((List.range k).filter fun i => decide (upP N code i = some j)).length : Int)
noncomputable def ordK (N : Nat) (code : List Nat) : Nat → List Nat
  | 0 => []
  | k + 1 => addO (ordK N code k) ((upP N code k).getD 0) (some k)
section
variable {N : Nat} {code : List Nat}
theorem upK_next {k u : Nat} (h : upP N code k = some u) : addU (upK N code k) u (some k) = upK N code (k + 1) := by
  funext j
  show upd (upK N code k) k (some u) j = _
  unfold upd upK
  by_cases e : j = k
  · subst e; rw [if_pos rfl, if_pos (Nat.lt_succ_self _), h]
  · rw [if_neg e]
    by_cases q : j < k
    · rw [if_pos q, if_pos (by omega)]
    · rw [if_neg q, if_neg (by omega)]
theorem npK_next {k u : Nat} (h : upP N code k = some u) : upd (npK N code k) u (npK N code k u + 1) = npK N code (k + 1) := by
  funext j
  unfold upd npK
  rw [List.range_succ, List.filter_append]
  by_cases e : j = u
  · subst e
    rw [if_pos rfl, List.filter_cons_of_pos (by simpa using h), List.length_append]; rfl
  · rw [if_neg e, List.filter_cons_of_neg (by simpa [h] using fun q => e q.symm)]; simp
theorem mem_ins_iff {l : List Nat} {k j : Nat} : j ∈ ins l k ↔ j ∈ l ∨ j = k := by
  unfold ins
  split
  · rename_i h
    exact ⟨.inl, fun q => q.elim id fun e => e ▸ h⟩
  · simp
theorem ord_mem (C : CodeOk N code) : ∀ k, k < N → ∀ j, j ∈ ordK N code k ↔ j < k ∨ ∃ i < k, upP N code i = some j
  | 0, _, j => by simp [ordK]
  | k + 1, hk, j => by
    obtain ⟨u, hu, _⟩ := up_lt C hk
    rw [ordK, hu]
    show j ∈ ins (ins (ordK N code k) u) k ↔ _
    rw [mem_ins_iff, mem_ins_iff, ord_mem C k (by omega)]
    constructor
    · rintro ((h | h) | h)
      · rcases h with h | ⟨i, hi, e⟩
        · exact .inl (by omega)
        · exact .inr ⟨i, by omega, e⟩
      · exact .inr ⟨k, by omega, h ▸ hu⟩
      · exact .inl (by omega)
    · rintro (h | ⟨i, hi, e⟩)
      · by_cases q : j = k
        · exact .inr q
        · exact .inl (.inl (.inl (by omega)))
      · by_cases q : i = k
        · subst q
          rw [hu] at e
          exact .inl (.inr (Option.some.inj e).symm)
        · exact .inl (.inl (.inr ⟨i, by omega, e⟩))
theorem ord_lt (C : CodeOk N code) {k : Nat} (hk : k < N) : ∀ j ∈ ordK N code k, j < N := fun j hj => by
  rcases (ord_mem C k hk j).mp hj with h | ⟨i, hi, e⟩
  · omega
  · obtain ⟨u, hu, hl⟩ := up_lt C (show i + 1 < N by omega)
    rw [hu] at e; exact Option.some.inj e ▸ hl
theorem ord_perm (C : CodeOk N code) (hn : (ordK N code (N - 1)).Nodup) : (ordK N code (N - 1)).Perm (List.range N) := by
  have hz := C.size
  refine (List.perm_ext_iff_of_nodup hn List.nodup_range).mpr fun j => ⟨fun h => by have := ord_lt C (by omega) j h; simpa using this, fun h => ?_⟩
  have h : j < N := by simpa using h
  refine (ord_mem C (N - 1) (by omega) j).mpr ?_
  by_cases q : j < N - 1
  · exact .inl q
  · refine .inr ⟨gone N code code.length, by have := (gone_spec C (Nat.le_refl code.length)).1; omega, ?_⟩
    rw [up_c2 C (Nat.le_refl _), cod2_last]
    congr 1; omega
theorem upK_all (C : CodeOk N code) : upK N code (N - 1) = upP N code := by
  funext j
  unfold upK
  by_cases q : j < N - 1
  · rw [if_pos q]
  · rw [if_neg q]
    cases e : upP N code j with
    | none => rfl
    | some u =>
      obtain ⟨i, hi, rfl, _⟩ := up_some C e
      have := (gone_spec C hi).1
      omega
theorem npK_all (C : CodeOk N code) {l : List Nat} (hp : l.Perm (List.range N)) (j : Nat) : npK N code (N - 1) j = (cntS (upP N code) l [] j : Int) := by
  have hz := C.size
  unfold npK cntS
  rw [(hp.filter _).length_eq]
  obtain ⟨m, rfl⟩ : ∃ m, N = m + 1 := ⟨N - 1, by omega⟩
  have hr := up_root C
  rw [Nat.add_sub_cancel] at hr ⊢
  rw [List.range_succ, List.filter_append, List.filter_cons_of_neg (by simp [hr])]
  simp
theorem sinvP (C : CodeOk N code) {l : List Nat} (hp : l.Perm (List.range N)) : SInv (upP N code) l [] [] (npK N code (N - 1)) (l.filter fun k => npK N code (N - 1) k == 0) where
  nn := (hp.nodup_iff).mpr List.nodup_range
  np := fun k hk => by rw [npK_all C hp]; simp
  nd := by rw [List.nil_append]; exact ((hp.nodup_iff).mpr List.nodup_range).filter _
  iff := fun k => by
    rw [List.nil_append, List.mem_filter, npK_all C hp]
    simp
  dnd := by simp
  dni := by simp
  cl := by simp
/-- names left -/
noncomputable def lefT (N : Nat) (dn : List Nat) : List Nat := (List.range N).filter fun k => decide (k ∉ dn)
theorem lefT_mem {dn : List Nat} {k : Nat} : k ∈ lefT N dn ↔ k < N ∧ k ∉ dn := by unfold lefT; rw [List.mem_filter]; simp
theorem lefT_len {dn : List Nat} : (lefT N dn).length ≤ N := by have := List.length_filter_le (fun k => decide (k ∉ dn)) (List.range N); rw [List.length_range] at this; exact this
theorem lefT_sorted {dn : List Nat} : (lefT N dn).Pairwise (· < ·) := List.Pairwise.filter _ List.pairwise_lt_range
/-- names left that are over none left -/
noncomputable def freT (N : Nat) (code dn : List Nat) : List Nat := (lefT N dn).filter fun k => !(((lefT N dn).map (upv N code)).any (isI (k : Int)))
theorem freT_mem {dn : List Nat} {k : Nat} : k ∈ freT N code dn ↔ k < N ∧ k ∉ dn ∧ ∀ v, v < N → v ∉ dn → upP N code v ≠ some k := by
  unfold freT
  rw [List.mem_filter, lefT_mem, and_assoc, Bool.not_eq_true', List.any_eq_false]
  constructor
  · rintro ⟨a, b, c⟩
    refine ⟨a, b, fun v hv hd e => ?_⟩
    have := c (upv N code v) (List.mem_map.mpr ⟨v, lefT_mem.mpr ⟨hv, hd⟩, rfl⟩)
    unfold upv at this
    rw [e] at this
    simp [isI] at this
  · rintro ⟨a, b, c⟩
    refine ⟨a, b, fun p hp => ?_⟩
    obtain ⟨v, hv, rfl⟩ := List.mem_map.mp hp
    obtain ⟨v1, v2⟩ := lefT_mem.mp hv
    have := c v v1 v2
    unfold upv
    cases e : upP N code v with
    | none => simp [isI]
    | some u =>
      rw [e] at this
      simpa [isI] using fun q => this (congrArg some (Int.ofNat.inj q))
theorem freT_sorted {dn : List Nat} : (freT N code dn).Pairwise (· < ·) := List.Pairwise.filter _ lefT_sorted
theorem sort_free {dn hl : List Nat} (hn : hl.Nodup) (hm : ∀ k, k ∈ hl ↔ k ∈ freT N code dn) : sortI (hl.map fun (k : Nat) => (k : Int)) = (freT N code dn).map fun (k : Nat) => (k : Int) := by
  refine (sortI_of ?_ ?_).symm
  · exact (((List.perm_ext_iff_of_nodup hn (freT_sorted.imp Nat.ne_of_lt)).mpr hm).map _).symm
  · rw [List.pairwise_map]
    exact freT_sorted.imp fun h => by omega
/-- one goes from the row of those left -/
theorem idx_first {l : List Nat} {x : Nat} (h : x ∈ l) : l[l.idxOf x]? = some x ∧ ∀ m < l.idxOf x, l[m]? ≠ some x := by
  have hl := List.idxOf_lt_length_of_mem h
  refine ⟨by rw [List.getElem?_eq_getElem hl, List.getElem_idxOf], fun m hm e => ?_⟩
  obtain ⟨hml, em⟩ := List.getElem?_eq_some_iff.mp e
  have := List.not_of_lt_findIdx (p := (· == x)) (xs := l) (i := m) hm
  simp [em] at this
theorem erase_left {dn : List Nat} {x : Nat} (h : x ∈ lefT N dn) : (lefT N dn).eraseIdx ((lefT N dn).idxOf x) = lefT N (dn ++ [x]) := by
  have e1 : (lefT N dn).eraseIdx ((lefT N dn).idxOf x) = (lefT N dn).erase x := (List.erase_eq_eraseIdx_of_idxOf (by rfl)).symm
  rw [e1, List.Nodup.erase_eq_filter (lefT_sorted.imp Nat.ne_of_lt)]
  unfold lefT
  rw [List.filter_filter]
  refine List.filter_congr fun k _ => ?_
  by_cases q : k = x
  · simp [q]
  · by_cases q2 : k ∈ dn
    · simp [q2]
    · simp [q, q2]
end


end
section

/-! a step, plainly -/
section
variable {N : Nat} {code : List Nat}
theorem fre_dec (C : CodeOk N code) {i k : Nat} (hi : i < N) : k ∈ freT N code ((allG N code).take i) ↔ k < N ∧ k ∉ dec N code i ∧ k ∉ (cod2 N code).drop i := by
  have hz := C.size
  rw [freT_mem, all_take (by omega)]
  exact ⟨fun ⟨a, b, c⟩ => ⟨a, b, (free_iff C (by omega) a b).mp c⟩, fun ⟨a, b, c⟩ => ⟨a, b, (free_iff C (by omega) a b).mpr c⟩⟩
theorem pop_is (C : CodeOk N code) {i x : Nat} (hi : i < N) {hl : List Nat} (hm : ∀ k, k ∈ hl ↔ k ∈ freT N code ((allG N code).take i)) (hx : x ∈ hl) (hmin : ∀ k ∈ hl, x ≤ k) : (allG N code)[i]? = some x := by
  have hz := C.size
  obtain ⟨a, b, c⟩ := (fre_dec C hi).mp ((hm x).mp hx)
  exact least C (by omega) a b c fun j j1 j2 j3 => hmin j ((hm j).mpr ((fre_dec C hi).mpr ⟨j1, j2, j3⟩))
theorem take_snoc {l : List Nat} {i x : Nat} (h : l[i]? = some x) : l.take (i + 1) = l.take i ++ [x] := by rw [List.take_add_one, h]; rfl
theorem root_free (C : CodeOk N code) {i : Nat} (hi : i < N) (h : N - 1 ∈ freT N code ((allG N code).take i)) : i = code.length + 1 := by
  have hz := C.size
  obtain ⟨_, _, c⟩ := (fre_dec C hi).mp h
  refine Classical.byContradiction fun q => c ?_
  refine List.mem_of_getElem? (i := code.length - i) ?_
  rw [List.getElem?_drop, show i + (code.length - i) = code.length by omega]
  unfold cod2
  rw [List.getElem?_append_right (Nat.le_refl _), Nat.sub_self]; rfl
theorem few_out (C : CodeOk N code) (hN : N ≤ 65) {i : Nat} (hi : i < N) {hl : List Nat} (hn : hl.Nodup) (hm : ∀ k, k ∈ hl ↔ k ∈ freT N code ((allG N code).take i)) :
    hl.length < 64 ∨ (hl.length = 64 ∧ i = 0 ∧ ∀ k, k + 1 < N → upP N code k = some (N - 1)) := by
  have hz := C.size
  have hd := dec_ok C (show i ≤ code.length + 1 by omega)
  by_cases hr : N - 1 ∈ hl
  · refine .inl ?_
    have ei := root_free C hi ((hm _).mp hr)
    have : hl.length ≤ [N - 1].length := List.Nodup.length_le_of_subset hn fun k hk => by
      obtain ⟨a, b, _⟩ := (fre_dec C hi).mp ((hm k).mp hk)
      rw [ei] at b
      simpa using not_dec C a b
    simp at this
    omega
  · have lt : ∀ k ∈ hl, k < N - 1 := fun k hk => by
      have := ((fre_dec C hi).mp ((hm k).mp hk)).1
      have : k ≠ N - 1 := fun q => hr (q ▸ hk)
      omega
    have h1 : (dec N code i ++ hl).length ≤ (List.range (N - 1)).length := by
      refine List.Nodup.length_le_of_subset (List.nodup_append.mpr ⟨hd.1, hn, fun a ha b hb e => ?_⟩) fun k hk => ?_
      · exact ((fre_dec C hi).mp ((hm b).mp hb)).2.1 (e ▸ ha)
      · rcases List.mem_append.mp hk with hk | hk
        · have := hd.2 k hk; simp; omega
        · have := lt k hk; simp; omega
    rw [List.length_append, dec_len, List.length_range] at h1
    by_cases h64 : hl.length < 64
    · exact .inl h64
    · refine .inr ⟨by omega, by omega, fun k hk => ?_⟩
      obtain ⟨u, hu, hul⟩ := up_lt C hk
      rw [hu]
      congr 1
      refine Classical.byContradiction fun q => ?_
      have hum : u ∈ hl := Classical.byContradiction fun m => by
        have : (u :: hl).length ≤ (List.range (N - 1)).length := List.Nodup.length_le_of_subset (List.nodup_cons.mpr ⟨m, hn⟩) fun j hj => by
          rcases List.mem_cons.mp hj with rfl | hj
          · simp; omega
          · have := lt j hj; simp; omega
        rw [List.length_cons, List.length_range] at this
        omega
      have hf := (freT_mem.mp ((hm u).mp hum)).2.2 k (by omega)
      rw [show i = 0 by omega] at hf
      exact hf (by simp) hu
theorem star_ord (C : CodeOk N code) (h : ∀ k, k + 1 < N → upP N code k = some (N - 1)) : ∀ k, k + 1 < N → ordK N code (k + 1) = (N - 1) :: List.range (k + 1)
  | 0, hk => by
    rw [ordK, h 0 hk]
    show ins (ins [] (N - 1)) 0 = _
    have : 0 ≠ N - 1 := by omega
    simp [ins, this, List.range_succ]
  | k + 1, hk => by
    rw [ordK, h _ hk, star_ord C h k (by omega)]
    show ins (ins ((N - 1) :: List.range (k + 1)) (N - 1)) (k + 1) = _
    have h1 : ins ((N - 1) :: List.range (k + 1)) (N - 1) = (N - 1) :: List.range (k + 1) := ins_old (List.mem_cons_self ..)
    rw [h1]
    unfold ins
    rw [if_neg (by simp; omega), List.cons_append, ← List.range_succ]
theorem star_asc (C : CodeOk N code) (h : ∀ k, k + 1 < N → upP N code k = some (N - 1)) : ((ordK N code (N - 1)).filter fun k => npK N code (N - 1) k == 0).Pairwise (· < ·) := by
  have hz := C.size
  obtain ⟨m, rfl⟩ : ∃ m, N = m + 2 := ⟨N - 2, by omega⟩
  have e := star_ord C h m (by omega)
  rw [show m + 2 - 1 = m + 1 by omega] at e ⊢
  rw [e]
  have hp : 0 < npK (m + 2) code (m + 1) (m + 1) := by
    unfold npK
    refine Int.ofNat_lt.mpr (List.length_pos_of_mem (a := 0) (List.mem_filter.mpr ⟨by simp, ?_⟩))
    have := h 0 (by omega)
    simpa using this
  rw [List.filter_cons_of_neg (by simp; omega)]
  exact List.Pairwise.filter _ List.pairwise_lt_range
/-- the order that the heap keeps -/
noncomputable def ltN (a b : Nat) : Bool := decide (a < b)
theorem ltN_tot : LtTot ltN := ⟨fun a b h => by unfold ltN at *; simp at *; omega, fun a b c h1 h2 => by unfold ltN at *; simp at *; omega⟩
theorem ltN_irr (a : Nat) : ltN a a = false := by unfold ltN; simp
theorem items_N : Items (fun k : Nat => PV.int (k : Int)) ltN := ⟨fun {c i j Q st} h => cmp_lt (by
  have e : decide ((i : Int) < (j : Int)) = ltN i j := by unfold ltN; exact decide_eq_decide.mpr Int.ofNat_lt
  rw [e]; exact h), ltN_tot⟩
end


end
section


/-- the cells of the law: size, over, busy -/
structure Ce (L : Addr) (σ τ : AHeap) (v1 v2 v3 : Option PV) : Prop where
  c1 : τ (L + 1) = some (.cell v1)
  c2 : τ (L + 1 + 1) = some (.cell v2)
  c3 : τ (L + 1 + 1 + 1) = some (.cell v3)
  sub : σ.Sub τ
  off : ∀ i, L ≤ i → σ i = none
noncomputable def NC (τ τ' : AHeap) : Prop := ∀ a o, (∀ v, o ≠ .cell v) → τ a = some o → τ' a = some o
theorem NC.cell {τ : AHeap} {a : Addr} {v w : Option PV} (h : τ a = some (.cell v)) : NC τ (τ.set a (.cell w)) := fun b o ho e => at_set_ne (fun q => by rw [q, h] at e; exact ho _ (Option.some.inj e).symm) e
theorem NC.list {τ τ' : AHeap} (h : NC τ τ') {a : Addr} {l : List PV} (e : τ a = some (.list l)) : τ' a = some (.list l) := h a _ (fun _ q => by cases q) e
section
variable {L : Addr} {σ τ τ' : AHeap} {v1 v2 v3 : Option PV}
theorem Ce.mono (C : Ce L σ τ v1 v2 v3) (h : τ.Sub τ') : Ce L σ τ' v1 v2 v3 := ⟨h _ _ C.c1, h _ _ C.c2, h _ _ C.c3, C.sub.trans h, C.off⟩
theorem Ce.set1 (C : Ce L σ τ v1 v2 v3) (w : Option PV) : Ce L σ (τ.set (L + 1) (.cell w)) w v2 v3 :=
  ⟨at_set_same, at_set_ne (Nat.succ_ne_self _) C.c2, at_set_ne (by simp [Nat.add_assoc]) C.c3, C.sub.off (C.off _ (Nat.le_succ _)), C.off⟩
theorem Ce.set2 (C : Ce L σ τ v1 v2 v3) (w : Option PV) : Ce L σ (τ.set (L + 1 + 1) (.cell w)) v1 w v3 :=
  ⟨at_set_ne (Nat.succ_ne_self _).symm C.c1, at_set_same, at_set_ne (Nat.succ_ne_self _) C.c3, C.sub.off (C.off _ (Nat.le_add_right L 2)), C.off⟩
end
theorem ce0 {L : Addr} {σ : AHeap} (hf : ∀ i, L ≤ i → σ i = none) : Ce L σ (((σ.set (L + 1) (.cell none)).set (L + 1 + 1) (.cell none)).set (L + 1 + 1 + 1) (.cell none)) none none none :=
  have C0 : (σ.set (L + 1) (.cell none)) (L + 1) = some (.cell none) := at_set_same
  ⟨at_set_ne (by simp [Nat.add_assoc]) (at_set_ne (Nat.succ_ne_self _).symm C0), at_set_ne (Nat.succ_ne_self _).symm at_set_same, at_set_same,
    ((AHeap.sub_set _ (hf _ (Nat.le_add_right L 1))).off (hf _ (Nat.le_add_right L 2))).off (hf _ (Nat.le_add_right L 3)), hf⟩
noncomputable def codeOf (ns : List Int) (N : Nat) : List Nat := ns.map fun x => (x.fmod N).toNat
theorem code_ok {ns : List Int} {N : Nat} (h : ns.length + 2 = N) : CodeOk N (codeOf ns N) := by
  refine ⟨by unfold codeOf; rw [List.length_map]; exact h, fun c hc => ?_⟩
  obtain ⟨x, _, rfl⟩ := List.mem_map.mp hc
  have h1 := Int.fmod_nonneg_of_pos x (show (0 : Int) < (N : Int) by omega)
  have h2 := Int.fmod_lt_of_pos x (show (0 : Int) < (N : Int) by omega)
  omega
theorem code_at {x : Int} {N : Nat} (h : 2 ≤ N) : x.fmod (N : Int) = (((x.fmod N).toNat : Nat) : Int) := by
  have h1 := Int.fmod_nonneg_of_pos x (show (0 : Int) < (N : Int) by omega)
  omega
variable {w : World} {base : Heap} {os : OsState} {mb : Str → Option Value}
noncomputable def tlW3 : List Stmt := match bdAt 202 with | _ :: _ :: _ :: r => r | _ => []
set_option maxHeartbeats 1000000 in
theorem law_over (B : Bs (G w base os mb)) {n : Nat} {A : Around} {env : Env} {L sc : Addr} {ns : List Int} {N : Nat} (hN : ns.length + 2 = N) {σ τ : AHeap} {Q : AFlow → St → Prop} (hs : seqAt σ sc = some (intL ns)) (hz : ns.length ≤ 63) (hsc : env.scope = (fdAt 202).scope)
    (hce : env.cells = [(Str.ofString "busy", L + 1 + 1 + 1), (Str.ofString "over", L + 1 + 1), (Str.ofString "size", L + 1)]) (C : Ce L σ τ none none none)
    (next : ∀ τ' ca oa, Ce L σ τ' (some (.int (N : Int))) (some (.ref oa)) none → τ' ca = some (.list (natL (codeOf ns N))) → τ' oa = some (.list ((List.range N).map (upv N (codeOf ns N)))) →
      seqQ ⟨G w base os mb, ⟨n + 6, true⟩, A, env⟩ tlW3 Q .next ([(Str.ofString "script", .ref sc), (Str.ofString "code", .ref ca)], τ')) :
    WS ⟨G w base os mb, ⟨n + 6, true⟩, A, env⟩ (bdAt 202) Q ([(Str.ofString "script", .ref sc)], τ) := by
  have hln : ∀ l : List Int, (intL l).length = l.length := fun l => List.length_map ..
  refine S_seq ?_
  repeat walk_at "s1"
  refine len_seq (seq_sub' C.sub hs) (by rw [hln]; omega) ?_
  rw [hln]
  repeat walk_at "s1"
  rw [show ((ns.length : Int) + 2) = (N : Int) by omega]
  refine W1_storeCell (by walk_at "kd") (by walk_at "ce") C.c1 ?_
  have C := C.set1 (some (.int (N : Int)))
  generalize τ.set (L + 1) (.cell (some (.int (N : Int)))) = τ at C ⊢
  refine seqQ_next ?_
  refine S_seq ?_
  refine S_AssignComp (cl := [(Str.ofString "size", L + 1)]) rfl (swaps_of hsc rfl) (by walk_at "kd") (closure_of hce rfl) (by decide) rfl (by decide) (fun x => rfl) ?_
  repeat walk_at "s1"
  refine ⟨_, _, it_list (seq_sub' C.sub hs), comp_pure (fun k => (ns[k]?).map fun x => .int (((x.fmod N).toNat : Nat) : Int)) (by rw [hln]; omega) (fun τ h => seq_sub' (C.sub.trans h) hs) ?_ ?_⟩
  · intro c' hcx hlx hsc' hce' k p τ' hp hsub
    obtain ⟨g', lv', A', env'⟩ := c'
    obtain rfl : g' = G w base os mb := hcx
    obtain rfl : lv' = ⟨n + 6, true⟩ := hlx
    obtain ⟨x, hx, rfl⟩ : ∃ x, ns[k]? = some x ∧ p = .int x := by
      unfold intL at hp
      rw [List.getElem?_map] at hp
      cases e : ns[k]? with
      | none => rw [e] at hp; cases hp
      | some x => rw [e] at hp; exact ⟨x, rfl, (Option.some.inj hp).symm⟩
    have c1' := hsub _ _ C.c1
    refine Asg_local (by walk_at "kd") ?_
    repeat walk_at "s1"
    refine ⟨fun _ => ?_, fun h => (by cases h)⟩
    repeat walk_at "s1"
    refine bin_mod (by omega) ?_
    rw [code_at (show 2 ≤ N by omega)]
    exact ⟨by rw [hx]; rfl, .refl _⟩
  intro ca τ2 u1 hc0 hcd
  rw [hln, compL_map] at hcd
  have hcd : τ2 ca = some (.list (natL (codeOf ns N))) := by rw [hcd]; unfold natL codeOf; rw [List.map_map]; rfl
  have C := C.mono u1
  have hok := code_ok hN
  have hc2 := C.c2
  clear u1 hc0
  refine seqQ_next ?_
  refine S_seq ?_
  have c1 := C.c1
  repeat walk_at "s1"
  refine WN_call (pairs_call B hok (by omega) hcd fun r ps τ3 s3 hr hp => ?_)
  have c1 := s3 _ _ c1
  repeat walk_at "s1"
  refine WN_call (over_call B hok (by omega) hr hp fun oa τ4 s4 ho => ?_)
  have C := (C.mono s3).mono s4
  refine W1_storeCell (by walk_at "kd") (by walk_at "ce") C.c2 ?_
  exact next _ ca oa (C.set2 _) ((NC.cell C.c2).list (s4 _ _ (s3 _ _ hcd))) ((NC.cell C.c2).list ho)


end
section


variable {w : World} {base : Heap} {os : OsState} {mb : Str → Option Value}
noncomputable def tlW5 : List Stmt := match bdAt 202 with | _ :: _ :: _ :: _ :: _ :: r => r | _ => []
noncomputable abbrev muS (sc ca S : Addr) : Locals := [(Str.ofString "script", .ref sc), (Str.ofString "code", .ref ca), (Str.ofString "sorter", .ref S)]
/-- the sorter and what stands beside it -/
structure SrI (L ca oa : Addr) (N : Nat) (code : List Nat) (σ τ : AHeap) (s : Srt) (v3 : Option PV) : Prop where
  at_ : s.At τ
  old : Old σ s τ
  c1 : σ (L + 1) = some (.cell (some (.int (N : Int))))
  c2 : σ (L + 1 + 1) = some (.cell (some (.ref oa)))
  cd : σ ca = some (.list (natL code))
  ov : σ oa = some (.list ((List.range N).map (upv N code)))
  busy : Out s τ (L + 1 + 1 + 1) (.cell v3)
theorem SrI.fr {L ca oa : Addr} {N : Nat} {code : List Nat} {σ τ τ' : AHeap} {s s' : Srt} {v3 : Option PV} (I : SrI L ca oa N code σ τ s v3) (A : s'.At τ') (F : Fr s τ s' τ') : SrI L ca oa N code σ τ' s' v3 :=
  { I with at_ := A, old := I.old.fr F, busy := I.busy.fr F }
noncomputable def AeI (L sc ca oa : Addr) (N : Nat) (code : List Nat) (σb : AHeap) (S0 : Addr) (k : Nat) (st : St) : Prop := ∃ s τ', st = (muS sc ca S0, τ') ∧ SrI L ca oa N code σb τ' s none ∧ s.v = (S0, ordK N code k, upK N code k, npK N code k, none, [], 0, 0)
set_option maxHeartbeats 1000000 in
theorem law_add (B : Bs (G w base os mb)) {n : Nat} {A : Around} {env : Env} {L sc ca oa : Addr} {N : Nat} {code : List Nat} (C : CodeOk N code) (hN : N ≤ 65) {σ τ : AHeap} {Q : AFlow → St → Prop} (hsc : env.scope = (fdAt 202).scope)
    (hce : env.cells = [(Str.ofString "busy", L + 1 + 1 + 1), (Str.ofString "over", L + 1 + 1), (Str.ofString "size", L + 1)]) (Cc : Ce L σ τ (some (.int (N : Int))) (some (.ref oa)) none)
    (hcd : τ ca = some (.list (natL code))) (hov : τ oa = some (.list ((List.range N).map (upv N code))))
    (next : ∀ s τ', SrI L ca oa N code (τ.del (L + 1 + 1 + 1)) τ' s none → s.v = (s.S, ordK N code (N - 1), upK N code (N - 1), npK N code (N - 1), none, [], 0, 0) →
      seqQ ⟨G w base os mb, ⟨n + 6, true⟩, A, env⟩ tlW5 Q .next (muS sc ca s.S, τ')) :
    seqQ ⟨G w base os mb, ⟨n + 6, true⟩, A, env⟩ tlW3 Q .next ([(Str.ofString "script", .ref sc), (Str.ofString "code", .ref ca)], τ) := by
  have hzz := C.size
  refine seqQ_next ?_
  refine S_seq ?_
  refine S_Assign ?_ (swaps_of hsc rfl)
  refine E_CallC0 B.gd (by walk_at "kd") rfl B.K (by rfl) ?_ rfl rfl
  refine WN_call (make_sorter B fun s0 τ0 A0 v0 s00 how => ?_)
  have O0 : Old τ s0 τ0 := fun a o e => ⟨s00 _ _ e, fun q => by rw [how a q] at e; cases e⟩
  have I0 : SrI L ca oa N code (τ.del (L + 1 + 1 + 1)) τ0 s0 none := by
    refine ⟨A0, fun a o e => O0 a o (AHeap.del_sub _ _ _ _ e), ?_, ?_, ?_, ?_, O0 _ _ Cc.c3⟩
    · rw [AHeap.del_ne (by simp [Nat.add_assoc])]; exact Cc.c1
    · rw [AHeap.del_ne (Nat.succ_ne_self _).symm]; exact Cc.c2
    · rw [AHeap.del_ne fun e => by rw [e, Cc.c3] at hcd; cases hcd]; exact hcd
    · rw [AHeap.del_ne fun e => by rw [e, Cc.c3] at hov; cases hov]; exact hov
  generalize τ.del (L + 1 + 1 + 1) = σb at I0 next
  clear O0 s00 how A0
  generalize hS : s0.S = S0 at v0 ⊢
  repeat walk_at "s1"
  refine S_for rfl (AeI L sc ca oa N code σb S0) ?_ (fun x => rfl)
  have c1 := (I0.old _ _ I0.c1).1
  repeat walk_at "s1"
  rw [show ((N : Int) - 1) = ((N - 1 : Nat) : Int) by omega]
  refine call_range1 fun r hr => ⟨_, _, _, it_range at_set_same (by omega) (by omega) (by omega) (by omega), ⟨s0, τ0, rfl, I0, v0.trans ?_⟩, St.le_app (AHeap.sub_set _ hr), fun _ _ _ => trivial, ?_, ?_⟩
  · rw [show upK N code 0 = fun _ => none from funext fun j => if_neg (Nat.not_lt_zero _), show npK N code 0 = fun _ => 0 from rfl]; rfl
  · rintro k q _ hk0 ⟨s, τ1, rfl, I, v1⟩
    obtain ⟨hk, rfl⟩ := rangeL_get hk0
    have hk : k + 1 < N := by omega
    rw [show (0 : Int) + (k : Int) * 1 = (k : Int) by omega]
    obtain ⟨u, hu, huN⟩ := up_lt C hk
    have huk : k ≠ u := fun e => by have := up_later C hu; rw [← e] at this; exact Nat.lt_irrefl _ this
    obtain ⟨e1, e2, e3, e4, e5, e6, e7, e8⟩ : s.S = S0 ∧ s.order = ordK N code k ∧ s.up = upK N code k ∧ s.np = npK N code k ∧ s.rdy = none ∧ s.rl = [] ∧ s.pa = 0 ∧ s.fi = 0 := v_inv v1
    have A1 := I.at_
    have hol : s.order.length ≤ N := by
      have := List.Nodup.length_le_of_subset A1.nodup (l₂ := List.range N) fun j hj => by rw [e2] at hj; have := ord_lt C (show k < N by omega) j hj; simpa using this
      rw [List.length_range] at this; exact this
    have c2 := (I.old _ _ I.c2).1
    have ho := (I.old _ _ I.ov).1
    refine Asg_local (by walk_at "kd") ?_
    refine S_last ?_
    refine S_Expr ?_ (by unfold PySem.interactive; walk_at "kd") rfl
    refine E_MethI B.K (t_m2 _) (by rfl) ?_ rfl rfl rfl
    repeat walk_at "s1"
    refine ⟨⟨s.S, s.D, s.al, by rw [e1], A1.inst, A1.attrs, rfl⟩, ?_⟩
    repeat walk_at "s1"
    refine get_list (p := .int (u : Int)) (seq_of ho) (Int.natCast_nonneg _) (by rw [Int.toNat_natCast, List.getElem?_map, List.getElem?_range (by omega), Option.map_some]; unfold upv; rw [hu]) (by rw [List.length_map, List.length_range]; omega) ?_
    repeat walk_at "s1"
    rw [← e1]
    refine WN_call (add_call B A1 (u := u) (po := some k) (by omega) e5 (fun p hp => by cases hp; exact ⟨huk, by rw [e3]; exact if_neg (Nat.lt_irrefl _)⟩) fun s' τ' A' F' v' => ?_)
    repeat walk_at "s1"
    rw [e1]
    refine forQ_next ⟨s', τ', rfl, I.fr A' F', ?_⟩ (St.le_app (.refl _))
    rw [v', e1, e2, e3, e4, e6, e7, e8, upK_next hu]
    have := npK_next hu
    rw [← this, ordK, hu]; rfl
  · rintro _ ⟨s, τ1, rfl, I, v1⟩
    rw [rangeL_length, show (((N - 1 : Nat) : Int) - 0).toNat = N - 1 by omega] at v1
    have e1 : s.S = S0 := congrArg (fun t => t.1) v1
    refine S_nil ?_
    have := next s τ1 I (by rw [v1, e1])
    rw [e1] at this
    exact this


end
section


theorem rangeL_nat (N : Nat) : rangeL 0 1 N = natL (List.range N) := by
  unfold rangeL natL
  exact List.map_congr_left fun i _ => congrArg PV.int (show (0 : Int) + (i : Int) * 1 = (i : Int) by omega)
section
variable {L ca oa : Addr} {N : Nat} {code : List Nat} {σ τ : AHeap} {s : Srt} {v3 : Option PV} {a : Addr} {o o' : AObj}
theorem SrI.fset (I : SrI L ca oa N code σ τ s v3) (h : τ a = none) : SrI L ca oa N code σ (τ.set a o') s v3 :=
  { I with at_ := I.at_.fset h, old := I.old.set (I.old.none h), busy := I.busy.fset h }
theorem SrI.oset (I : SrI L ca oa N code σ τ s v3) (h : Out s τ a o) (ha : σ a = none) (hb : L + 1 + 1 + 1 ≠ a) : SrI L ca oa N code σ (τ.set a o') s v3 :=
  { I with at_ := I.at_.oset h.2, old := I.old.set ha, busy := I.busy.set hb }
theorem SrI.bset (I : SrI L ca oa N code σ τ s v3) (h : σ (L + 1 + 1 + 1) = none) (w : Option PV) : SrI L ca oa N code σ (τ.set (L + 1 + 1 + 1) (.cell w)) s w :=
  { I with at_ := I.at_.oset I.busy.2, old := I.old.set h, busy := I.busy.here }
end
/-- where the lists of the law stand -/
structure Ads (L : Addr) (σ : AHeap) (ha ta la : Addr) : Prop where
  fh : σ ha = none
  ft : σ ta = none
  fl : σ la = none
  fb : σ (L + 1 + 1 + 1) = none
  n1 : ha ≠ ta
  n2 : ha ≠ la
  n3 : ta ≠ la
  n4 : L + 1 + 1 + 1 ≠ ha
  n5 : L + 1 + 1 + 1 ≠ ta
  n6 : L + 1 + 1 + 1 ≠ la
/-- between two steps: i names are done, hl are handed out -/
structure LW (L ca oa ra : Addr) (N : Nat) (code : List Nat) (σ τ : AHeap) (S0 ha ta la : Addr) (s : Srt) (v3 : Option PV) (i : Nat) (hl : List Nat) : Prop where
  I : SrI L ca oa N code σ τ s v3
  hS : s.S = S0
  ord : s.order = ordK N code (N - 1)
  up : s.up = upP N code
  rdy : s.rdy = some ra
  si : SInv (upP N code) (ordK N code (N - 1)) ((allG N code).take i) hl s.np s.rl
  pa : s.pa = (i : Int) + (hl.length : Int)
  fi : s.fi = (i : Int)
  heap : Out s τ ha (.list (hl.map fun k : Nat => PV.int (k : Int)))
  H : IsHeap ltN 0 hl
  told : Out s τ ta (.list (((allG N code).take i).map (upv N code)))
  left : Out s τ la (.list (natL (lefT N ((allG N code).take i))))
/-- what the first step has -/
noncomputable def Star (N : Nat) (code : List Nat) (s : Srt) (i : Nat) (hl : List Nat) : Prop := i = 0 → hl = [] ∧ s.rl = (ordK N code (N - 1)).filter fun k => npK N code (N - 1) k == 0
variable {w : World} {base : Heap} {os : OsState} {mb : Str → Option Value}
noncomputable def tlW9 : List Stmt := match bdAt 202 with | _ :: _ :: _ :: _ :: _ :: _ :: _ :: _ :: _ :: r => r | _ => []
noncomputable abbrev muL (sc ca S ha ta la : Addr) : Locals := muS sc ca S ++ [(Str.ofString "heap", .ref ha), (Str.ofString "told", .ref ta), (Str.ofString "left", .ref la)]
set_option maxHeartbeats 1000000 in
theorem law_prep (B : Bs (G w base os mb)) {n : Nat} {A : Around} {env : Env} {L sc ca oa : Addr} {N : Nat} {code : List Nat} (C : CodeOk N code) (hN : N ≤ 65) {σ τ : AHeap} {s : Srt} {Q : AFlow → St → Prop} (hsc : env.scope = (fdAt 202).scope)
    (hce : env.cells = [(Str.ofString "busy", L + 1 + 1 + 1), (Str.ofString "over", L + 1 + 1), (Str.ofString "size", L + 1)]) (hb : σ (L + 1 + 1 + 1) = none)
    (I : SrI L ca oa N code σ τ s none) (v : s.v = (s.S, ordK N code (N - 1), upK N code (N - 1), npK N code (N - 1), none, [], 0, 0))
    (next : ∀ ha ta la ra s' τ', Ads L σ ha ta la → LW L ca oa ra N code σ τ' s'.S ha ta la s' none 0 [] → Star N code s' 0 [] → (ordK N code (N - 1)).Perm (List.range N) →
      seqQ ⟨G w base os mb, ⟨n + 6, true⟩, A, env⟩ tlW9 Q .next (muL sc ca s'.S ha ta la, τ')) :
    seqQ ⟨G w base os mb, ⟨n + 6, true⟩, A, env⟩ tlW5 Q .next (muS sc ca s.S, τ) := by
  have hzz := C.size
  obtain ⟨_, e2, e3, e4, e5, e6, e7, e8⟩ : s.S = s.S ∧ s.order = ordK N code (N - 1) ∧ s.up = upK N code (N - 1) ∧ s.np = npK N code (N - 1) ∧ s.rdy = none ∧ s.rl = [] ∧ s.pa = 0 ∧ s.fi = 0 := v_inv v
  rw [upK_all C] at e3
  have hperm := ord_perm C (e2 ▸ I.at_.nodup)
  refine seqQ_next ?_
  refine S_seq ?_
  refine S_Expr ?_ (by unfold PySem.interactive; walk_at "kd") rfl
  refine E_MethI0 B.K (t_m3 _) (by rfl) ?_ rfl
  repeat walk_at "s1"
  refine ⟨⟨s.S, s.D, _, rfl, I.at_.inst, I.at_.attrs, rfl⟩, ?_⟩
  refine WN_call (prep_call B I.at_ e5 (fun k => N - (dec N code (code.length + 1)).idxOf k) (fun k hk u e => ?_) fun s2 τ2 ra A2 F2 v2 => ?_)
  · rw [e3] at e
    have h1 := up_later C e
    have h2 := List.idxOf_le_length (l := dec N code (code.length + 1)) (a := u)
    rw [dec_len] at h2
    omega
  have I2 := I.fr A2 F2
  rw [e2, e3, e4, e7, e8] at v2
  obtain ⟨g1, g2, g3, g4, g5, g6, g7, g8⟩ : s2.S = s.S ∧ s2.order = ordK N code (N - 1) ∧ s2.up = upP N code ∧ s2.np = npK N code (N - 1) ∧ s2.rdy = some ra ∧ s2.rl = (ordK N code (N - 1)).filter (fun k => npK N code (N - 1) k == 0) ∧ s2.pa = 0 ∧ s2.fi = 0 := v_inv v2
  rw [← g1]
  clear A2 F2 v2 e2 e3 e4 e5 e6 e7 e8
  repeat walk_at "s1"
  refine ⟨by simp, fun ha hha => ?_⟩
  have hha : τ2 ha = none := hha
  have I3 := I2.fset (o' := .list []) hha
  have oh : Out s2 (τ2.set ha (.list [])) ha (.list []) := .fresh I2.at_ hha
  have fh := I2.old.none hha
  have n4 : L + 1 + 1 + 1 ≠ ha := ne_of_fresh hha I2.busy.1
  show W1 _ _ _ _ _ (_, τ2.set ha (.list []))
  generalize τ2.set ha (.list []) = τ3 at I3 oh ⊢
  clear I2 hha
  repeat walk_at "s1"
  refine ⟨by simp, fun ta hta => ?_⟩
  have hta : τ3 ta = none := hta
  have n1 : ha ≠ ta := ne_of_fresh hta oh.1
  have I4 := I3.fset (o' := .list []) hta
  have oh := oh.fset (o' := .list []) hta
  have ot : Out s2 (τ3.set ta (.list [])) ta (.list []) := .fresh I3.at_ hta
  have ft := I3.old.none hta
  have n5 : L + 1 + 1 + 1 ≠ ta := ne_of_fresh hta I3.busy.1
  show W1 _ _ _ _ _ (_, τ3.set ta (.list []))
  generalize τ3.set ta (.list []) = τ4 at I4 oh ot ⊢
  clear I3 hta
  have c1 := (I4.old _ _ I4.c1).1
  repeat walk_at "s1"
  refine call_range1 fun r hr => ?_
  have hr : τ4 r = none := hr
  have hrr : (τ4.set r (.range 0 (N : Int) 1)) r = some (.range 0 (N : Int) 1) := at_set_same
  repeat walk_at "s1"
  refine call_listRange rfl hrr (by omega) (by omega) (by omega) (by omega) fun la hla => ?_
  have hla : (τ4.set r (.range 0 (N : Int) 1)) la = none := hla
  have I5 := I4.fset (o' := .range 0 (N : Int) 1) hr
  have oh := oh.fset (o' := .range 0 (N : Int) 1) hr
  have ot := ot.fset (o' := .range 0 (N : Int) 1) hr
  generalize τ4.set r (.range 0 (N : Int) 1) = τ5 at I5 oh ot hla ⊢
  rw [rangeL_nat, show ((N : Int) - 0).toNat = N by omega]
  have n2 : ha ≠ la := ne_of_fresh hla oh.1
  have n3 : ta ≠ la := ne_of_fresh hla ot.1
  have n6 : L + 1 + 1 + 1 ≠ la := ne_of_fresh hla I5.busy.1
  have fl := I5.old.none hla
  have I6 := I5.fset (o' := .list (natL (List.range N))) hla
  have oh := oh.fset (o' := .list (natL (List.range N))) hla
  have ot := ot.fset (o' := .list (natL (List.range N))) hla
  have ol : Out s2 (τ5.set la (.list (natL (List.range N)))) la (.list (natL (List.range N))) := .fresh I5.at_ hla
  refine W1_store (by walk_at "kd") ?_
  have hl0 : lefT N [] = List.range N := List.filter_eq_self.mpr fun _ _ => by simp
  exact next ha ta la ra s2 _ ⟨fh, ft, fl, hb, n1, n2, n3, n4, n5, n6⟩
    ⟨I6, rfl, g2, g3, g5, by rw [List.take_zero, g4, g6]; exact sinvP C hperm, by rw [g7]; rfl, by rw [g8]; rfl, oh, fun k _ h => absurd h (Nat.not_lt_zero _), ot, by rw [List.take_zero, hl0]; exact ol⟩ (fun _ => ⟨rfl, g6⟩) hperm


end
section


variable {w : World} {base : Heap} {os : OsState} {mb : Str → Option Value}
noncomputable def bdLw : List Stmt := match tlW9 with | .While _ b _ _ :: _ => b | _ => []
noncomputable def tlB3 : List Stmt := match bdLw with | _ :: _ :: _ :: r => r | _ => []
noncomputable def PuI (L sc ca oa : Addr) (N : Nat) (code : List Nat) (σ : AHeap) (S0 ha ta la : Addr) (rl : List Nat) (s1 : Srt) (v3 : Option PV) (i : Nat) (hl : List Nat) (k : Nat) (st : St) : Prop := ∃ τ' hl', st = (muL sc ca S0 ha ta la ++ [(Str.ofString "group", .tup (natL rl))], τ') ∧ SrI L ca oa N code σ τ' s1 v3 ∧ Out s1 τ' ha (.list (hl'.map fun k : Nat => PV.int (k : Int))) ∧ IsHeap ltN 0 hl' ∧
    Out s1 τ' ta (.list (((allG N code).take i).map (upv N code))) ∧ Out s1 τ' la (.list (natL (lefT N ((allG N code).take i)))) ∧ hl'.Perm (hl ++ rl.take k) ∧ (hl = [] → rl.Pairwise (· < ·) → hl' = rl.take k)
set_option maxHeartbeats 2000000 in
theorem step_push (B : Bs (G w base os mb)) {n : Nat} {A : Around} {env : Env} {L sc ca oa : Addr} {N : Nat} {code : List Nat} (C : CodeOk N code) (hN : N ≤ 65) {σ τ : AHeap} {S0 ha ta la ra : Addr} {s : Srt} {v3 : Option PV} {i : Nat} {hl : List Nat} {Q : AFlow → St → Prop} (hsc : env.scope = (fdAt 202).scope)
    (hperm : (ordK N code (N - 1)).Perm (List.range N)) (D : Ads L σ ha ta la) (W : LW L ca oa ra N code σ τ S0 ha ta la s v3 i hl) (st : Star N code s i hl)
    (next : ∀ s' τ' hl', LW L ca oa ra N code σ τ' S0 ha ta la s' v3 i hl' → s'.rl = [] → hl'.Perm (hl ++ s.rl) → (i = 0 → ((ordK N code (N - 1)).filter fun k => npK N code (N - 1) k == 0).Pairwise (· < ·) → hl' = (ordK N code (N - 1)).filter fun k => npK N code (N - 1) k == 0) →
      seqQ ⟨G w base os mb, ⟨n + 6, true⟩, A, env⟩ tlB3 Q .next (muL sc ca S0 ha ta la ++ [(Str.ofString "group", .tup (natL s.rl))], τ')) :
    WS ⟨G w base os mb, ⟨n + 6, true⟩, A, env⟩ bdLw Q (muL sc ca S0 ha ta la, τ) := by
  have hzz := C.size
  have room := W.si.room
  have hol : (ordK N code (N - 1)).length = N := by rw [hperm.length_eq, List.length_range]
  rw [hol] at room
  have hin : ∀ k ∈ s.rl, k ∈ s.order := fun k hk => by rw [W.ord]; exact ((W.si.iff k).mp (List.mem_append_right _ hk)).1
  refine S_seq ?_
  refine S_Assign ?_ (swaps_of hsc rfl)
  refine E_MethI0 B.K (t_m4 _) (by rfl) ?_ rfl
  repeat walk_at "s1"
  refine ⟨⟨s.S, s.D, _, by rw [W.hS], W.I.at_.inst, W.I.at_.attrs, rfl⟩, WN_call (ready_call B W.I.at_ W.hS W.rdy (by omega) hin fun s1 τ1 A1 F1 v1 => ?_)⟩
  obtain ⟨g1, g2, g3, g4, g5, g6, g7, g8⟩ : s1.S = s.S ∧ s1.order = s.order ∧ s1.up = s.up ∧ s1.np = (fun k => if k ∈ s.rl then -1 else s.np k) ∧ s1.rdy = some ra ∧ s1.rl = [] ∧ s1.pa = s.pa + (s.rl.length : Int) ∧ s1.fi = s.fi := v_inv v1
  have I1 := W.I.fr A1 F1
  have oh := W.heap.fr F1
  have ot := W.told.fr F1
  have ol := W.left.fr F1
  have si1 := W.si.ready
  repeat walk_at "s1"
  refine E_builtin (v := .type "tuple") B.gd (by walk_at "kd") rfl (by decide) rfl rfl ?_ rfl
  repeat walk_at "s1"
  refine isi_tup ?_
  refine truthy_b ?_
  refine ifQ_false ?_
  repeat walk_at "s1"
  refine S_for rfl (PuI L sc ca oa N code σ S0 ha ta la s.rl s1 v3 i hl) ?_ (fun x => rfl)
  repeat walk_at "s1"
  refine ⟨_, _, _, it_tuple, ⟨τ1, hl, rfl, I1, oh, W.H, ot, ol, by simp, fun e _ => by rw [e, List.take_zero]⟩, St.le_refl _, fun _ _ _ => trivial, ?_, ?_⟩
  · rintro j q _ hj0 ⟨τ', hl', rfl, I', oh', H', ot', ol', hpm, hst⟩
    obtain ⟨k, hk, rfl⟩ := natL_get hj0
    have hlen : hl'.length ≤ N := by
      rw [hpm.length_eq, List.length_append, List.length_take]; omega
    refine Asg_local (by walk_at "kd") ?_
    repeat walk_at "s1"
    refine WN_call (push_call B items_N oh'.1 (by omega) H' fun hl2 hp2 hH2 hs2 => ?_)
    repeat walk_at "s1"
    refine forQ_next ⟨_, hl2, rfl, I'.oset oh' D.fh D.n4, oh'.here, hH2, ot'.set (Ne.symm D.n1), ol'.set (Ne.symm D.n2), ?_, fun e hpw => ?_⟩ (St.le_app (.refl _))
    · rw [List.take_add_one, hk, ← List.append_assoc]
      exact hp2.trans (hpm.append_right _)
    · have ht : s.rl.take (j + 1) = s.rl.take j ++ [k] := by rw [List.take_add_one, hk]; rfl
      rw [hs2 fun y hy => ?_, hst e hpw, ht]
      rw [hst e hpw] at hy
      obtain ⟨m, hm, em⟩ := List.getElem_of_mem hy
      rw [List.length_take] at hm
      rw [List.getElem_take] at em
      obtain ⟨hjl, ej⟩ := List.getElem?_eq_some_iff.mp hk
      have := List.pairwise_iff_getElem.mp hpw m j (by omega) hjl (by omega)
      unfold ltN
      exact decide_eq_false (by omega)
  · rintro _ ⟨τ', hl', rfl, I', oh', H', ot', ol', hpm, hst⟩
    rw [natL_len, List.take_length] at hpm hst
    refine S_nil ?_
    have l1 := hpm.length_eq
    rw [List.length_append] at l1
    refine next s1 τ' hl' ⟨I', g1.trans W.hS, g2.trans W.ord, g3.trans W.up, g5, ?_, by rw [g7, W.pa, l1]; omega, g8.trans W.fi, oh', H', ot', ol'⟩ g6 hpm fun e hpw => ?_
    · rw [g4, g6]; exact si1.perm hpm.symm
    · obtain ⟨a1, a2⟩ := st e
      rw [← a2] at hpw ⊢
      exact hst a1 hpw


end
section


theorem Out.sub {s : Srt} {τ τ' : AHeap} {a : Addr} {o : AObj} (h : Out s τ a o) (u : τ.Sub τ') : Out s τ' a o := ⟨u _ _ h.1, h.2⟩
section
variable {L ca oa ra : Addr} {N : Nat} {code : List Nat} {σ τ τ' : AHeap} {S0 ha ta la : Addr} {s : Srt} {v3 : Option PV} {i : Nat} {hl : List Nat}
theorem SrI.sub (I : SrI L ca oa N code σ τ s v3) (u : τ.Sub τ') : SrI L ca oa N code σ τ' s v3 := { I with at_ := I.at_.sub u, old := fun a o e => (I.old a o e).sub u, busy := I.busy.sub u }
theorem LW.sub (W : LW L ca oa ra N code σ τ S0 ha ta la s v3 i hl) (u : τ.Sub τ') : LW L ca oa ra N code σ τ' S0 ha ta la s v3 i hl :=
  { W with I := W.I.sub u, heap := W.heap.sub u, told := W.told.sub u, left := W.left.sub u }
theorem LW.bset (W : LW L ca oa ra N code σ τ S0 ha ta la s v3 i hl) (D : Ads L σ ha ta la) (w : Option PV) : LW L ca oa ra N code σ (τ.set (L + 1 + 1 + 1) (.cell w)) S0 ha ta la s w i hl :=
  { W with I := W.I.bset D.fb w, heap := W.heap.set (Ne.symm D.n4), told := W.told.set (Ne.symm D.n5), left := W.left.set (Ne.symm D.n6) }
end
theorem upv_no {N : Nat} {code : List Nat} {k : Nat} : intNo (upv N code k) = true := by unfold upv; split <;> rfl
variable {w : World} {base : Heap} {os : OsState} {mb : Str → Option Value}
noncomputable def tlB4 : List Stmt := match tlB3 with | _ :: r => r | _ => []
noncomputable def tlB5 : List Stmt := match tlB4 with | _ :: r => r | _ => []
noncomputable abbrev muG (sc ca S ha ta la : Addr) (rl : List Nat) : Locals := muL sc ca S ha ta la ++ [(Str.ofString "group", .tup (natL rl))]
set_option maxHeartbeats 2000000 in
theorem step_check (B : Bs (G w base os mb)) {n : Nat} {A : Around} {env : Env} {L sc ca oa : Addr} {N : Nat} {code : List Nat} (C : CodeOk N code) (hN : N ≤ 65) {σ τ : AHeap} {S0 ha ta la ra : Addr} {s : Srt} {v3 : Option PV} {i : Nat} {hl rl : List Nat} {Q : AFlow → St → Prop} (hsc : env.scope = (fdAt 202).scope)
    (hce : env.cells = [(Str.ofString "busy", L + 1 + 1 + 1), (Str.ofString "over", L + 1 + 1), (Str.ofString "size", L + 1)])
    (D : Ads L σ ha ta la) (W : LW L ca oa ra N code σ τ S0 ha ta la s v3 i hl) (hn : hl.Nodup) (hm : ∀ k, k ∈ hl ↔ k ∈ freT N code ((allG N code).take i)) (h64 : hl.length < 64 ∨ (hl.length = 64 ∧ hl.Pairwise (· < ·)))
    (next : ∀ τ' v3', LW L ca oa ra N code σ τ' S0 ha ta la s v3' i hl → seqQ ⟨G w base os mb, ⟨n + 6, true⟩, A, env⟩ tlB5 Q .next (muG sc ca S0 ha ta la rl, τ')) :
    seqQ ⟨G w base os mb, ⟨n + 6, true⟩, A, env⟩ tlB3 Q .next (muG sc ca S0 ha ta la rl, τ) := by
  have hll := lefT_len (N := N) (dn := (allG N code).take i)
  have hl2 := W.left.1
  refine seqQ_next ?_
  refine S_seq ?_
  refine S_Assign ?_ (swaps_of hsc rfl)
  refine E_ListComp (cl := [(Str.ofString "over", L + 1 + 1)]) rfl (closure_of hce rfl) (by decide) rfl (by decide) (fun x => rfl) ?_
  repeat walk_at "s1"
  refine ⟨_, _, it_list (seq_of hl2), comp_pure (fun k => ((lefT N ((allG N code).take i))[k]?).map fun v => upv N code v) (by rw [natL_len]; omega) (fun τ h => seq_of (h _ _ hl2)) ?_ ?_⟩
  · intro c' hcx hlx hsc' hce' k p τ' hp hsub
    obtain ⟨g', lv', A', env'⟩ := c'
    obtain rfl : g' = G w base os mb := hcx
    obtain rfl : lv' = ⟨n + 6, true⟩ := hlx
    obtain ⟨j, hj, rfl⟩ := natL_get hp
    have hjN := (lefT_mem.mp (List.mem_of_getElem? hj)).1
    have c2 := hsub _ _ (W.I.old _ _ W.I.c2).1
    refine Asg_local (by walk_at "kd") ?_
    repeat walk_at "s1"
    refine ⟨fun _ => ?_, fun h => (by cases h)⟩
    repeat walk_at "s1"
    refine get_list (p := upv N code j) (seq_of (hsub _ _ (W.I.old _ _ W.I.ov).1)) (Int.natCast_nonneg _) (by rw [Int.toNat_natCast, List.getElem?_map, List.getElem?_range hjN]; rfl) (by rw [List.length_map, List.length_range]; omega) ?_
    exact ⟨by rw [hj]; rfl, .refl _⟩
  intro ba τ1 u1 hb0 hb
  rw [natL_len, compL_map] at hb
  have W := W.sub u1
  refine W1_storeCell (by walk_at "kd") (by walk_at "ce") W.I.busy.1 ?_
  have hb := (NC.cell (w := some (.ref ba)) W.I.busy.1).list hb
  have W := W.bset D (some (.ref ba))
  generalize τ1.set (L + 1 + 1 + 1) (.cell (some (.ref ba))) = τ at W hb ⊢
  clear u1 hb0 hl2
  have hh := W.heap.1
  have hl2 := W.left.1
  refine seqQ_next ?_
  refine S_seq ?_
  repeat walk_at "s1"
  refine call_sortedI (ns := hl.map fun (k : Nat) => (k : Int)) (seq_of (by rw [hh]; unfold intL; rw [List.map_map]; rfl)) (by
    rw [List.length_map]
    exact h64.imp id fun ⟨a, b⟩ => ⟨a, by rw [List.pairwise_map]; exact b.imp fun h => by omega⟩) fun sa hsa => ?_
  rw [sort_free hn hm]
  have hsa : τ sa = none := hsa
  have u2 := AHeap.sub_set (.list (intL ((freT N code ((allG N code).take i)).map fun (k : Nat) => (k : Int)))) hsa
  have W := W.sub u2
  have hb := u2 _ _ hb
  have hl2 := u2 _ _ hl2
  have hsl : (τ.set sa (.list (intL ((freT N code ((allG N code).take i)).map fun (k : Nat) => (k : Int))))) sa = some (.list (intL ((freT N code ((allG N code).take i)).map fun (k : Nat) => (k : Int)))) := at_set_same
  generalize τ.set sa (.list (intL ((freT N code ((allG N code).take i)).map fun (k : Nat) => (k : Int)))) = τ at W hb hl2 hsl ⊢
  clear u2 hsa hh
  refine E_ListComp (cl := [(Str.ofString "busy", L + 1 + 1 + 1)]) rfl (closure_of hce rfl) (by decide) rfl (by decide) (fun x => rfl) ?_
  repeat walk_at "s1"
  refine ⟨_, _, it_list (seq_of hl2), comp_pure (fun k => ((lefT N ((allG N code).take i))[k]?).bind fun (w : Nat) => if (!(((lefT N ((allG N code).take i)).map (upv N code)).any (isI (w : Int)))) = true then some (.int (w : Int)) else none) (by rw [natL_len]; omega) (fun τ h => seq_of (h _ _ hl2)) ?_ ?_⟩
  · intro c' hcx hlx hsc' hce' k p τ' hp hsub
    obtain ⟨g', lv', A', env'⟩ := c'
    obtain rfl : g' = G w base os mb := hcx
    obtain rfl : lv' = ⟨n + 6, true⟩ := hlx
    obtain ⟨j, hj, rfl⟩ := natL_get hp
    have c3 := hsub _ _ W.I.busy.1
    refine Asg_local (by walk_at "kd") ?_
    repeat walk_at "s1"
    refine notin_list (seq_of (hsub _ _ hb)) (fun p hp => by obtain ⟨v, _, rfl⟩ := List.mem_map.mp hp; exact upv_no) ?_
    repeat walk_at "s1"
    refine ⟨fun hb => ?_, fun hb => ?_⟩
    · repeat walk_at "s1"
      exact ⟨by rw [hj, Option.bind_some, if_pos hb], .refl _⟩
    · exact ⟨by rw [hj, Option.bind_some, if_neg (by rw [hb]; simp)], .refl _⟩
  intro fa τ2 u2 hf0 hf
  rw [natL_len, compL_if] at hf
  have W := W.sub u2
  refine cmp_ne_same (l := (freT N code ((allG N code).take i)).map fun (k : Nat) => (k : Int)) (seq_of (u2 _ _ hsl)) (seq_of (by rw [hf]; unfold intL freT; rw [List.map_map]; rfl)) ?_
  refine truthy_b (ifQ_false (S_nil ?_))
  exact next τ2 _ W


end
section


variable {w : World} {base : Heap} {os : OsState} {mb : Str → Option Value}
set_option maxHeartbeats 2000000 in
theorem step_pop (B : Bs (G w base os mb)) {n : Nat} {A : Around} {env : Env} {L sc ca oa : Addr} {N : Nat} {code : List Nat} (C : CodeOk N code) (hN : N ≤ 65) {σ τ : AHeap} {S0 ha ta la ra : Addr} {s : Srt} {v3 : Option PV} {i : Nat} {hl rl : List Nat} {Q : AFlow → St → Prop} (hsc : env.scope = (fdAt 202).scope)
    (hce : env.cells = [(Str.ofString "busy", L + 1 + 1 + 1), (Str.ofString "over", L + 1 + 1), (Str.ofString "size", L + 1)]) (hperm : (ordK N code (N - 1)).Perm (List.range N))
    (D : Ads L σ ha ta la) (W : LW L ca oa ra N code σ τ S0 ha ta la s v3 i hl) (hi : i < N) (hm : ∀ k, k ∈ hl ↔ k ∈ freT N code ((allG N code).take i)) (hne : hl ≠ [])
    (next : ∀ s' τ' hl' (x : Nat), LW L ca oa ra N code σ τ' S0 ha ta la s' v3 (i + 1) hl' → Q .next (muG sc ca S0 ha ta la rl ++ [(Str.ofString "k", .int (x : Int))], τ')) :
    seqQ ⟨G w base os mb, ⟨n + 6, true⟩, A, env⟩ tlB5 Q .next (muG sc ca S0 ha ta la rl, τ) := by
  have hol : (ordK N code (N - 1)).length = N := by rw [hperm.length_eq, List.length_range]
  have room := W.si.room
  rw [hol] at room
  have hup2 : ∀ k ∈ ordK N code (N - 1), ∀ u, upP N code k = some u → u ∈ ordK N code (N - 1) ∧ u ≠ k := fun k hk u e => by
    refine ⟨hperm.mem_iff.mpr ?_, fun q => by have := up_later C e; rw [q] at this; exact Nat.lt_irrefl _ this⟩
    obtain ⟨j, hj, rfl, _⟩ := up_some C e
    obtain ⟨u', e', hl'⟩ := up_lt C (gone_spec C hj).1
    rw [e] at e'
    rw [Option.some.inj e']; simpa using hl'
  refine seqQ_next ?_
  refine S_seq ?_
  repeat walk_at "s1"
  refine WN_call (pop_call B items_N W.heap.1 (by omega) hne W.H ltN_irr fun x hl2 hp2 hH2 hmin => ?_)
  have hx : x ∈ hl := hp2.mem_iff.mpr (List.mem_cons_self ..)
  have hall := pop_is C hi hm hx fun k hk => by have := hmin k hk; unfold ltN at this; have := of_decide_eq_false this; omega
  have htk := take_snoc hall
  have hxl := lefT_mem.mp ((List.mem_filter.mp ((hm x).mp hx)).1)
  have hxm : x ∈ lefT N ((allG N code).take i) := (List.mem_filter.mp ((hm x).mp hx)).1
  have I1 := W.I.oset (o' := .list (hl2.map fun k : Nat => PV.int (k : Int))) W.heap D.fh D.n4
  have oh := W.heap.here (o' := .list (hl2.map fun k : Nat => PV.int (k : Int)))
  have ot := W.told.set (o' := .list (hl2.map fun k : Nat => PV.int (k : Int))) (Ne.symm D.n1)
  have ol := W.left.set (o' := .list (hl2.map fun k : Nat => PV.int (k : Int))) (Ne.symm D.n2)
  generalize τ.set ha (.list (hl2.map fun k : Nat => PV.int (k : Int))) = τ1 at I1 oh ot ol ⊢
  have si1 := W.si.perm hp2
  obtain ⟨d1, d2, d3⟩ := SInv.doneAll hup2 [x] (out := hl2) si1
  have A1 := I1.at_
  have hS := W.hS
  refine W1_store (by walk_at "kd") ?_
  refine seqQ_next ?_
  refine S_seq ?_
  refine S_Expr ?_ (by unfold PySem.interactive; walk_at "kd") rfl
  refine E_MethI B.K (t_m6 _) (by rfl) ?_ rfl rfl rfl
  repeat walk_at "s1"
  refine ⟨⟨s.S, s.D, s.al, by rw [hS], A1.inst, A1.attrs, rfl⟩, ?_⟩
  repeat walk_at "s1"
  have l2 := hp2.length_eq
  rw [List.length_cons] at l2
  refine WN_call (done_call B A1 hS W.rdy (l := [x]) (by simp) (fun j hj => ?_) (fun j k hk => ?_) fun s5 τ5 A5 F5 v5 => ?_)
  · have := d2 j hj
    rw [W.up]
    simp at this ⊢
    omega
  · have := d1 j k hk
    rw [W.up]
    exact ⟨by rw [W.ord]; exact this.1, this.2⟩
  obtain ⟨f1, f2, f3, f4, f5, f6, f7, f8⟩ : s5.S = s.S ∧ s5.order = s.order ∧ s5.up = s.up ∧ s5.np = (dall s.up (s.np, s.rl) [x]).1 ∧ s5.rdy = some ra ∧ s5.rl = (dall s.up (s.np, s.rl) [x]).2 ∧ s5.pa = s.pa ∧ s5.fi = s.fi + (([x] : List Nat).length : Int) := v_inv v5
  rw [W.up] at f4 f6
  have I5 := I1.fr A5 F5
  have oh := oh.fr F5
  have ot := ot.fr F5
  have ol := ol.fr F5
  have c2 := (I5.old _ _ I5.c2).1
  clear A1 I1 F5 A5
  refine seqQ_next ?_
  refine S_seq ?_
  refine S_Expr ?_ (by unfold PySem.interactive; walk_at "kd") rfl
  refine E_MethList (id := "list.remove") F.slot_list_remove F.type_list_remove ?_ rfl rfl rfl rfl rfl
  repeat walk_at "s1"
  refine ⟨⟨_, _, rfl, seq_of ol.1⟩, ?_⟩
  repeat walk_at "s1"
  obtain ⟨q1, q2⟩ := idx_first hxm
  have ol1 := ol.1
  rw [natL_int] at ol1
  have hll := lefT_len (N := N) (dn := (allG N code).take i)
  refine remove_int (i := (x : Int)) (j := (lefT N ((allG N code).take i)).idxOf x) ol1 (by rw [List.length_map]; omega) (by rw [List.getElem?_map, q1]; rfl) (fun m hm e => q2 m hm ?_) ?_
  · rw [List.getElem?_map] at e
    cases z : (lefT N ((allG N code).take i))[m]? with
    | none => rw [z] at e; cases e
    | some y => rw [z] at e; rw [Int.ofNat.inj (Option.some.inj e)]
  rw [map_erase, erase_left hxm, ← htk, ← natL_int]
  have I6 := I5.oset (o' := .list (natL (lefT N ((allG N code).take (i + 1))))) ol D.fl D.n6
  have oh := oh.set (o' := .list (natL (lefT N ((allG N code).take (i + 1))))) D.n2
  have ot := ot.set (o' := .list (natL (lefT N ((allG N code).take (i + 1))))) D.n3
  have ol := ol.here (o' := .list (natL (lefT N ((allG N code).take (i + 1)))))
  have c2 := (I6.old _ _ I6.c2).1
  have ho := (I6.old _ _ I6.ov).1
  generalize τ5.set la (.list (natL (lefT N ((allG N code).take (i + 1))))) = τ6 at I6 oh ot ol c2 ho ⊢
  clear I5 ol1
  refine seqQ_next ?_
  refine S_last ?_
  refine S_Expr ?_ (by unfold PySem.interactive; walk_at "kd") rfl
  refine E_MethList (id := "list.append") F.slot_list_append F.type_list_append ?_ rfl rfl rfl rfl rfl
  repeat walk_at "s1"
  refine ⟨⟨_, _, rfl, seq_of ot.1⟩, ?_⟩
  repeat walk_at "s1"
  refine get_list (p := upv N code x) (seq_of ho) (Int.natCast_nonneg _) (by rw [Int.toNat_natCast, List.getElem?_map, List.getElem?_range hxl.1]; rfl) (by rw [List.length_map, List.length_range]; omega) ?_
  repeat walk_at "s1"
  refine append_list ot.1 (by rw [List.length_map, List.length_take]; omega) ?_
  have et : ((allG N code).take (i + 1)).map (upv N code) = ((allG N code).take i).map (upv N code) ++ [upv N code x] := by rw [htk, List.map_append]; rfl
  rw [← et]
  rw [← htk] at d3
  refine next s5 _ hl2 x ⟨I6.oset ot D.ft D.n5, f1.trans W.hS, f2.trans W.ord, f3.trans W.up, f5, ?_, ?_, ?_, oh.set D.n1, hH2, ot.here, ol.set (Ne.symm D.n3)⟩
  · rw [f4, f6]; exact d3
  · rw [f7, W.pa, l2]; omega
  · rw [f8, W.fi]; rfl


end
section


variable {w : World} {base : Heap} {os : OsState} {mb : Str → Option Value}
theorem codeList {N : Nat} {code : List Nat} (C : CodeOk N code) : (allG N code).map (upv N code) = natL code ++ [.int ((N - 1 : Nat) : Int), .none] := by
  have h := told_all C
  have e : (allG N code).map (upv N code) = ((allG N code).map (upP N code)).map fun o => match o with | none => .none | some u => PV.int (u : Int) := by
    rw [List.map_map]; rfl
  rw [e, h]
  unfold cod2 natL
  simp
noncomputable def WhI (L sc ca oa ra : Addr) (N : Nat) (code : List Nat) (σ : AHeap) (S0 ha ta la : Addr) (m : Nat) (st : St) : Prop := ∃ i τ s v3 hl, m + i = N ∧ st = (muL sc ca S0 ha ta la, τ) ∧ LW L ca oa ra N code σ τ S0 ha ta la s v3 i hl ∧ Star N code s i hl
set_option maxHeartbeats 2000000 in
theorem law_while (B : Bs (G w base os mb)) {n : Nat} {A : Around} {env : Env} {L sc ca oa : Addr} {N : Nat} {code : List Nat} (C : CodeOk N code) (hN : N ≤ 65) {σ τ : AHeap} {S0 ha ta la ra : Addr} {s : Srt} {Q : AFlow → St → Prop} (hsc : env.scope = (fdAt 202).scope)
    (hce : env.cells = [(Str.ofString "busy", L + 1 + 1 + 1), (Str.ofString "over", L + 1 + 1), (Str.ofString "size", L + 1)]) (hperm : (ordK N code (N - 1)).Perm (List.range N))
    (D : Ads L σ ha ta la) (W0 : LW L ca oa ra N code σ τ S0 ha ta la s none 0 []) (st0 : Star N code s 0 [])
    (hQ : ∀ st, Q (.ret (.bool true)) st) :
    seqQ ⟨G w base os mb, ⟨n + 6, true⟩, A, env⟩ tlW9 Q .next (muL sc ca S0 ha ta la, τ) := by
  have hzz := C.size
  have hol : (ordK N code (N - 1)).length = N := by rw [hperm.length_eq, List.length_range]
  have hal : (allG N code).length = N := by rw [(all_perm C).length_eq, List.length_range]
  refine seqQ_next ?_
  refine S_seq ?_
  refine S_while (WhI L sc ca oa ra N code σ S0 ha ta la) N _ ⟨0, τ, s, none, [], rfl, rfl, W0, st0⟩ (St.le_refl _) ?_
  clear W0 st0
  rintro m _ ⟨i, τ, s, v3, hl, hmi, rfl, W, st⟩
  have room := W.si.room
  rw [hol, List.length_take, hal] at room
  refine C_value ?_ rfl
  refine E_MethI0 B.K (t_m5 _) (by rfl) ?_ rfl
  repeat walk_at "s1"
  refine ⟨⟨s.S, s.D, _, by rw [W.hS], W.I.at_.inst, W.I.at_.attrs, rfl⟩, WN_call (active_call B W.I.at_ W.hS W.rdy (by omega) ?_)⟩
  repeat walk_at "s1"
  rw [W.pa, W.fi]
  refine ⟨fun hb => ?_, fun hb => ?_⟩
  · have hne : hl ++ s.rl ≠ [] := fun q => by
      obtain ⟨q1, q2⟩ := List.append_eq_nil_iff.mp q
      rw [q1, q2] at hb; simp at hb
    have hpos : 0 < hl.length + s.rl.length := by rw [← List.length_append]; exact List.length_pos_iff.mpr hne
    have hi : i < N := by omega
    refine step_push B C hN hsc hperm D W st fun s2 τ2 hl2 W2 r2 hp2 hst2 => ?_
    have si2 := W2.si
    rw [r2] at si2
    have hn2 : hl2.Nodup := by have := si2.nd; rw [List.append_nil] at this; exact this
    have hm2 : ∀ k, k ∈ hl2 ↔ k ∈ freT N code ((allG N code).take i) := fun k => by
      have := si2.iff k
      rw [List.append_nil] at this
      rw [this, freT_mem, cnt_zero, hperm.mem_iff, List.mem_range]
      exact ⟨fun ⟨a, b, c⟩ => ⟨a, b, fun v hv => c v (hperm.mem_iff.mpr (by simpa using hv))⟩, fun ⟨a, b, c⟩ => ⟨a, b, fun v hv => c v (by have := hperm.mem_iff.mp hv; simpa using this)⟩⟩
    have h64 : hl2.length < 64 ∨ (hl2.length = 64 ∧ hl2.Pairwise (· < ·)) := by
      rcases few_out C hN hi hn2 hm2 with h | ⟨h, e, hu⟩
      · exact .inl h
      · exact .inr ⟨h, by rw [hst2 e (star_asc C hu)]; exact star_asc C hu⟩
    refine step_check B C hN hsc hce D W2 hn2 hm2 h64 fun τ3 v4 W3 => ?_
    refine step_pop B C hN hsc hce hperm D W3 hi hm2 (fun q => by rw [q] at hp2; exact hne (hp2.symm.eq_nil)) fun s4 τ4 hl4 x W4 => ?_
    exact loopQ_next (m - 1) (by omega) ⟨i + 1, τ4, s4, _, hl4, by omega, rfl, W4, fun q => by omega⟩ (St.le_app (.refl _))
  · have hl0 : hl = [] := by
      rw [Bool.or_eq_false_iff] at hb
      have := of_decide_eq_false hb.1
      exact List.length_eq_zero_iff.mp (by omega)
    have rl0 : s.rl = [] := by
      rw [Bool.or_eq_false_iff] at hb
      have := hb.2; simpa using this
    have si := W.si
    rw [hl0, rl0] at si
    have hle : ∀ v, (dec N code (code.length + 1)).idxOf v ≤ code.length + 1 := fun v => by have := List.idxOf_le_length (l := dec N code (code.length + 1)) (a := v); rw [dec_len] at this; exact this
    have hall : ∀ k ∈ ordK N code (N - 1), k ∈ (allG N code).take i := by
      have : ∀ d, ∀ k ∈ ordK N code (N - 1), (dec N code (code.length + 1)).idxOf k ≤ d → k ∈ (allG N code).take i := by
        intro d
        induction d with
        | zero =>
          intro k hk hd
          refine Classical.byContradiction fun e => ?_
          have := (si.iff k).mpr ⟨hk, e, cnt_zero.mpr fun v hv hvd q => by have := up_later C q; omega⟩
          simp at this
        | succ d ih =>
          intro k hk hd
          refine Classical.byContradiction fun e => ?_
          have := (si.iff k).mpr ⟨hk, e, cnt_zero.mpr fun v hv hvd q => hvd (ih v hv (by have := up_later C q; omega))⟩
          simp at this
      exact fun k hk => this _ k hk (Nat.le_refl _)
    have hiN : i = N := by
      have := List.Nodup.length_le_of_subset List.nodup_range (l₁ := List.range N) (l₂ := (allG N code).take i) fun k hk => hall k (hperm.mem_iff.mpr hk)
      rw [List.length_range, List.length_take, hal] at this
      omega
    have ot := W.told.1
    rw [hiN, List.take_of_length_le (by omega), codeList C] at ot
    have cd := (W.I.old _ _ W.I.cd).1
    have c1 := (W.I.old _ _ W.I.c1).1
    refine S_nil ?_
    refine seqQ_next ?_
    refine S_last ?_
    refine S_Return ?_
    refine E_Compare ?_ rfl
    repeat walk_at "s1"
    refine ⟨by simp, fun e he => ?_⟩
    have he : τ e = none := he
    rw [show ((N : Int) - 1) = ((N - 1 : Nat) : Int) by omega]
    have s1 := AHeap.sub_set (.list [.int ((N - 1 : Nat) : Int), .none]) he
    refine bin_addL (seq_of (s1 _ _ cd)) (seq_of at_set_same) (by rw [natL_len]; simp; omega) fun r hr => ?_
    have hr : (τ.set e (.list [.int ((N - 1 : Nat) : Int), .none])) r = none := hr
    have s2 := AHeap.sub_set (.list (natL code ++ [.int ((N - 1 : Nat) : Int), .none])) hr
    refine cmp_lists_eq (n := 0) (e := fun _ => true) (seq_of (s2 _ _ (s1 _ _ ot))) (seq_of at_set_same) rfl (fun j p q h1 h2 => ?_) (Nat.zero_le _) ?_
    · rw [h1] at h2
      obtain rfl := Option.some.inj h2
      have hp : (∃ z, p = .int z) ∨ p = .none := by
        rcases List.mem_append.mp (List.mem_of_getElem? h1) with m | m
        · obtain ⟨k, _, rfl⟩ := List.mem_map.mp m; exact .inl ⟨_, rfl⟩
        · simp at m
          rcases m with rfl | rfl
          · exact .inl ⟨_, rfl⟩
          · exact .inr rfl
      rcases hp with ⟨z, rfl⟩ | rfl
      · have := EqR.int (σ := (τ.set e (.list [.int ((N - 1 : Nat) : Int), .none])).set r (.list (natL code ++ [.int ((N - 1 : Nat) : Int), .none]))) (n := 0) z z
        rw [show (z == z) = true by simp] at this
        exact this
      · exact .none
    rw [show ∀ k, (List.range k).all (fun _ => true) = true from fun k => List.all_eq_true.mpr fun _ _ => rfl]
    exact hQ _
set_option maxHeartbeats 1000000 in
theorem law_call (B : Bs (G w base os mb)) {n : Nat} {sc : Addr} {ns : List Int} {σ : AHeap} {Q : PV → AHeap → Prop} (hs : seqAt σ sc = some (intL ns)) (hz : ns.length ≤ 63) (hQ : ∀ τ, Q (.bool true) τ) :
    CallS (G w base os mb) ⟨n + 7, true⟩ (.ref 202) [.ref sc] Q σ := by
  refine call_def (fd := fdAt 202) (body := bdAt 202) [Str.ofString "script"] B.gd (B.fn 202 (by simp)).get rfl rfl (B.fn 202 (by simp)).code rfl rfl rfl rfl rfl rfl (by decide) rfl (fun vs hv => ?_) (fun i => rfl) (fun i => ?_) ?_
  · obtain ⟨v1, rfl⟩ := len1 hv; rfl
  · show ((true && (some (i + 1 + 1) == some (i + 1 + 1))) && ((true && (some (i + 1) == some (i + 1))) && ((true && (some i == some i)) && true))) = true
    simp
  intro c L hc hlv hsc hce hq hf
  obtain ⟨g, lv, A, env⟩ := c
  subst hc hlv
  show WS _ (bdAt 202) _ ([(Str.ofString "script", .ref sc)], (((σ.set (L + 1) (.cell none)).set (L + 1 + 1) (.cell none)).set (L + 1 + 1 + 1) (.cell none)))
  have C := ce0 hf
  generalize (((σ.set (L + 1) (.cell none)).set (L + 1 + 1) (.cell none)).set (L + 1 + 1 + 1) (.cell none)) = σ1 at C ⊢
  have hce2 : env.cells = [(Str.ofString "busy", L + 1 + 1 + 1), (Str.ofString "over", L + 1 + 1), (Str.ofString "size", L + 1)] := hce.trans rfl
  have hok := code_ok (ns := ns) rfl
  clear hq hf
  refine law_over B rfl hs hz hsc hce2 C fun τ1 ca oa C1 hcd hov => ?_
  refine law_add B hok (by omega) hsc hce2 C1 hcd hov fun s τ2 I v => ?_
  refine law_prep B hok (by omega) hsc hce2 (AHeap.del_same _ _) I v fun ha ta la ra s' τ' D W st hp => ?_
  exact law_while B hok (by omega) hsc hce2 hp D W st fun st => hQ st.2


end
end
end Mine
end
section
open PySem PySem.W
set_option Elab.async false
set_option linter.unusedVariables false
set_option maxRecDepth 100000
namespace Mine
open PySem.W.X PyProof.Rows
theorem said0 : PySem.Challenge.rw_dn0048_09.wellSaid = true := by kernel_rfl
theorem opened (h : PySem.Challenge.rw_dn0048_09.row.wellSaid = true → PySem.Challenge.rw_dn0048_09.row.Holds) : PySem.Challenge.rw_dn0048_09.Holds := holds_law said0 h
/-- the top in one look -/
theorem left_of {p q : Program} {loose : List Str} {Xt : Shared → Bool} {α : Type} {Yf : Shared → α} {Ya : World → α} {N : Nat}
    (open_ : ∀ w : World, (fencedOpening treeTable p w N).map (fun s => (s.heap, s.gens, s.drawn, s.toks)) = some (boot_heap w.params, Array.mk [], boot_drawn, boot_toks))
    (h : ∀ (w : World) (os : OsState), (topFrom treeTable p w N ⟨boot_heap w.params, Array.mk [], boot_drawn, boot_toks, os⟩).map (fun s => (openSeen q loose (importedModules p.main.body) Xt true s, Yf s)) = some (openGood q loose, Ya w)) : LeftO p q loose Xt Yf Ya N := fun w => by
  obtain ⟨⟨h0, gs, d, k, os⟩, e, e'⟩ := Option.map_eq_some_iff.mp (open_ w)
  obtain ⟨rfl, rfl, rfl, rfl⟩ : h0 = _ ∧ gs = _ ∧ d = _ ∧ k = _ := by simpa using e'
  unfold openEnds
  rw [e]
  exact h w os
noncomputable abbrev P0 : Program := PySem.Challenge.rw_dn0048_09.row.toRowW.prog
theorem boot0 : ∀ w : World, (fencedOpening treeTable P0 w 2842).map (fun s => (s.heap, s.gens, s.drawn, s.toks)) = some (boot_heap w.params, Array.mk [], boot_drawn, boot_toks) :=
  boot_open (by kernel_rfl) (by decide) (fun s => by kernel_rfl)
noncomputable abbrev loose0 : List Str := ["_wall", "_NODE_OUT", "_NODE_DONE", "_NodeInfo", "CycleError", "TopologicalSorter", "insort_right", "bisect_right", "heappush", "heappop", "_siftdown", "_siftup", "_law_pairs", "_law_over"]
theorem head0 (w : World) (os : OsState) : (topFrom treeTable P0 w 2842 ⟨boot_heap w.params, Array.mk [], boot_drawn, boot_toks, os⟩).map (fun s => (openSeen (view P0 [18]) loose0 (importedModules P0.main.body) (fun s => xlAt (view P0 [18]) [] s && recOk (RowW.records PySem.Challenge.rw_dn0048_09.row.toRowW) s) true s, obsZ as0 s)) = some (openGood (view P0 [18]) loose0, valZ KF 203 469 w) := by
  unfold topFrom P0
  rw [PySem.W.Fast.te14082659384304107361, PySem.W.Fast.te14364793385576792824, PySem.W.Fast.te4187177175401517315, PySem.W.Fast.te5923862056798008813, PySem.W.Fast.te2368527892694137696]
  kernel_rfl
end Mine

end
section
open PySem PySem.W
set_option Elab.async false
set_option linter.unusedVariables false
set_option maxRecDepth 100000
namespace Mine
theorem mg_is {p : Params} {h : Heap} {ob : Obj} {n : Nat} (K : h.get? mainGlobals = some ob) (hd : ob.data = .dict (esW p) n) {mg : Str → Option Value} (hn : h.Ns mainGlobals mg) : mg = mgW p := by
  obtain ⟨o, es, ep, h1, h2, _, h3⟩ := hn
  rw [K] at h1
  have e := Option.some.inj h1
  subst e
  rw [hd] at h2
  injection h2 with e1 e2
  subst e1
  funext x
  exact (h3 x).symm
set_option maxHeartbeats 2000000 in
theorem finish09 {w : World} {s₁ : Shared} {mg mb : Str → Option Value} {items : Array Value} {ns : List Int} (hB : ∀ mg, mg = mgW w.params → s₁.heap.Ns mainGlobals mg → Bs ⟨PySem.Challenge.rw_dn0048_09.row.prog, w, s₁.heap, s₁.os, mg, mb⟩) (hmg : mg = mgW w.params) (hn : s₁.heap.Ns mainGlobals mg)
    (hobj : s₁.heap.get? 203 = some { cls := .type "list", data := .seq items }) (hI : PyProof.Rows.IntsAre items.toList ns) (hz : ns.length ≤ 63) (hg : s₁.gens = #[]) (htk : 0 < s₁.toks) :
    wpAny (model PySem.Challenge.rw_dn0048_09.row.prog w) callerA (call (.ref 202) [.ref 203]) (fun v s' => v = .bool true ∧ (∀ b o, s₁.heap.get? b = some o → s'.heap.get? b = some o) ∧ s'.os = s₁.os ∧ s'.gens = #[]) (fun _ _ => False) s₁ := by
  subst hmg
  have B : Bs (G w s₁.heap s₁.os mb) := hB _ rfl hn
  have C := law_call B (n := 10) (sc := 203) (ns := ns) (σ := AHeap.set (fun _ => none) 203 (.rlist (intL ns))) (seq_ofr at_set_same) hz (Q := fun p _ => p = .bool true) (fun _ => rfl)
  refine wpAny_call (codeAny_mono (C callerA [] [] [] s₁ [.ref 203] [] ?_ ?_ (.cons rfl .nil) .nil) fun r s' x => ?_)
  · exact ⟨rfl, by simp, fun _ => rfl, by decide +kernel, by decide +kernel⟩
  · refine ⟨fun _ _ h => h, hg, rfl, by simp, by simp, by simp, by simp, fun a o h => ?_, htk⟩
    by_cases ha : a = 203
    · rw [ha, AHeap.set_same] at h
      cases h
      rw [ha]
      exact ⟨items.toList, ⟨_, hobj⟩, intsAre_reps hI⟩
    · rw [AHeap.set_ne _ _ ha] at h; cases h
  · cases r with
    | error e => exact x.elim
    | ok f =>
      cases f with
      | ret v => obtain ⟨p, σ', R, hv, k, q⟩ := x; exact ⟨by rw [q] at hv; exact hv, R.stays, R.os, R.gens⟩
      | next => exact False.elim x
      | brk => exact False.elim x
      | cont => exact False.elim x
end Mine
open PySem.W.X PySem.W.ZRun PyProof.Rows
set_option maxHeartbeats 8000000 in
theorem PySem.Challenge.cw_dn0048_09_holds : PySem.Challenge.rw_dn0048_09.Holds := by
  w_on
  refine Mine.opened fun said => ?_
  refine holds_openX (q := view Mine.P0 [18]) (loose := Mine.loose0) (Xt := fun s => xlAt (view Mine.P0 [18]) [] s && recOk (RowW.records PySem.Challenge.rw_dn0048_09.row.toRowW) s) (XP := XL (view Mine.P0 [18]) []) (Yf := obsZ Mine.as0) (Ya := valZ Mine.KF 203 469) (N := 2842)
    (Mine.left_of Mine.boot0 Mine.head0) (fun s e => xl_of s (Bool.and_eq_true_iff.mp e).1) XL.keeps (by rfl) (by rfl) (by rfl) (fun s e => recFacts_of (Bool.and_eq_true_iff.mp e).2) (by rfl) said (by decide +kernel) ⟨rfl, rfl, rfl, rfl, rfl, by decide +kernel⟩ ?hw ?hc
  (case hw => w_witness2)
  intro w s₀ s₁ mg mb G y fa o pm cd doc dV kV ho hd hcd hD hmg hg args vals as L hpre hlay hrd hwl hlo
  obtain ⟨_, ZI, ZN, ZT⟩ := z_facts (K := Mine.KF) (fun _ => rfl) y
  have KX : Frag.In (Mine.KF w.params) s₁.heap := InK.keeps w _ _ ZI L.keeps
  refine Ground.open G ?_
  intro T B D TE TW
  wrow_args hpre hlay hrd hwl hlo
  obtain ⟨hat, hsz⟩ := script_at L
  have htk := script_toks L ZT
  rw [ZN] at hat hsz
  subst hat
  x_fa T KX hmg
  rename Heap.IsList _ _ _ => hL
  rename IntsAre _ _ => hI
  rename ¬ ((63 : Int) < _) => hz
  have hB : ∀ mg, mg = Mine.mgW w.params → s₁.heap.Ns mainGlobals mg → Mine.Bs ⟨PySem.Challenge.rw_dn0048_09.row.prog, w, s₁.heap, s₁.os, mg, mb⟩ := by
    intro mg hm hn
    refine ⟨⟨hn, T.b, T.builtins, T.nolimit⟩, KX, ?_, ?_⟩
    · intro a ha
      simp only [List.mem_cons, List.not_mem_nil, or_false] at ha
      rcases ha with rfl | rfl | rfl | rfl | rfl | rfl | rfl | rfl | rfl | rfl | rfl | rfl | rfl | rfl | rfl | rfl | rfl | rfl
      all_goals exact ⟨KX _ _ rfl, _, _, _, _, rfl, KX _ _ rfl, rfl, rfl⟩
    · intro a ha
      simp only [List.mem_cons, List.not_mem_nil, or_false] at ha
      rcases ha with rfl | rfl
      all_goals exact ⟨_, ⟨_, _, _, KX _ _ rfl, rfl, by intro e he; simp at he; subst he; exact ⟨_, _, rfl⟩, fun _ => rfl⟩, rfl⟩
  have hmgw : mg = Mine.mgW w.params := Mine.mg_is (n := 24) (KX 3 _ rfl) rfl T.g
  refine wpAny_mono (Mine.finish09 hB hmgw T.g (script_obj L hL) (by simpa using hI) (by omega) hg (Nat.lt_of_lt_of_le (by decide) htk)) (fun v s' h => ?_) (fun e s' h => h.elim)
  obtain ⟨rfl, h1, h3, h4⟩ := h
  refine ⟨.inl ⟨.bool true, .bool true, [], rfl, fun _ => rfl, ReadsW.bool true, ?_, fun _ => ⟨List.nodup_nil, fun _ hm => (nomatch hm)⟩⟩, .of_keep h1, h3, .of_eq h4⟩
  first | rfl | wrow_post

end
