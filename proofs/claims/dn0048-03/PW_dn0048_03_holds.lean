import PyProof.Rows.All
import Wide.All
import OpenK.AllK
import Wide.FinOn
import OpenK.ZGo
import KE.KSuperObj
import Lean
import PySem.Challenge.RW_dn0048_03
set_option Elab.async false
set_option linter.unusedVariables false
set_option linter.unusedSectionVars false
set_option linter.unusedSimpArgs false
set_option maxRecDepth 100000
section
set_option Elab.async false
set_option linter.unusedVariables false
set_option linter.unusedSectionVars false
set_option linter.unusedSimpArgs false
set_option maxRecDepth 100000
section
open PySem PySem.W PyProof.Rows
set_option Elab.async false
set_option linter.unusedVariables false
namespace Mine

theorem runs_toks {M : Model} {Γ : Ctx} {p : Pos} {t : Sem PySem.Fin} {fs : List Frame} {s : Shared} {e : End} {s' : Shared} (h : Runs M Γ p t fs s e s') : s.toks ≤ s'.toks := by
  induction h <;> first
    | exact Nat.le_refl _
    | assumption
    | (rename_i h1 h2; exact Nat.le_trans h1 h2)
    | (simp only [setGen_toks] at *; omega)
    | (rename_i h1; exact Nat.le_trans (Nat.le_succ _) h1)
theorem wakes_toks {M : Model} {Γ : Ctx} {p : Pos} {g : Nat} {r : Resume} {s : Shared} {res : GenResult} {s' : Shared} (h : Wakes M Γ p g r s res s') : s.toks ≤ s'.toks := by
  unfold Wakes at h
  split at h
  · exact h.elim
  · split at h
    · obtain ⟨e₁, s₁, h1, _, _, rfl⟩ := h; have := runs_toks h1; exact this
    · obtain ⟨_, rfl⟩ := h; exact Nat.le_refl _
    · obtain ⟨_, rfl⟩ := h; exact Nat.le_refl _
  · obtain ⟨e₁, s₁, h1, _, _, rfl⟩ := h; have := runs_toks h1; exact this
  · obtain ⟨_, rfl⟩ := h; exact Nat.le_refl _
  · obtain ⟨_, rfl⟩ := h; exact Nat.le_refl _
theorem wp_toks {α : Type} (M : Model) (Γ : Ctx) (n : Nat) : ∀ (t : Sem α) (Q : α → Pos → Shared → Prop) (E : Value → Pos → Shared → Prop) (p : Pos) (s : Shared), n ≤ s.toks → Sem.wp M Γ t Q E p s →
    Sem.wp M Γ t (fun a p' s' => Q a p' s' ∧ n ≤ s'.toks) (fun e p' s' => E e p' s' ∧ n ≤ s'.toks) p s := by
  intro t
  induction t with
  | pure a => intro Q E p s hn h; rw [Sem.wp] at h ⊢; exact ⟨h, hn⟩
  | raise e => intro Q E p s hn h; rw [Sem.wp] at h ⊢; exact ⟨h, hn⟩
  | unsupported w => intro Q E p s hn h; rw [Sem.wp] at h; exact h.elim
  | finish w => intro Q E p s hn h; rw [Sem.wp] at h; exact h.elim
  | rule tag k ih => intro Q E p s hn h; rw [Sem.wp] at h ⊢; exact ih _ _ _ _ _ hn h
  | «at» tag k ih => intro Q E p s hn h; rw [Sem.wp] at h ⊢; exact ih _ _ _ _ _ hn h
  | load a part k ih => intro Q E p s hn h; rw [Sem.wp] at h ⊢; obtain ⟨o, ho, h⟩ := h; exact ⟨o, ho, ih _ _ _ _ _ hn h⟩
  | update a part f k ih => intro Q E p s hn h; rw [Sem.wp] at h ⊢; exact ⟨h.1, ih _ _ _ _ _ hn h.2⟩
  | alloc o k ih => intro Q E p s hn h; rw [Sem.wp] at h ⊢; exact ih _ _ _ _ _ hn h
  | loadIfAlive a k ih => intro Q E p s hn h; rw [Sem.wp] at h ⊢; exact ih _ _ _ _ _ hn h
  | point l k ih => intro Q E p s hn h; rw [Sem.wp] at h ⊢; exact ih _ _ _ _ _ hn h
  | register a k ih => intro Q E p s hn h; rw [Sem.wp] at h; exact h.elim
  | fresh k ih => intro Q E p s hn h; rw [Sem.wp] at h ⊢; exact ih _ _ _ _ _ (Nat.le_succ_of_le hn) h
  | ask k ih => intro Q E p s hn h; rw [Sem.wp] at h ⊢; exact ih _ _ _ _ _ hn h
  | choose src n k ih => intro Q E p s hn h; rw [Sem.wp] at h ⊢; exact ⟨h.1, ih _ _ _ _ _ hn h.2⟩
  | os q l k ih => intro Q E p s hn h; rw [Sem.wp] at h ⊢; exact ih _ _ _ _ _ hn h
  | call c hd g l k ih =>
    intro Q E p s hn h; rw [Sem.wp] at h ⊢
    obtain ⟨r, s', hr, h⟩ := h
    exact ⟨r, s', hr, ih _ _ _ _ _ (Nat.le_trans hn (runs_toks hr)) h⟩
  | handled own k ih => intro Q E p s hn h; rw [Sem.wp] at h ⊢; exact ih _ _ _ _ _ hn h
  | newGen c k ih => intro Q E p s hn h; rw [Sem.wp] at h ⊢; exact ih _ _ _ _ _ hn h
  | genState g k ih => intro Q E p s hn h; rw [Sem.wp] at h ⊢; obtain ⟨st, hst, h⟩ := h; exact ⟨st, hst, ih _ _ _ _ _ hn h⟩
  | resume g r l k ih => intro Q E p s hn h; rw [Sem.wp] at h ⊢; obtain ⟨res, s', hw, h⟩ := h; exact ⟨res, s', hw, ih _ _ _ _ _ (Nat.le_trans hn (wakes_toks hw)) h⟩
  | yield v g l k ih => intro Q E p s hn h; rw [Sem.wp] at h; exact h.elim
  | stack k ih => intro Q E p s hn h; rw [Sem.wp] at h ⊢; exact ih _ _ _ _ _ hn h
  | fork c k ih => intro Q E p s hn h; rw [Sem.wp] at h; exact h.elim
  | thread k ih => intro Q E p s hn h; rw [Sem.wp] at h ⊢; exact ih _ _ _ _ _ hn h
  | await a tk d l k ih => intro Q E p s hn h; rw [Sem.wp] at h; exact h.elim
theorem wpAny_toks {α : Type} {M : Model} {A : Around} {t : Sem α} {Q : α → Shared → Prop} {E : Value → Shared → Prop} {s : Shared} (h : wpAny M A t Q E s) :
    wpAny M A t (fun a s' => Q a s' ∧ s.toks ≤ s'.toks) (fun e s' => E e s' ∧ s.toks ≤ s'.toks) s := fun Γ p hΓ => wp_toks M Γ s.toks t _ _ p s (Nat.le_refl _) (h Γ p hΓ)
theorem newFunctionEnv_cells_toks {M : Model} {A : Around} {E : Value → Shared → Prop} {s : Shared} {scope : Scope} {globals : Addr} {binds : List (Str × Value)} {qual : Str} {func : Option Addr} {code : Value} {builtins : Addr} {Q : Env → Shared → Prop}
    (hk : scope.kind = .function)
    (hkind : ∀ x ∈ binds, scope.names.lookup x.1 = some .local ∨ (scope.names.lookup x.1 = some .cell ∧ ((cellsFrom (s.heap.objs.size + 1) scope.names []).lookup x.1).isSome = true))
    (hQ : ∀ env, env = newEnv scope s.heap.objs.size globals (cellsFrom (s.heap.objs.size + 1) scope.names []) qual func code none builtins →
      ∀ s', InCallC s env.locals (bindL env.kindOf binds fun _ => none) env.cells (bindC env.kindOf binds fun _ => none) s' → s.toks ≤ s'.toks → Q env s') :
    wpAny M A (newFunctionEnv scope globals [] binds qual func code none builtins) Q E s :=
  wpAny_mono (wpAny_toks (E := E) (Q := fun env s' => env = newEnv scope s.heap.objs.size globals (cellsFrom (s.heap.objs.size + 1) scope.names []) qual func code none builtins ∧ InCallC s env.locals (bindL env.kindOf binds fun _ => none) env.cells (bindC env.kindOf binds fun _ => none) s')
    (wpAny_newFunctionEnv_cells hk hkind fun env he s' hin => ⟨he, hin⟩)) (fun env s' h => hQ env h.1.1 s' h.1.2 h.2) fun _ _ x => x.1
end Mine
end
section
open PySem PySem.W PyProof.Rows
set_option Elab.async false
set_option linter.unusedVariables false
namespace Mine

/-- plain values -/
inductive PV where
  | none | bool (b : Bool) | int (i : Int) | str (s : Str) (t : Tok) | ref (a : Addr) | ty (n : String) | bi (n : String) | tup (l : List PV)
  deriving Inhabited

/-- a plain list, a plain tuple -/
def LI (h : Heap) (a : Addr) (vs : List Value) : Prop := ∃ n, h.get? a = some { cls := .type "list", dict := none, data := .seq vs.toArray n, slots := #[] }
def TU (h : Heap) (a : Addr) (vs : List Value) : Prop := ∃ n, h.get? a = some { cls := .type "tuple", dict := none, data := .seq vs.toArray n, slots := #[] }

mutual
def VRep (h : Heap) : PV → Value → Prop
  | .none, v => v = .none
  | .bool b, v => v = .bool b
  | .int i, v => ∃ t, v = .int i t
  | .str x t, v => v = .str x t
  | .ref a, v => v = .ref a
  | .ty n, v => v = .type n
  | .bi n, v => v = .builtin n
  | .tup l, v => ∃ a vs, v = .ref a ∧ TU h a vs ∧ VReps h l vs
def VReps (h : Heap) : List PV → List Value → Prop
  | [], vs => vs = []
  | p :: ps, vs => ∃ v r, vs = v :: r ∧ VRep h p v ∧ VReps h ps r
end

def Keeps (h h' : Heap) : Prop := ∀ a vs, TU h a vs → TU h' a vs
theorem Keeps.refl (h : Heap) : Keeps h h := fun _ _ x => x
theorem Keeps.trans {h₁ h₂ h₃ : Heap} (x : Keeps h₁ h₂) (y : Keeps h₂ h₃) : Keeps h₁ h₃ := fun a vs e => y a vs (x a vs e)

mutual
theorem VRep.mono {h h' : Heap} (k : Keeps h h') : ∀ {p : PV} {v : Value}, VRep h p v → VRep h' p v
  | .none, _, x | .bool _, _, x | .int _, _, x | .str _ _, _, x | .ref _, _, x | .ty _, _, x | .bi _, _, x => by simpa only [VRep] using x
  | .tup l, v, x => by
    simp only [VRep] at x ⊢
    obtain ⟨a, vs, e, ht, hr⟩ := x
    exact ⟨a, vs, e, k _ _ ht, VReps.mono k hr⟩
theorem VReps.mono {h h' : Heap} (k : Keeps h h') : ∀ {ps : List PV} {vs : List Value}, VReps h ps vs → VReps h' ps vs
  | [], _, x => by simpa only [VReps] using x
  | p :: ps, vs, x => by
    simp only [VReps] at x ⊢
    obtain ⟨v, r, e, h1, h2⟩ := x
    exact ⟨v, r, e, VRep.mono k h1, VReps.mono k h2⟩
end

theorem VReps.nil {h : Heap} : VReps h [] [] := by simp only [VReps]
theorem VReps.cons {h : Heap} {p ps v vs} (a : VRep h p v) (b : VReps h ps vs) : VReps h (p :: ps) (v :: vs) := by
  simp only [VReps]; exact ⟨v, vs, rfl, a, b⟩
theorem VReps.nil_inv {h : Heap} {vs} (x : VReps h [] vs) : vs = [] := by simpa only [VReps] using x
theorem VReps.cons_inv {h : Heap} {p ps vs} (x : VReps h (p :: ps) vs) : ∃ v r, vs = v :: r ∧ VRep h p v ∧ VReps h ps r := by simpa only [VReps] using x
theorem VReps.length {h : Heap} : ∀ {ps vs}, VReps h ps vs → vs.length = ps.length
  | [], _, x => by rw [x.nil_inv]; rfl
  | p :: ps, vs, x => by obtain ⟨v, r, rfl, _, h2⟩ := x.cons_inv; simp [h2.length]
theorem VReps.get {h : Heap} : ∀ {ps vs}, VReps h ps vs → ∀ (i : Nat) (p : PV), ps[i]? = some p → ∃ v, vs[i]? = some v ∧ VRep h p v
  | [], _, _, i, p, e => by simp at e
  | q :: ps, vs, x, i, p, e => by
    obtain ⟨v, r, rfl, h1, h2⟩ := x.cons_inv
    cases i with
    | zero => simp at e; subst e; exact ⟨v, by simp, h1⟩
    | succ j => simp at e; obtain ⟨v', a, b⟩ := h2.get j p e; exact ⟨v', by simpa using a, b⟩
theorem VReps.append {h : Heap} : ∀ {ps vs qs ws}, VReps h ps vs → VReps h qs ws → VReps h (ps ++ qs) (vs ++ ws)
  | [], _, _, _, x, y => by rw [x.nil_inv]; exact y
  | p :: ps, vs, _, _, x, y => by obtain ⟨v, r, rfl, h1, h2⟩ := x.cons_inv; exact .cons h1 (h2.append y)
theorem VReps.take {h : Heap} : ∀ {ps vs} (n : Nat), VReps h ps vs → VReps h (ps.take n) (vs.take n)
  | [], _, n, x => by rw [x.nil_inv]; simpa using VReps.nil
  | p :: ps, vs, n, x => by
    obtain ⟨v, r, rfl, h1, h2⟩ := x.cons_inv
    cases n with
    | zero => simpa using VReps.nil
    | succ n => exact .cons h1 (h2.take n)
theorem VReps.drop {h : Heap} : ∀ {ps vs} (n : Nat), VReps h ps vs → VReps h (ps.drop n) (vs.drop n)
  | [], _, n, x => by rw [x.nil_inv]; simpa using VReps.nil
  | p :: ps, vs, n, x => by
    obtain ⟨v, r, rfl, h1, h2⟩ := x.cons_inv
    cases n with
    | zero => exact .cons h1 h2
    | succ n => exact h2.drop n
theorem VReps.set {h : Heap} : ∀ {ps vs} (n : Nat) {p v}, VReps h ps vs → VRep h p v → VReps h (ps.set n p) (vs.set n v)
  | [], _, n, _, _, x, _ => by rw [x.nil_inv]; simpa using VReps.nil
  | q :: ps, vs, n, p, v, x, y => by
    obtain ⟨v', r, rfl, h1, h2⟩ := x.cons_inv
    cases n with
    | zero => exact .cons y h2
    | succ n => exact .cons h1 (h2.set n y)
theorem VReps.of_forall {h : Heap} : ∀ {ps : List PV} {vs : List Value}, vs.length = ps.length → (∀ (i : Nat) p v, ps[i]? = some p → vs[i]? = some v → VRep h p v) → VReps h ps vs
  | [], vs, hl, _ => by rw [List.length_eq_zero_iff.mp hl]; exact .nil
  | p :: ps, [], hl, _ => by simp at hl
  | p :: ps, v :: vs, hl, f => .cons (f 0 p v (by simp) (by simp)) (.of_forall (by simpa using hl) fun i q w a b => f (i + 1) q w (by simpa using a) (by simpa using b))

/-- a thing told of by what holds of its object; more may come to the heap -/
structure ORel where
  R : Heap → Obj → Prop
  mono : ∀ h h' o, Keeps h h' → R h o → R h' o
  nt : ∀ h o, R h o → ∀ vs n, o ≠ { cls := .type "tuple", dict := none, data := .seq vs n, slots := #[] }
/-- things that the call has made -/
inductive AObj where
  | list (l : List PV)
  | rlist (l : List PV)
  | cell (v : Option PV)
  | range (a b c : Int)
  | raw (o : Obj)
  | own (r : ORel)

def OptRep (h : Heap) : Option PV → Option Value → Prop
  | none, v => v = none
  | some p, v => ∃ x, v = some x ∧ VRep h p x

def ORep (base h : Heap) (a : Addr) : AObj → Prop
  | .list l => base.get? a = none ∧ ∃ vs, LI h a vs ∧ VReps h l vs
  | .rlist l => ∃ vs, LI h a vs ∧ VReps h l vs
  | .cell v => base.get? a = none ∧ ∃ x, h.IsCell a x ∧ OptRep h v x
  | .range x y z => base.get? a = none ∧ ∃ t u v, IsRange h a x y z t u v
  | .raw o => base.get? a = none ∧ h.get? a = some o ∧ o.cls ≠ .type "tuple"
  | .own r => base.get? a = none ∧ ∃ o, h.get? a = some o ∧ r.R h o

abbrev AHeap := Addr → Option AObj
def AHeap.set (σ : AHeap) (a : Addr) (o : AObj) : AHeap := fun b => if b = a then some o else σ b
@[simp] theorem AHeap.set_same (σ : AHeap) (a : Addr) (o : AObj) : (σ.set a o) a = some o := by simp [AHeap.set]
theorem AHeap.set_ne (σ : AHeap) {a b : Addr} (o : AObj) (h : b ≠ a) : (σ.set a o) b = σ b := by simp [AHeap.set, h]
@[simp] theorem AHeap.set_set (σ : AHeap) (a : Addr) (o o' : AObj) : (σ.set a o).set a o' = σ.set a o' := by
  funext b; simp only [AHeap.set]; split <;> rfl
theorem AHeap.set_self (σ : AHeap) {a : Addr} {o : AObj} (h : σ a = some o) : σ.set a o = σ := by
  funext b; simp only [AHeap.set]; split
  · subst_vars; exact h.symm
  · rfl
def AHeap.Sub (σ σ' : AHeap) : Prop := ∀ a o, σ a = some o → σ' a = some o
theorem AHeap.Sub.refl (σ : AHeap) : σ.Sub σ := fun _ _ x => x
theorem AHeap.sub_set {σ : AHeap} {a : Addr} (o : AObj) (h : σ a = none) : σ.Sub (σ.set a o) := fun b o' e => by
  rw [AHeap.set_ne]; exact e
  intro q; subst q; rw [h] at e; cases e

abbrev Locals := List (Str × PV)
def setL (x : Str) (p : PV) : Locals → Locals
  | [] => [(x, p)]
  | (y, q) :: r => if x = y then (x, p) :: r else (y, q) :: setL x p r
theorem lookup_setL (x y : Str) (p : PV) : ∀ μ : Locals, (setL x p μ).lookup y = if y = x then some p else μ.lookup y
  | [] => by
    simp only [setL, List.lookup_cons, List.lookup_nil]
    by_cases h : y = x
    · simp [h]
    · have : (y == x) = false := beq_eq_false_iff_ne.mpr h
      simp [this, h]
  | (z, q) :: r => by
    unfold setL
    by_cases hz : x = z
    · subst hz
      simp only [if_true, List.lookup_cons]
      by_cases h : y = x
      · simp [h]
      · have : (y == x) = false := beq_eq_false_iff_ne.mpr h
        simp [this, h]
    · simp only [hz, if_false, List.lookup_cons]
      by_cases h : y = z
      · subst h
        have hn : ¬ y = x := fun e => hz e.symm
        simp [hn]
      · have : (y == z) = false := beq_eq_false_iff_ne.mpr h
        simp only [this]
        exact lookup_setL x y p r

abbrev St := Locals × AHeap

structure FrameOk (base h : Heap) (L : Addr) (μ : Locals) : Prop where
  new : base.get? L = none
  ns : ∃ m, h.Ns L m ∧ ∀ x p, μ.lookup x = some p → ∃ v, m x = some v ∧ VRep h p v

structure Rep (base : Heap) (os₀ : OsState) (hs : List (Addr × Obj)) (stk : List (Addr × Locals)) (σ : AHeap) (s : Shared) : Prop where
  stays : base.StaysIn s.heap
  gens : s.gens = #[]
  os : s.os = os₀
  hid : ∀ p ∈ hs, s.heap.get? p.1 = some p.2 ∧ base.get? p.1 = none ∧ σ p.1 = none ∧ p.1 ∉ stk.map (·.1) ∧ True
  frames : ∀ f ∈ stk, FrameOk base s.heap f.1 f.2 ∧ σ f.1 = none
  nodup : (stk.map (·.1)).Nodup
  hnd : (hs.map (·.1)).Nodup
  heap : ∀ a o, σ a = some o → ORep base s.heap a o
  tk : 0 < s.toks

theorem ORep.there {base h : Heap} {a : Addr} {o : AObj} (x : ORep base h a o) : ∃ ob, h.get? a = some ob ∧ True ∨ (∃ v, h.IsCell a v) := by
  cases o with
  | list l => obtain ⟨_, vs, ⟨n, h1⟩, _⟩ := x; exact ⟨_, .inl ⟨h1, trivial⟩⟩
  | rlist l => obtain ⟨vs, ⟨n, h1⟩, _⟩ := x; exact ⟨_, .inl ⟨h1, trivial⟩⟩
  | cell v => obtain ⟨_, x, h1, _⟩ := x; exact ⟨default, .inr ⟨x, h1⟩⟩
  | range x y z => obtain ⟨_, t, u, v, h1⟩ := x; exact ⟨_, .inl ⟨h1, trivial⟩⟩
  | raw o => exact ⟨o, .inl ⟨x.2.1, trivial⟩⟩
  | own r => obtain ⟨_, o, h1, h2⟩ := x; exact ⟨o, .inl ⟨h1, trivial⟩⟩
theorem ORep.lt {base h : Heap} {a : Addr} {o : AObj} (x : ORep base h a o) : a < h.objs.size := by
  obtain ⟨ob, h1 | ⟨v, ob, h1, _⟩⟩ := x.there
  · exact Heap.lt_size h1.1
  · exact Heap.lt_size h1

/-- h' keeps what h holds, but for a -/
theorem OptRep.mono {h h' : Heap} (k : Keeps h h') {o : Option PV} {v : Option Value} (x : OptRep h o v) : OptRep h' o v := by
  cases o with
  | none => exact x
  | some p => obtain ⟨y, e, r⟩ := x; exact ⟨y, e, r.mono k⟩
theorem ORep.mono {base h h' : Heap} {a : Addr} {o : AObj} (x : ORep base h a o) (k : Keeps h h') (hk : ∀ ob, h.get? a = some ob → h'.get? a = some ob) : ORep base h' a o := by
  cases o with
  | list l => obtain ⟨h0, vs, ⟨n, h1⟩, h3⟩ := x; exact ⟨h0, vs, ⟨n, hk _ h1⟩, h3.mono k⟩
  | rlist l => obtain ⟨vs, ⟨n, h1⟩, h3⟩ := x; exact ⟨vs, ⟨n, hk _ h1⟩, h3.mono k⟩
  | cell v => obtain ⟨h0, y, ⟨ob, h1, h2⟩, h3⟩ := x; exact ⟨h0, y, ⟨ob, hk _ h1, h2⟩, h3.mono k⟩
  | range x y z => obtain ⟨h0, t, u, v, h1⟩ := x; exact ⟨h0, t, u, v, hk _ h1⟩
  | raw o => exact ⟨x.1, hk _ x.2.1, x.2.2⟩
  | own r => obtain ⟨h0, o, h1, h2⟩ := x; exact ⟨h0, o, hk _ h1, r.mono _ _ _ k h2⟩
theorem FrameOk.mono {base h h' : Heap} {L : Addr} {μ : Locals} (x : FrameOk base h L μ) (k : Keeps h h') (hk : ∀ ob, h.get? L = some ob → h'.get? L = some ob) : FrameOk base h' L μ := by
  obtain ⟨h0, m, ⟨ob, es, ep, h1, h2⟩, h3⟩ := x
  exact ⟨h0, m, ⟨ob, es, ep, hk _ h1, h2⟩, fun x p e => let ⟨v, a, b⟩ := h3 x p e; ⟨v, a, b.mono k⟩⟩
theorem FrameOk.lt {base h : Heap} {L : Addr} {μ : Locals} (x : FrameOk base h L μ) : L < h.objs.size := by
  obtain ⟨_, m, hn, _⟩ := x; exact hn.lt

section
variable {base : Heap} {os₀ : OsState} {hid : List (Addr × Obj)} {stk : List (Addr × Locals)} {σ : AHeap} {s : Shared}

/-- nothing that stood has changed -/
theorem Rep.grow (R : Rep base os₀ hid stk σ s) {s' : Shared} (hk : ∀ b o, s.heap.get? b = some o → s'.heap.get? b = some o) (hg : s'.gens = s.gens) (ho : s'.os = s.os) (ht : s.toks ≤ s'.toks := by first | exact Nat.le_refl _ | exact Nat.le_succ _ | assumption | (simp only; omega)) : Rep base os₀ hid stk σ s' := by
  have k : Keeps s.heap s'.heap := fun a vs ⟨n, h1⟩ => ⟨n, hk _ _ h1⟩
  exact ⟨fun b o e => hk _ _ (R.stays b o e), hg.trans R.gens, ho.trans R.os, fun p hp => let ⟨a, b⟩ := R.hid p hp; ⟨hk _ _ a, b⟩,
    fun f hf => ⟨(R.frames f hf).1.mono k fun _ => hk _ _, (R.frames f hf).2⟩, R.nodup, R.hnd, fun a o e => (R.heap a o e).mono k fun _ => hk _ _, Nat.lt_of_lt_of_le R.tk ht⟩

theorem Rep.weaken (R : Rep base os₀ hid stk σ s) {σ' : AHeap} (h : σ'.Sub σ) : Rep base os₀ hid stk σ' s := by
  have hn : ∀ a, σ a = none → σ' a = none := fun a e => by
    cases q : σ' a with
    | none => rfl
    | some o => rw [h _ _ q] at e; cases e
  exact ⟨R.stays, R.gens, R.os, fun p hp => let ⟨a, b, c, d⟩ := R.hid p hp; ⟨a, b, hn _ c, d⟩, fun f hf => ⟨(R.frames f hf).1, hn _ (R.frames f hf).2⟩, R.nodup, R.hnd, fun a o e => R.heap a o (h a o e), R.tk⟩

theorem Rep.locals {L : Addr} {μ μ' : Locals} (R : Rep base os₀ hid ((L, μ) :: stk) σ s) (h : ∀ x p, μ'.lookup x = some p → μ.lookup x = some p) : Rep base os₀ hid ((L, μ') :: stk) σ s := by
  refine ⟨R.stays, R.gens, R.os, R.hid, fun f hf => ?_, R.nodup, R.hnd, R.heap, R.tk⟩
  rcases List.mem_cons.mp hf with rfl | hf
  · obtain ⟨⟨h0, m, hn, h3⟩, h4⟩ := R.frames (L, μ) (List.mem_cons_self ..)
    exact ⟨⟨h0, m, hn, fun x p e => h3 x p (h x p e)⟩, h4⟩
  · exact R.frames f (List.mem_cons_of_mem _ hf)

/-- an address at which nothing told stands but σ's own -/
theorem Rep.put (R : Rep base os₀ hid stk σ s) {s' : Shared} {a : Addr} {o : AObj} (hk : ∀ b ob, b ≠ a → s.heap.get? b = some ob → s'.heap.get? b = some ob)
    (hnt : ∀ vs, ¬ TU s.heap a vs) (hb : base.get? a = none) (hh : ∀ p ∈ hid, p.1 ≠ a) (hs : ∀ f ∈ stk, f.1 ≠ a)
    (hn : ORep base s'.heap a o) (hg : s'.gens = s.gens) (ho : s'.os = s.os) (ht : s.toks ≤ s'.toks := by first | exact Nat.le_refl _ | exact Nat.le_succ _ | assumption | (simp only; omega)) : Rep base os₀ hid stk (σ.set a o) s' := by
  have k : Keeps s.heap s'.heap := fun b vs ⟨n, h1⟩ => ⟨n, hk _ _ (fun e => hnt vs (e ▸ ⟨n, h1⟩)) h1⟩
  refine ⟨fun b ob e => hk _ _ (fun q => ?_) (R.stays b ob e), hg.trans R.gens, ho.trans R.os, fun p hp => ?_, fun f hf => ?_, R.nodup, R.hnd, fun b ob e => ?_, Nat.lt_of_lt_of_le R.tk ht⟩
  · subst q; rw [hb] at e; cases e
  · obtain ⟨a1, b1, c1, d1⟩ := R.hid p hp
    exact ⟨hk _ _ (hh p hp) a1, b1, by rw [AHeap.set_ne _ _ (hh p hp)]; exact c1, d1⟩
  · exact ⟨(R.frames f hf).1.mono k fun _ => hk _ _ (hs f hf), by rw [AHeap.set_ne _ _ (hs f hf)]; exact (R.frames f hf).2⟩
  · by_cases q : b = a
    · subst q; rw [AHeap.set_same] at e; cases e; exact hn
    · rw [AHeap.set_ne _ _ q] at e; exact (R.heap b ob e).mono k fun _ => hk _ _ q

theorem Rep.hid_ne (R : Rep base os₀ hid stk σ s) {a : Addr} {o : AObj} (h : σ a = some o) : ∀ p ∈ hid, p.1 ≠ a := fun p hp q => by
  have := (R.hid p hp).2.2.1; rw [q, h] at this; cases this
theorem Rep.stk_ne (R : Rep base os₀ hid stk σ s) {a : Addr} {o : AObj} (h : σ a = some o) : ∀ f ∈ stk, f.1 ≠ a := fun p hp q => by
  have := (R.frames p hp).2; rw [q, h] at this; cases this

theorem Rep.fresh_hid (R : Rep base os₀ hid stk σ s) : ∀ p ∈ hid, p.1 ≠ s.heap.objs.size := fun p hp => Nat.ne_of_lt (Heap.lt_size (R.hid p hp).1)
theorem Rep.fresh_stk (R : Rep base os₀ hid stk σ s) : ∀ f ∈ stk, f.1 ≠ s.heap.objs.size := fun p hp => Nat.ne_of_lt (R.frames p hp).1.lt
theorem Rep.fresh_σ (R : Rep base os₀ hid stk σ s) : σ s.heap.objs.size = none := by
  cases q : σ s.heap.objs.size with
  | none => rfl
  | some o => exact absurd (R.heap _ _ q).lt (Nat.lt_irrefl _)
theorem Rep.fresh_base (R : Rep base os₀ hid stk σ s) : base.get? s.heap.objs.size = none := R.stays.fresh

/-- a new object -/
theorem Rep.alloc (R : Rep base os₀ hid stk σ s) {ob : Obj} {o : AObj} (hn : ORep base (s.heap.push ob) s.heap.objs.size o) :
    Rep base os₀ hid stk (σ.set s.heap.objs.size o) { s with heap := s.heap.push ob } :=
  R.put (fun b ob' _ e => Heap.get?_push_of_some _ e) (fun vs ⟨_, h1⟩ => absurd (Heap.lt_size h1) (Nat.lt_irrefl _)) R.fresh_base R.fresh_hid R.fresh_stk hn rfl rfl

theorem Keeps.push (h : Heap) (o : Obj) : Keeps h (h.push o) := fun _ _ ⟨n, x⟩ => ⟨n, Heap.get?_push_of_some o x⟩

/-- a name stored -/
theorem Rep.store {L : Addr} {μ : Locals} (R : Rep base os₀ hid ((L, μ) :: stk) σ s) {x : Str} {p : PV} {v : Value} {h' : Heap} {tk : Nat} {m : Str → Option Value} (hm : s.heap.Ns L m)
    (hmm : ∀ x p, μ.lookup x = some p → ∃ v, m x = some v ∧ VRep s.heap p v)
    (hn : h'.Ns L (fun y => if y = x then some v else m y)) (hs : Heap.SameBut L s.heap h') (hv : VRep s.heap p v) (ht : s.toks ≤ tk := by first | exact Nat.le_refl _ | exact Nat.le_succ _) :
    Rep base os₀ hid ((L, setL x p μ) :: stk) σ { s with heap := h', toks := tk } ∧ Keeps s.heap h' := by
  have hnt : ∀ vs, ¬ TU s.heap L vs := fun vs ⟨n, h1⟩ => by
    obtain ⟨o', es, ep, h3, h4, _⟩ := hm
    rw [h1] at h3; cases h3; cases h4
  have hk : ∀ b ob, b ≠ L → s.heap.get? b = some ob → h'.get? b = some ob := fun b ob hb e => (hs.2 b hb).trans e
  have k : Keeps s.heap h' := fun b vs ⟨n, h1⟩ => ⟨n, hk _ _ (fun e => hnt vs (e ▸ ⟨n, h1⟩)) h1⟩
  have hLf := R.frames (L, μ) (List.mem_cons_self ..)
  refine ⟨⟨fun b ob e => hk _ _ (fun q => ?_) (R.stays b ob e), R.gens, R.os, fun p hp => ?_, fun f hf => ?_, R.nodup, R.hnd, fun b ob e => ?_, Nat.lt_of_lt_of_le R.tk ht⟩, k⟩
  · subst q; rw [hLf.1.new] at e; cases e
  · obtain ⟨a1, b1, c1, d1, e1⟩ := R.hid p hp
    exact ⟨hk _ _ (fun q => d1 (by simp [q])) a1, b1, c1, by simpa using d1, e1⟩
  · rcases List.mem_cons.mp hf with rfl | hf
    · refine ⟨⟨hLf.1.new, _, hn, fun y q e => ?_⟩, hLf.2⟩
      simp only [lookup_setL] at e
      by_cases hy : y = x
      · simp only [hy, if_true] at e ⊢; cases e; exact ⟨v, rfl, hv.mono k⟩
      · simp only [hy, if_false] at e ⊢
        obtain ⟨v', a, b⟩ := hmm y q e
        exact ⟨v', a, b.mono k⟩
    · have hne : f.1 ≠ L := fun q => by
        have := R.nodup; simp only [List.map_cons, List.nodup_cons] at this
        exact this.1 (q ▸ List.mem_map_of_mem hf)
      exact ⟨(R.frames f (List.mem_cons_of_mem _ hf)).1.mono k fun _ => hk _ _ hne, (R.frames f (List.mem_cons_of_mem _ hf)).2⟩
  · have hne : b ≠ L := fun q => by rw [q, hLf.2] at e; cases e
    exact (R.heap b ob e).mono k fun _ => hk _ _ hne
end
end Mine
end
section
open PySem PySem.W PyProof.Rows
set_option Elab.async false
set_option linter.unusedVariables false
namespace Mine

structure Lv where
  d : Nat
  calm : Bool

structure AOk (lv : Lv) (A : Around) : Prop where
  calm : lv.calm = true → A.handled = none
  depth : A.depth + lv.d ≤ 900
  units : A.units + 20 * lv.d ≤ 9000

structure COk (lv : Lv) (A : Around) (env : Env) : Prop where
  ok : AOk lv A
  kind : env.scope.kind = .function
  globals : env.globals = mainGlobals
  builtins : env.builtins = builtinsNs

def Apart (base : Heap) (hid : List (Addr × Obj)) (σ : AHeap) (a : Addr) : Prop := base.get? a = none ∧ σ a = none ∧ ∀ p ∈ hid, p.1 ≠ a
section
variable {base : Heap} {os₀ : OsState} {hid : List (Addr × Obj)} {stk : List (Addr × Locals)} {σ : AHeap} {s : Shared}
theorem Rep.aside (R : Rep base os₀ hid stk σ s) {s' : Shared} {a : Addr} (hk : ∀ b ob, b ≠ a → s.heap.get? b = some ob → s'.heap.get? b = some ob)
    (ha : Apart base hid σ a) (hnt : ∀ vs, ¬ TU s.heap a vs) (hs : ∀ f ∈ stk, f.1 ≠ a) (hg : s'.gens = s.gens := by rfl) (ho : s'.os = s.os := by rfl) (ht : s.toks ≤ s'.toks := by exact Nat.le_refl _) : Rep base os₀ hid stk σ s' := by
  have k : Keeps s.heap s'.heap := fun b vs ⟨n, h1⟩ => ⟨n, hk _ _ (fun e => hnt vs (e ▸ ⟨n, h1⟩)) h1⟩
  refine ⟨fun b ob e => hk _ _ (fun q => ?_) (R.stays b ob e), hg.trans R.gens, ho.trans R.os, fun p hp => ?_, fun f hf => ?_, R.nodup, R.hnd, fun b ob e => ?_, Nat.lt_of_lt_of_le R.tk ht⟩
  · subst q; rw [ha.1] at e; cases e
  · obtain ⟨a1, r⟩ := R.hid p hp
    exact ⟨hk _ _ (ha.2.2 p hp) a1, r⟩
  · exact ⟨(R.frames f hf).1.mono k fun _ => hk _ _ (hs f hf), (R.frames f hf).2⟩
  · exact (R.heap b ob e).mono k fun _ => hk _ _ (fun q => by rw [q, ha.2.1] at e; cases e)

end
end Mine
end
section
open PySem PySem.W PyProof.Rows
set_option Elab.async false
set_option linter.unusedVariables false
namespace Mine

structure Gx where
  prog : Program
  w : World
  base : Heap
  os : OsState
  mg : Str → Option Value
  mb : Str → Option Value

structure Gd (G : Gx) : Prop where
  g : G.base.Ns mainGlobals G.mg
  b : G.base.Ns builtinsNs G.mb
  builtins : ∀ x : Str, x ≠ "__name__" → G.mb x = bootBuiltins x
  nolimit : G.base.NoLimit

structure Cx extends Gx where
  lv : Lv
  A : Around
  env : Env

abbrev Cx.M (c : Cx) : Model := model c.prog c.w
abbrev Gx.M (c : Gx) : Model := model c.prog c.w

inductive Post (c : Cx) {α β : Type} (rep : Heap → β → α → Prop) (Q : β → St → Prop) (hid : List (Addr × Obj)) (stk : List (Addr × Locals)) (h : Heap) (v : α) (s' : Shared) : Prop
  | mk (p : β) (st' : St) (r : Rep c.base c.os hid ((c.env.locals, st'.1) :: stk) st'.2 s') (hv : rep s'.heap p v) (k : Keeps h s'.heap) (q : Q p st') : Post c rep Q hid stk h v s'
theorem Post.rep {c : Cx} {α β : Type} {rep : Heap → β → α → Prop} {Q : β → St → Prop} {hid stk h v s'} (x : Post c rep Q hid stk h v s') : ∃ st' : St, Rep c.base c.os hid ((c.env.locals, st'.1) :: stk) st'.2 s' := by
  obtain ⟨p, st', r, _, _, _⟩ := x; exact ⟨st', r⟩
def PostX (e : Value) (s' : Shared) : Prop :=
  False

/-- the tree t, run from st, ends as Q says or raises as  says -/
def WT (c : Cx) {α β : Type} (rep : Heap → β → α → Prop) (t : Sem α) (Q : β → St → Prop) (st : St) : Prop :=
  ∀ hid stk s, COk c.lv c.A c.env → Rep c.base c.os hid ((c.env.locals, st.1) :: stk) st.2 s → wpAny c.M c.A t (Post c rep Q hid stk s.heap) PostX s
/-- the same of a tree over values -/
def W1 (c : Cx) {α β : Type} (rep : Heap → β → α → Prop) (p : PV) (t : Value → Sem α) (Q : β → St → Prop) (st : St) : Prop :=
  ∀ v hid stk s, COk c.lv c.A c.env → Rep c.base c.os hid ((c.env.locals, st.1) :: stk) st.2 s → VRep s.heap p v → wpAny c.M c.A (t v) (Post c rep Q hid stk s.heap) PostX s
def W2 (c : Cx) {α β : Type} (rep : Heap → β → α → Prop) (p q : PV) (t : Value → Value → Sem α) (Q : β → St → Prop) (st : St) : Prop :=
  ∀ v u hid stk s, COk c.lv c.A c.env → Rep c.base c.os hid ((c.env.locals, st.1) :: stk) st.2 s → VRep s.heap p v → VRep s.heap q u → wpAny c.M c.A (t v u) (Post c rep Q hid stk s.heap) PostX s
def WN (c : Cx) {α β : Type} (rep : Heap → β → α → Prop) (ps : List PV) (t : List Value → Sem α) (Q : β → St → Prop) (st : St) : Prop :=
  ∀ vs hid stk s, COk c.lv c.A c.env → Rep c.base c.os hid ((c.env.locals, st.1) :: stk) st.2 s → VReps s.heap ps vs → wpAny c.M c.A (t vs) (Post c rep Q hid stk s.heap) PostX s

inductive AFlow where
  | next | brk | cont
  | ret (p : PV)
def FlowRep (h : Heap) : AFlow → Flow → Prop
  | .next, f => f = .next
  | .brk, f => f = .brk
  | .cont, f => f = .cont
  | .ret p, f => ∃ v, f = .ret v ∧ VRep h p v
def BoolRep (_ : Heap) (b : Bool) (v : Bool) : Prop := v = b
def UnitRep (_ : Heap) (_ : Unit) (_ : Unit) : Prop := True

abbrev WE (c : Cx) (e : Expr) (Q : PV → St → Prop) (st : St) : Prop := WT c VRep (eval e c.env)  Q st
abbrev WC (c : Cx) (e : Expr) (Q : Bool → St → Prop) (st : St) : Prop := WT c BoolRep (isTrue e c.env (eval e c.env))  Q st
abbrev WS (c : Cx) (l : List Stmt) (Q : AFlow → St → Prop) (st : St) : Prop := WT c FlowRep (execs l c.env)  Q st
abbrev WX (c : Cx) (l : Stmt) (Q : AFlow → St → Prop) (st : St) : Prop := WT c FlowRep (exec l c.env)  Q st
abbrev WA (c : Cx) (pos : Pos) (l : List Expr) (Q : List PV → St → Prop) (st : St) : Prop := WT c VReps (spliced (backTo pos (starEach l c.env)))  Q st

section
variable {c : Cx} {st : St} {α β : Type} {rep : Heap → β → α → Prop} {Q : β → St → Prop}

theorem Post.keeps {c : Cx} {hid stk h h' v s'} (k : Keeps h h') (x : Post c rep Q hid stk h' v s') : Post c rep Q hid stk h v s' :=
  let ⟨p, st', a, b, k', q⟩ := x; ⟨p, st', a, b, k.trans k', q⟩

theorem WT.mono {t : Sem α} {Q Q' : β → St → Prop} (h : WT c rep t  Q st) (hQ : ∀ p st, Q p st → Q' p st) (hX : ∀ e s, PostX e s → PostX e s) : WT c rep t  Q' st :=
  fun hid stk s ok R => wpAny_mono (h hid stk s ok R) (fun _ _ ⟨p, st', a, b, k, q⟩ => ⟨p, st', a, b, k, hQ _ _ q⟩) fun _ _ h => h

theorem E_BinOp {l op r pos} {Q : PV → St → Prop} (h : WE c l  (fun p st₁ => WE c r  (fun q st₂ => W2 c VRep p q (binaryOp op)  Q st₂) st₁) st) : WE c (.BinOp l op r pos)  Q st :=
  fun hid stk s ok R => wpAny_BinOp (wpAny_mono (h hid stk s ok R) (fun v s₁ ⟨p, st₁, R₁, hv, k₁, h₁⟩ =>
    wpAny_mono (h₁ hid stk s₁ ok R₁) (fun u s₂ ⟨q, st₂, R₂, hu, k₂, h₂⟩ =>
      wpAny_mono (h₂ v u hid stk s₂ ok R₂ (hv.mono k₂) hu) (fun _ _ y => y.keeps (k₁.trans k₂)) fun _ _ y => y) fun _ _ y => y) fun _ _ y => y)

theorem E_Compare {l op r pos} {Q : PV → St → Prop} (h : WE c l  (fun p st₁ => WE c r  (fun q st₂ => W2 c VRep p q (compareOp op)  Q st₂) st₁) st)
    (hm : behindInMarks op r = false) : WE c (.Compare l [op] [r] pos)  Q st :=
  fun hid stk s ok R => wpAny_Compare1 (wpAny_mono (h hid stk s ok R) (fun v s₁ ⟨p, st₁, R₁, hv, k₁, h₁⟩ =>
    wpAny_mono (h₁ hid stk s₁ ok R₁) (fun u s₂ ⟨q, st₂, R₂, hu, k₂, h₂⟩ =>
      wpAny_mono (h₂ v u hid stk s₂ ok R₂ (hv.mono k₂) hu) (fun _ _ y => y.keeps (k₁.trans k₂)) fun _ _ y => y) fun _ _ y => y) fun _ _ y => y) hm

theorem E_UnaryOp {op x pos} {Q : PV → St → Prop} (h : WE c x  (fun p st₁ => W1 c VRep p (unaryOp op)  Q st₁) st) : WE c (.UnaryOp op x pos)  Q st :=
  fun hid stk s ok R => wpAny_UnaryOp (wpAny_mono (h hid stk s ok R) (fun v s₁ ⟨p, st₁, R₁, hv, k₁, h₁⟩ => wpAny_mono (h₁ v hid stk s₁ ok R₁ hv) (fun _ _ y => y.keeps k₁) fun _ _ y => y) fun _ _ y => y)

/-! conditions -/
theorem C_Compare {l op r pos} {Q : Bool → St → Prop} (h : WE c l  (fun p st₁ => WE c r  (fun q st₂ => W2 c VRep p q (compareOp op)  (fun b st₃ => W1 c BoolRep b truthy  Q st₃) st₂) st₁) st)
    (hm : behindInMarks op r = false) : WC c (.Compare l [op] [r] pos)  Q st :=
  fun hid stk s ok R => wpAny_isTrue_Compare1 (wpAny_mono (h hid stk s ok R) (fun v s₁ ⟨p, st₁, R₁, hv, k₁, h₁⟩ =>
    wpAny_mono (h₁ hid stk s₁ ok R₁) (fun u s₂ ⟨q, st₂, R₂, hu, k₂, h₂⟩ =>
      wpAny_mono (h₂ v u hid stk s₂ ok R₂ (hv.mono k₂) hu) (fun b s₃ ⟨pb, st₃, R₃, hb, k₃, h₃⟩ =>
        wpAny_mono (h₃ b hid stk s₃ ok R₃ hb) (fun _ _ y => y.keeps ((k₁.trans k₂).trans k₃)) fun _ _ y => y) fun _ _ y => y) fun _ _ y => y) fun _ _ y => y) hm
theorem C_Not {x pos} {Q : Bool → St → Prop} (h : WC c x  (fun b st₁ => Q (!b) st₁) st) : WC c (.UnaryOp .Not x pos)  Q st :=
  fun hid stk s ok R => wpAny_isTrue_Not (wpAny_mono (h hid stk s ok R) (fun v s₁ ⟨b, st₁, R₁, hv, k₁, h₁⟩ => by cases hv; exact ⟨!v, st₁, R₁, rfl, k₁, h₁⟩) fun _ _ y => y)
theorem C_value {e : Expr} {Q : Bool → St → Prop} (h : WE c e  (fun p st₁ => W1 c BoolRep p truthy  Q st₁) st)
    (he : isTrue e c.env (eval e c.env) = (do let v ← eval e c.env; standAt e.pos; holding [v] (truthy v))) : WC c e  Q st :=
  fun hid stk s ok R => wpAny_isTrue_value (wpAny_mono (h hid stk s ok R) (fun v s₁ ⟨p, st₁, R₁, hv, k₁, h₁⟩ => wpAny_mono (h₁ v hid stk s₁ ok R₁ hv) (fun _ _ y => y.keeps k₁) fun _ _ y => y) fun _ _ y => y) he
/-- allTrue, whatever the number -/
abbrev WAll (c : Cx) (op : BoolOp) (l : List Expr) (Q : Bool → St → Prop) (st : St) : Prop := WT c BoolRep (allTrue op l c.env)  Q st
theorem C_BoolOp {op l pos} {Q : Bool → St → Prop} (h : WAll c op l  Q st) : WC c (.BoolOp op l pos)  Q st := fun hid stk s ok R => wpAny_isTrue_BoolOp (h hid stk s ok R)
theorem And_nil {Q : Bool → St → Prop} (h : Q true st) : WAll c .And []  Q st := fun hid stk s ok R => wpAny_allTrue_And_nil ⟨true, st, R, rfl, .refl _, h⟩
theorem Or_nil {Q : Bool → St → Prop} (h : Q false st) : WAll c .Or []  Q st := fun hid stk s ok R => wpAny_allTrue_Or_nil ⟨false, st, R, rfl, .refl _, h⟩
theorem And_cons {x l} {Q : Bool → St → Prop} (h : WC c x  (fun b st₁ => if b then WAll c .And l  Q st₁ else Q false st₁) st) : WAll c .And (x :: l)  Q st :=
  fun hid stk s ok R => wpAny_allTrue_And_cons (wpAny_mono (h hid stk s ok R) (fun v s₁ ⟨b, st₁, R₁, hv, k₁, h₁⟩ => by
    cases hv
    cases v
    · rw [if_neg (by decide)] at h₁ ⊢; exact ⟨false, st₁, R₁, rfl, k₁, h₁⟩
    · rw [if_pos rfl] at h₁ ⊢
      exact wpAny_mono (h₁ hid stk s₁ ok R₁) (fun _ _ y => y.keeps k₁) fun _ _ y => y) fun _ _ y => y)
theorem Or_cons {x l} {Q : Bool → St → Prop} (h : WC c x  (fun b st₁ => if b then Q true st₁ else WAll c .Or l  Q st₁) st) : WAll c .Or (x :: l)  Q st :=
  fun hid stk s ok R => wpAny_allTrue_Or_cons (wpAny_mono (h hid stk s ok R) (fun v s₁ ⟨b, st₁, R₁, hv, k₁, h₁⟩ => by
    cases hv
    cases v
    · rw [if_neg (by decide)] at h₁ ⊢; exact wpAny_mono (h₁ hid stk s₁ ok R₁) (fun _ _ y => y.keeps k₁) fun _ _ y => y
    · rw [if_pos rfl] at h₁ ⊢
      exact ⟨true, st₁, R₁, rfl, k₁, h₁⟩) fun _ _ y => y)

/-! names, constants -/
theorem E_local {x pos} {Q : PV → St → Prop} {μ : Locals} {σ : AHeap} {p : PV} (hl : c.env.scope.names.lookup x = some .local) (hv : μ.lookup x = some p) (h : Q p (μ, σ))
    (hd : (x == ("__debug__" : Str)) = false) : WE c (.Name x pos)  Q (μ, σ) := fun hid stk s ok R => by
  obtain ⟨⟨_, m, hn, hm⟩, _⟩ := R.frames _ (List.mem_cons_self ..)
  obtain ⟨v, hmv, hr⟩ := hm x p hv
  exact wpAny_Name (wpAny_loadName_local ok.kind hl hn hmv ⟨p, _, R, hr, .refl _, h⟩) hd

theorem Rep.toks {base os₀ hid stk σ} {s : Shared} (R : Rep base os₀ hid stk σ s) (tk : Nat) (ht : s.toks ≤ tk := by first | exact Nat.le_refl _ | exact Nat.le_succ _ | exact Nat.le_add_right _ 2 | omega) : Rep base os₀ hid stk σ { s with toks := tk } := R.grow (fun _ _ e => e) rfl rfl ht

theorem E_int {i k pos} {Q : PV → St → Prop} (h : Q (.int i) st) : WE c (.Constant (.int i) k pos)  Q st := fun hid stk s ok R => wpAny_Constant_int ⟨.int i, st, R.toks _, ⟨_, rfl⟩, .refl _, h⟩
theorem E_bool {i k pos} {Q : PV → St → Prop} (h : Q (.bool i) st) : WE c (.Constant (.bool i) k pos)  Q st := fun hid stk s ok R => (fun _ _ _ => ⟨.bool i, st, R, rfl, .refl _, h⟩)
theorem E_none {k pos} {Q : PV → St → Prop} (h : Q .none st) : WE c (.Constant .none k pos)  Q st := fun hid stk s ok R => (fun _ _ _ => ⟨.none, st, R, rfl, .refl _, h⟩)

/-! statements -/
theorem S_nil {Q : AFlow → St → Prop} (h : Q .next st) : WS c []  Q st := fun hid stk s ok R => wpAny_execs_nil ⟨.next, st, R, rfl, .refl _, h⟩
theorem S_cons {x l} {Q : AFlow → St → Prop} (h : WX c x  (fun f st₁ => match f with | .next => WS c l  Q st₁ | f => Q f st₁) st) : WS c (x :: l)  Q st :=
  fun hid stk s ok R => wpAny_execs_cons (wpAny_mono (h hid stk s ok R) (fun v s₁ ⟨f, st₁, R₁, hv, k₁, h₁⟩ => by
    cases f with
    | next => cases hv; exact wpAny_mono (h₁ hid stk s₁ ok R₁) (fun _ _ y => y.keeps k₁) fun _ _ y => y
    | brk => cases hv; exact ⟨.brk, st₁, R₁, rfl, k₁, h₁⟩
    | cont => cases hv; exact ⟨.cont, st₁, R₁, rfl, k₁, h₁⟩
    | ret p => obtain ⟨u, rfl, hu⟩ := hv; exact ⟨.ret p, st₁, R₁, ⟨u, rfl, hu⟩, k₁, h₁⟩) fun _ _ y => y)

/-- a name stored -/
theorem W1_store {x : Str} {p : PV} {Q : Unit → St → Prop} {μ : Locals} {σ : AHeap} (hl : c.env.scope.names.lookup x = some .local) (h : Q () (setL x p μ, σ)) : W1 c UnitRep p (fun v => storeName c.env x v)  Q (μ, σ) :=
  fun v hid stk s ok R hv => by
    obtain ⟨⟨_, m, hn, hm⟩, _⟩ := R.frames _ (List.mem_cons_self ..)
    refine wpAny_storeName_local hl hn (fun h' hn' hs => ?_) (by rw [ok.kind]; rfl)
    obtain ⟨R', k⟩ := R.store (tk := s.toks + 1) hn hm hn' hs hv
    exact ⟨(), (setL x p μ, σ), R', trivial, k, h⟩

theorem S_Assign {x pos' value pos} {Q : AFlow → St → Prop} (h : WE c value  (fun p st₁ => W1 c UnitRep p (fun v => storeName c.env x v)  (fun _ st₂ => Q .next st₂) st₁) st)
    (hs : swapsWith value (some (.Name x pos')) pos.line c.env = pure false) : WX c (.Assign [.Name x pos'] value pos)  Q st :=
  fun hid stk s ok R => wpAny_Assign_Name (wpAny_mono (h hid stk s ok R) (fun v s₁ ⟨p, st₁, R₁, hv, k₁, h₁⟩ =>
    wpAny_mono (h₁ v hid stk s₁ ok R₁ hv) (fun _ _ ⟨_, st₂, R₂, _, k₂, q⟩ => ⟨.next, st₂, R₂, rfl, k₁.trans k₂, q⟩) fun _ _ y => y) fun _ _ y => y) hs
theorem S_Expr {e pos} {Q : AFlow → St → Prop} (h : WE c e  (fun _ st₁ => Q .next st₁) st) (hi : interactive c.env = false) (hs : swapsWith e none pos.line c.env = pure false) : WX c (.Expr e pos)  Q st :=
  fun hid stk s ok R => wpAny_Expr_any (wpAny_mono (h hid stk s ok R) (fun v s₁ ⟨p, st₁, R₁, hv, k₁, h₁⟩ => ⟨.next, st₁, R₁, rfl, k₁, h₁⟩) fun _ _ y => y) hi hs
theorem S_If {test body orelse pos} {Q : AFlow → St → Prop} (h : WC c test  (fun b st₁ => if b then WS c body  Q st₁ else WS c orelse  Q st₁) st) : WX c (.If test body orelse pos)  Q st :=
  fun hid stk s ok R => wpAny_If (wpAny_mono (h hid stk s ok R) (fun v s₁ ⟨b, st₁, R₁, hv, k₁, h₁⟩ => by
    cases hv
    cases v
    · rw [if_neg (by decide)] at h₁ ⊢; exact wpAny_mono (h₁ hid stk s₁ ok R₁) (fun _ _ y => y.keeps k₁) fun _ _ y => y
    · rw [if_pos rfl] at h₁ ⊢; exact wpAny_mono (h₁ hid stk s₁ ok R₁) (fun _ _ y => y.keeps k₁) fun _ _ y => y) fun _ _ y => y)
theorem S_Return {e pos} {Q : AFlow → St → Prop} (h : WE c e  (fun p st₁ => Q (.ret p) st₁) st) : WX c (.Return (some e) pos)  Q st :=
  fun hid stk s ok R => wpAny_Return_some (wpAny_mono (h hid stk s ok R) (fun v s₁ ⟨p, st₁, R₁, hv, k₁, h₁⟩ => ⟨.ret p, st₁, R₁, ⟨v, rfl, hv⟩, k₁, h₁⟩) fun _ _ y => y)
theorem S_Break {pos} {Q : AFlow → St → Prop} (h : Q .brk st) : WX c (.Break pos)  Q st := fun hid stk s ok R => wpAny_Break ⟨.brk, st, R, rfl, .refl _, h⟩
theorem S_Continue {pos} {Q : AFlow → St → Prop} (h : Q .cont st) : WX c (.Continue pos)  Q st := fun hid stk s ok R => wpAny_Continue ⟨.cont, st, R, rfl, .refl _, h⟩
/-- what is raised within a loop's own run -/
def LoopR (c : Cx) (Q : AFlow → St → Prop) (hid : List (Addr × Obj)) (stk : List (Addr × Locals)) (h : Heap) (r : Result) (s' : Shared) : Prop := match r with
  | .ok f => Post c FlowRep Q hid stk h f s'
  | .error _ => False

theorem LoopR.back {hid stk h r s'} {Q : AFlow → St → Prop} (x : LoopR c  Q hid stk h r s') : match (generalizing := false) r with
    | .ok f => Post c FlowRep Q hid stk h f s'
    | .error e => cameBackBy c.M c.A c.env PostX e s' := by
  cases r with
  | ok f => exact x
  | error e =>
    exact x.elim

theorem S_While {test body orelse pos} {Q : AFlow → St → Prop} (I : Nat → St → Prop) (n : Nat) (h0 : I n st)
    (turn : ∀ n st, I n st → WC c test  (fun b st₁ => if b then WS c body  (fun f st₂ => match f with
        | .next | .cont => ∃ m, m < n ∧ I m st₂
        | .brk => Q .next st₂
        | .ret p => Q (.ret p) st₂) st₁ else WS c orelse  Q st₁) st) : WX c (.While test body orelse pos)  Q st := fun hid stk s ok R => by
  refine wpAny_While (codeAny_mono (R := LoopR c  Q hid stk s.heap) ?_ fun r s' x => x.back)
  refine codeAny_whileLoop (fun n s' => ∃ st', Rep c.base c.os hid ((c.env.locals, st'.1) :: stk) st'.2 s' ∧ Keeps s.heap s'.heap ∧ I n st') (fun n s' ⟨st', R', k', hI⟩ => ?_) n ⟨st, R, .refl _, h0⟩
  have hE : ∀ e s'', PostX e s'' → notedBy c.M c.A c.env (fun e s' => LoopR c  Q hid stk s.heap (.error e) s') e s'' :=
    fun e s'' hx => False.elim hx
  refine wpAny_mono (turn n st' hI hid stk s' ok R') (fun v s₁ hy => ?_) hE
  obtain ⟨b, st₁, R₁, hv, k₁, h₁⟩ := hy
  cases hv
  cases v
  · rw [if_neg (by decide)] at h₁ ⊢
    exact wpAny_mono (h₁ hid stk s₁ ok R₁) (fun f s₂ y => y.keeps (k'.trans k₁)) hE
  · rw [if_pos rfl] at h₁ ⊢
    refine wpAny_mono (h₁ hid stk s₁ ok R₁) (fun f s₂ hy => ?_) hE
    obtain ⟨fl, st₂, R₂, hf, k₂, h₂⟩ := hy
    have k := k'.trans (k₁.trans k₂)
    cases fl with
    | next => cases hf; obtain ⟨m, hm, hI⟩ := h₂; exact ⟨m, hm, st₂, R₂, k, hI⟩
    | cont => cases hf; obtain ⟨m, hm, hI⟩ := h₂; exact ⟨m, hm, st₂, R₂, k, hI⟩
    | brk => cases hf; exact ⟨.next, st₂, R₂, rfl, k, h₂⟩
    | ret p => obtain ⟨u, rfl, hu⟩ := hf; exact ⟨.ret p, st₂, R₂, ⟨u, rfl, hu⟩, k, h₂⟩
end
end Mine
end
section
open PySem PySem.W PyProof.Rows
set_option Elab.async false
set_option linter.unusedVariables false
namespace Mine

def valPV : Value → PV
  | .none => .none | .bool b => .bool b | .int i _ => .int i | .str x t => .str x t | .ref a => .ref a | .type n => .ty n | .builtin n => .bi n
  | _ => .none
def Value.simple : Value → Bool
  | .ellipsis | .notImplemented | .float .. | .bytes .. => false
  | _ => true
theorem valPV_rep {v : Value} (h : Value.simple v = true) (hp : Heap) : VRep hp (valPV v) v := by
  cases v <;> first | (cases h; done) | (simp only [valPV, VRep]; done) | (simp only [valPV, VRep]; exact ⟨_, rfl⟩)

section
variable {c : Cx} {st : St}

theorem E_global {x pos} {Q : PV → St → Prop} {v : Value} (hG : Gd c.toGx) (hl : c.env.scope.names.lookup x = some .globalImplicit) (hv : c.mg x = some v) (hs : Value.simple v = true) (h : Q (valPV v) st)
    (hd : (x == ("__debug__" : Str)) = false) : WE c (.Name x pos)  Q st := fun hid stk s ok R =>
  Calls.Name_function_global ok.kind hl (Calls.loadGlobal_global (by rw [ok.globals]; exact hG.g.keeps R.stays) hv ⟨_, st, R, valPV_rep hs _, .refl _, h⟩) hd
theorem E_builtin {x pos} {Q : PV → St → Prop} {v : Value} (hG : Gd c.toGx) (hl : c.env.scope.names.lookup x = some .globalImplicit) (hm : c.mg x = none) (hn : x ≠ "__name__") (hv : bootBuiltins x = some v) (hs : Value.simple v = true) (h : Q (valPV v) st)
    (hd : (x == ("__debug__" : Str)) = false) : WE c (.Name x pos)  Q st := fun hid stk s ok R =>
  Calls.Name_function_global ok.kind hl (Calls.loadGlobal_builtin (by rw [ok.globals]; exact hG.g.keeps R.stays) hm (by rw [ok.builtins]; exact hG.b.keeps R.stays) ((hG.builtins x hn).trans hv) ⟨_, st, R, valPV_rep hs _, .refl _, h⟩) hd

/-! cells -/
theorem E_cell {x pos} {Q : PV → St → Prop} {a : Addr} {p : PV} (hl : c.env.scope.names.lookup x = some .cell) (hc : c.env.cells.lookup x = some a) (hv : st.2 a = some (.cell (some p))) (h : Q p st)
    (hd : (x == ("__debug__" : Str)) = false) : WE c (.Name x pos)  Q st := fun hid stk s ok R => by
  obtain ⟨_, y, hy, z, rfl, hz⟩ := R.heap _ _ hv
  exact wpAny_Name (wpAny_loadName_cell ok.kind hl hc hy ⟨p, st, R, hz, .refl _, h⟩) hd
theorem E_free {x pos} {Q : PV → St → Prop} {a : Addr} {p : PV} (hl : c.env.scope.names.lookup x = some .free) (hc : c.env.cells.lookup x = some a) (hv : st.2 a = some (.cell (some p))) (h : Q p st)
    (hd : (x == ("__debug__" : Str)) = false) (hn : (x == ("__classdict__" : Str)) = false) : WE c (.Name x pos)  Q st := fun hid stk s ok R => by
  obtain ⟨_, y, hy, z, rfl, hz⟩ := R.heap _ _ hv
  exact wpAny_Name (wpAny_loadName_free ok.kind hl hc hy ⟨p, st, R, hz, .refl _, h⟩ hn) hd
theorem W1_storeCell {x : Str} {p : PV} {Q : Unit → St → Prop} {μ : Locals} {σ : AHeap} {a : Addr} {o : Option PV} (hl : c.env.scope.names.lookup x = some .cell) (hc : c.env.cells.lookup x = some a) (hv : σ a = some (.cell o))
    (h : Q () (μ, σ.set a (.cell (some p)))) : W1 c UnitRep p (fun v => storeName c.env x v)  Q (μ, σ) := fun v hid stk s ok R hr => by
  obtain ⟨hb, y, hy, _⟩ := R.heap _ _ hv
  refine wpAny_storeName_cell ok.kind hl hc hy fun h' hc' hs' => ?_
  have hnt : ∀ vs, ¬ TU s.heap a vs := fun vs ⟨n, e⟩ => by obtain ⟨o', e1, e2⟩ := hy; rw [e] at e1; cases e1; cases e2
  have hk : ∀ b ob, b ≠ a → s.heap.get? b = some ob → h'.get? b = some ob := fun b ob hne e => (hs'.2 b hne).trans e
  have k : Keeps s.heap h' := fun b vs ⟨n, h1⟩ => ⟨n, hk _ _ (fun e => hnt vs (e ▸ ⟨n, h1⟩)) h1⟩
  refine ⟨(), (μ, σ.set a (.cell (some p))), ?_, trivial, k, h⟩
  exact R.put (s' := { s with heap := h' }) hk hnt hb (R.hid_ne hv) (R.stk_ne hv) ⟨hb, _, hc', v, rfl, hr.mono k⟩ rfl rfl
end

/-! calls -/
def CallR (G : Gx) (Q : PV → AHeap → Prop) (hid : List (Addr × Obj)) (stk : List (Addr × Locals)) (h : Heap) (r : Result) (s' : Shared) : Prop := match r with
  | .ok (.ret v) => ∃ p σ', Rep G.base G.os hid stk σ' s' ∧ VRep s'.heap p v ∧ Keeps h s'.heap ∧ Q p σ'
  | .ok _ => False
  | .error _ => False
/-- a call, keywords too -/
def CallK (G : Gx) (lv : Lv) (f : Value) (ps : List PV) (kw : List (Str × PV)) (Q : PV → AHeap → Prop) (σ : AHeap) : Prop :=
  ∀ A hid stk s vs ks, AOk lv A → Rep G.base G.os hid stk σ s → VReps s.heap ps vs → VReps s.heap (kw.map (·.2)) ks → codeAny G.M A (.call f ⟨vs, (kw.map (·.1)).zip ks⟩) (CallR G  Q hid stk s.heap) s
abbrev CallS (G : Gx) (lv : Lv) (f : Value) (ps : List PV) (Q : PV → AHeap → Prop) (σ : AHeap) : Prop := CallK G lv f ps []  Q σ

theorem WN_call {c : Cx} {Q : PV → St → Prop} {μ σ} {f : Value} {ps : List PV} (h : CallS c.toGx c.lv f ps (fun p σ' => Q p (μ, σ')) σ) :
    WN c VRep ps (fun vs => call f vs)  Q (μ, σ) := fun vs hid stk s ok R hv => by
  refine wpAny_call (codeAny_mono (h c.A hid ((c.env.locals, μ) :: stk) s vs [] ok.ok R hv .nil) fun r s' x => ?_)
  match r, x with
  | .ok (.ret v), ⟨p, σ', a, b, k, q⟩ => exact ⟨p, (μ, σ'), a, b, k, q⟩
  | .error e, x => exact x.elim

/-- the state without its first frame -/
theorem Rep.pop {base os₀ hid f stk σ} {s : Shared} (R : Rep base os₀ hid (f :: stk) σ s) : Rep base os₀ hid stk σ s := by
  refine ⟨R.stays, R.gens, R.os, fun p hp => ?_, fun g hg => R.frames g (List.mem_cons_of_mem _ hg), (List.nodup_cons.mp (by simpa using R.nodup)).2, R.hnd, R.heap, R.tk⟩
  obtain ⟨a, b, c, d, e⟩ := R.hid p hp
  exact ⟨a, b, c, fun q => d (by simp at q ⊢; exact .inr q), e⟩

def addCells : List (Str × Addr) → (Str → Option PV) → AHeap → AHeap
  | [], _, σ => σ
  | (n, a) :: r, b, σ => (addCells r b σ).set a (.cell (b n))

theorem addCells_off {b : Str → Option PV} {σ : AHeap} {a : Addr} : ∀ {cs : List (Str × Addr)}, (∀ p ∈ cs, p.2 ≠ a) → addCells cs b σ a = σ a
  | [], _ => rfl
  | (n, d) :: r, h => by
    show ((addCells r b σ).set d _) a = _
    rw [AHeap.set_ne _ _ (Ne.symm (h (n, d) (List.mem_cons_self ..)))]
    exact addCells_off fun p hp => h p (List.mem_cons_of_mem _ hp)

section
variable {k : Str → Option NameKind} {h : Heap}
theorem bindL_off {x : Str} : ∀ {names : List Str} {vs : List Value} {m : Str → Option Value}, x ∉ names → bindL k (names.zip vs) m x = m x
  | [], _, _, _ => rfl
  | _ :: _, [], _, _ => rfl
  | n :: ns, v :: vs, m, hx => by
    show bindL k (ns.zip vs) _ x = m x
    rw [bindL_off (fun q => hx (List.mem_cons_of_mem _ q))]
    have : x ≠ n := fun e => hx (e ▸ List.mem_cons_self ..)
    split
    · simp [this]
    · rfl
theorem bindL_rep : ∀ {names : List Str} {ps : List PV} {vs : List Value} {m : Str → Option Value}, VReps h ps vs → names.Nodup → ∀ x p, ((names.zip ps).filter fun b => k b.1 == some .local).lookup x = some p → ∃ v, bindL k (names.zip vs) m x = some v ∧ VRep h p v
  | [], _, _, _, _, _, x, p, e => by simp at e
  | _ :: _, [], _, _, _, _, x, p, e => by simp at e
  | n :: ns, q :: ps, vs, m, hv, hnd, x, p, e => by
    obtain ⟨v, r, rfl, h1, h2⟩ := hv.cons_inv
    obtain ⟨hn, hnd'⟩ := List.nodup_cons.mp hnd
    show ∃ w, bindL k (ns.zip r) _ x = some w ∧ _
    simp only [List.zip_cons_cons, List.filter_cons] at e
    by_cases hx : x = n
    · subst hx
      rw [bindL_off hn]
      by_cases hk : k x = some .local
      · simp only [hk, beq_self_eq_true, if_true, List.lookup_cons] at e ⊢
        cases e; exact ⟨v, rfl, h1⟩
      · exfalso
        have hkb : (k x == some NameKind.local) = false := beq_eq_false_iff_ne.mpr hk
        simp only [hkb, Bool.false_eq_true, if_false] at e
        exact hn (List.of_mem_zip (List.mem_filter.mp (mem_of_lookup e)).1).1
    · refine bindL_rep h2 hnd' x p ?_
      split at e
      · rw [List.lookup_cons] at e
        have : (x == n) = false := beq_eq_false_iff_ne.mpr hx
        simpa only [this] using e
      · exact e
theorem bindC_off {x : Str} : ∀ {names : List Str} {vs : List Value} {m : Str → Option Value}, x ∉ names → bindC k (names.zip vs) m x = m x
  | [], _, _, _ => rfl
  | _ :: _, [], _, _ => rfl
  | n :: ns, v :: vs, m, hx => by
    show bindC k (ns.zip vs) _ x = m x
    rw [bindC_off (fun q => hx (List.mem_cons_of_mem _ q))]
    have : x ≠ n := fun e => hx (e ▸ List.mem_cons_self ..)
    split
    · rfl
    · simp [this]
theorem bindC_rep : ∀ {names : List Str} {ps : List PV} {vs : List Value}, VReps h ps vs → names.Nodup → names.length = ps.length → ∀ x, k x ≠ some .local → OptRep h ((names.zip ps).lookup x) (bindC k (names.zip vs) (fun _ => none) x) := by
  have main : ∀ {names : List Str} {ps : List PV} {vs : List Value} {m : Str → Option Value}, VReps h ps vs → names.Nodup → names.length = ps.length → ∀ x, k x ≠ some .local → x ∈ names → OptRep h ((names.zip ps).lookup x) (bindC k (names.zip vs) m x) := by
    intro names
    induction names with
    | nil => intro ps vs m _ _ _ x _ hx; cases hx
    | cons n ns ih =>
      intro ps vs m hv hnd hl x hk hx
      cases ps with
      | nil => simp at hl
      | cons q ps =>
        obtain ⟨v, r, rfl, h1, h2⟩ := hv.cons_inv
        obtain ⟨hn, hnd'⟩ := List.nodup_cons.mp hnd
        show OptRep h (((n, q) :: ns.zip ps).lookup x) (bindC k (ns.zip r) _ x)
        rw [List.lookup_cons]
        by_cases e : x = n
        · subst e
          rw [bindC_off hn]
          simp only [beq_self_eq_true, hk, if_false, if_true]
          exact ⟨v, rfl, h1⟩
        · have hb : (x == n) = false := beq_eq_false_iff_ne.mpr e
          simp only [hb]
          rcases List.mem_cons.mp hx with q | q
          · exact absurd q e
          · exact ih h2 hnd' (by simpa using hl) x hk q
  intro names ps vs hv hnd hl x hk
  by_cases hx : x ∈ names
  · exact main hv hnd hl x hk hx
  · rw [bindC_off hx]
    have : (names.zip ps).lookup x = none := by
      cases q : (names.zip ps).lookup x with
      | none => rfl
      | some p => exact absurd (List.of_mem_zip (mem_of_lookup q)).1 hx
    rw [this]; rfl
end

theorem AOk.body {lv : Lv} {n : Nat} {A : Around} (ok : AOk ⟨n + 1, lv.calm⟩ A) {env : Env} (hk : env.scope.kind = .function)
    (hg : env.globals = mainGlobals) (hb : env.builtins = builtinsNs) : COk ⟨n, lv.calm⟩ (A.deeper env) env := by
  refine ⟨⟨fun hc => ok.calm hc, ?_, ?_⟩, hk, hg, hb⟩
  · have := ok.depth; show A.depth + 1 + n ≤ 900; simp only at this; omega
  · have := ok.units; show A.units + 3 + 20 * n ≤ 9000; simp only at this; omega

/-- a def of the text, called: what its binder makes of the arguments is told -/
theorem call_bind {G : Gx} {n : Nat} {calm : Bool} {a : Addr} {o : Obj} {fd : FuncData} {body : List Stmt} {ps0 ps : List PV} {kw : List (Str × PV)} {Q : PV → AHeap → Prop} {σ : AHeap} (names : List Str)
    (hG : Gd G) (ho : G.base.get? a = some o) (hd : o.data = .func fd) (hbody : fd.body = .stmts body) (hcd : G.base.CodeRec fd.code fd.qualname)
    (hclo : fd.closure = []) (hgl : fd.globals = mainGlobals) (hbu : fd.builtins = builtinsNs) (hk : fd.scope.kind = .function) (hco : fd.scope.isCoroutine = false) (hgen : fd.scope.isGenerator = false)
    (hnames : names.Nodup) (hlen : names.length = ps.length)
    (hbind : ∀ A hid stk s vs ks E Q, Rep G.base G.os hid stk σ s → VReps s.heap ps0 vs → VReps s.heap (kw.map (·.2)) ks → (∀ vs' s', Rep G.base G.os hid stk σ s' → Keeps s.heap s'.heap → VReps s'.heap ps vs' → Q (names.zip vs') s') → wpAny G.M A (bindArgs fd ⟨vs, (kw.map (·.1)).zip ks⟩) Q E s)
    (hkind : ∀ i, names.all (fun x => fd.scope.names.lookup x == some .local || (fd.scope.names.lookup x == some .cell && ((cellsFrom i fd.scope.names []).lookup x).isSome)) = true)
    (hcells : ∀ i, (cellsFrom i fd.scope.names []).all (fun p => fd.scope.names.lookup p.1 != some .local && ((cellsFrom i fd.scope.names []).lookup p.1 == some p.2)) = true)
    (h : ∀ (c : Cx) (L : Addr), c.toGx = G → c.lv = ⟨n, calm⟩ → c.env.scope = fd.scope → c.env.cells = cellsFrom (L + 1) fd.scope.names [] → (c.env.qual = fd.qualname ++ ".<locals>." ∧ c.env.code = fd.code) → (∀ b, L ≤ b → σ b = none) →
      WS c body (fun f st => Q (match f with | .ret p => p | _ => .none) st.2) ((names.zip ps).filter (fun b => fd.scope.names.lookup b.1 == some .local), addCells (cellsFrom (L + 1) fd.scope.names []) (fun x => (names.zip ps).lookup x) σ)) :
    CallK G ⟨n + 1, calm⟩ (.ref a) ps0 kw  Q σ := fun A hid stk s₀ vs₀ ks ok R₀ hv₀ hks => by
  refine codeAny_call_function (by have := ok.depth; simp only at this; show A.depth < 1000; omega) (R₀.stays _ _ ho) hd hco hgen hbody (hcd.keeps R₀.stays) ?_
  refine hbind _ hid stk s₀ vs₀ ks _ _ R₀ hv₀ hks fun vs s R k₀ hv => ?_
  rw [hclo]
  refine (newFunctionEnv_cells_toks hk (fun x hx => ?_) fun env he s' hin htk => ⟨(hG.nolimit.keeps R.stays).keeps hin.toInCall.keep, ?_⟩)
  · have h1 := List.all_eq_true.mp (hkind (s.heap.objs.size + 1)) x.1 (List.of_mem_zip hx).1
    simp only [Bool.or_eq_true, Bool.and_eq_true, beq_iff_eq] at h1
    exact h1
  · have hL : env.locals = s.heap.objs.size := by rw [he]; rfl
    have hsc : env.scope = fd.scope := by rw [he]; rfl
    have hce : env.cells = cellsFrom (s.heap.objs.size + 1) fd.scope.names [] := by rw [he]; rfl
    obtain ⟨h', tk, rfl, hkeep⟩ := hin.done
    have hbase : ∀ b, s.heap.objs.size ≤ b → G.base.get? b = none := fun b hb => by
      cases q : G.base.get? b with
      | none => rfl
      | some ob => exact absurd (Heap.lt_size (R.stays b ob q)) (Nat.not_lt.mpr hb)
    have hσ : ∀ b, s.heap.objs.size ≤ b → σ b = none := fun b hb => by
      cases q : σ b with
      | none => rfl
      | some ob => exact absurd (R.heap b ob q).lt (Nat.not_lt.mpr hb)
    have k : Keeps s.heap h' := fun b vs ⟨n, e⟩ => ⟨n, hkeep _ _ e⟩
    -- the state of the body
    have hcs : ∀ p ∈ cellsFrom (s.heap.objs.size + 1) fd.scope.names [], s.heap.objs.size < p.2 := fun p hp => by
      have := hin.above p.1 p.2 (by rw [hce]; exact hp); rw [hL] at this; exact this
    have R₁ : ∀ (cs : List (Str × Addr)), (∀ p ∈ cs, p ∈ cellsFrom (s.heap.objs.size + 1) fd.scope.names []) →
        Rep G.base G.os hid ((env.locals, (names.zip ps).filter (fun b => fd.scope.names.lookup b.1 == some .local)) :: stk) (addCells cs (fun x => (names.zip ps).lookup x) σ) { s with heap := h', toks := tk } := by
      intro cs hsub
      have R0 := R.grow (s' := { s with heap := h', toks := tk }) hkeep rfl rfl htk
      have hoff : ∀ b, b < s.heap.objs.size → addCells cs (fun x => (names.zip ps).lookup x) σ b = σ b := fun b hb => addCells_off fun p hp q => Nat.lt_asymm hb (q ▸ hcs p (hsub p hp))
      refine ⟨R0.stays, R0.gens, R0.os, fun p hp => ?_, fun f hf => ?_, ?_, R0.hnd, ?_, R0.tk⟩
      · obtain ⟨a1, b1, c1, d1, e1⟩ := R0.hid p hp
        have hlt := Heap.lt_size (R.hid p hp).1
        refine ⟨a1, b1, by rw [hoff _ hlt]; exact c1, fun q => ?_, e1⟩
        simp only [List.map_cons, List.mem_cons] at q
        rcases q with q | q
        · rw [hL] at q; exact Nat.ne_of_lt hlt q
        · exact d1 q
      · rcases List.mem_cons.mp hf with rfl | hf
        · refine ⟨⟨by rw [hL]; exact hbase _ (Nat.le_refl _), _, hin.toInCall.ns, fun x p e => ?_⟩, ?_⟩
          · obtain ⟨v, e1, e2⟩ := bindL_rep (k := fun x => fd.scope.names.lookup x) (m := fun _ => none) (hv.mono k) hnames x p e
            have hko : env.kindOf = fun x => fd.scope.names.lookup x := by funext x; unfold Env.kindOf; rw [hsc]
            rw [hko]
            exact ⟨v, e1, e2⟩
          · show addCells cs _ σ env.locals = none
            rw [hL, addCells_off (fun p hp q => Nat.ne_of_gt (hcs p (hsub p hp)) q)]
            exact hσ _ (Nat.le_refl _)
        · obtain ⟨a1, b1⟩ := R0.frames f hf
          exact ⟨a1, by rw [hoff _ (R.frames f hf).1.lt]; exact b1⟩
      · simp only [List.map_cons, List.nodup_cons]
        refine ⟨fun q => ?_, R0.nodup⟩
        obtain ⟨f, hf, e⟩ := List.mem_map.mp q
        rw [hL] at e; exact Nat.ne_of_lt (R.frames f hf).1.lt e
      · induction cs with
        | nil => exact R0.heap
        | cons p r ih =>
          obtain ⟨x, d⟩ := p
          intro b ob e
          by_cases q : b = d
          · subst q
            have e' : some (AObj.cell ((names.zip ps).lookup x)) = some ob := by
              have := AHeap.set_same (addCells r (fun x => (names.zip ps).lookup x) σ) b (.cell ((names.zip ps).lookup x))
              exact this.symm.trans e
            cases e'
            have hm := hsub (x, b) (List.mem_cons_self ..)
            have hc1 := List.all_eq_true.mp (hcells (s.heap.objs.size + 1)) (x, b) hm
            simp only [Bool.and_eq_true, bne_iff_ne, beq_iff_eq] at hc1
            refine ⟨hbase _ (Nat.le_of_lt (hcs _ hm)), _, hin.cell x b (by rw [hce]; exact hc1.2), ?_⟩
            have hko : env.kindOf = fun x => fd.scope.names.lookup x := by funext x; unfold Env.kindOf; rw [hsc]
            rw [hko]
            exact bindC_rep (hv.mono k) hnames hlen x hc1.1
          · have e' : addCells r (fun x => (names.zip ps).lookup x) σ b = some ob := by
              have := AHeap.set_ne (addCells r (fun x => (names.zip ps).lookup x) σ) (.cell ((names.zip ps).lookup x)) q
              exact this.symm.trans e
            exact ih (fun p hp => hsub p (List.mem_cons_of_mem _ hp)) (fun b hb => addCells_off fun p hp q => Nat.lt_asymm hb (q ▸ hcs p (hsub p (List.mem_cons_of_mem _ hp)))) b ob e'
    have hok := AOk.body (lv := ⟨n + 1, calm⟩) ok (env := env) (by rw [hsc]; exact hk) (by rw [he]; exact hgl) (by rw [he]; exact hbu)
    have hW := h ⟨G, ⟨n, calm⟩, A.deeper env, env⟩ s.heap.objs.size rfl rfl hsc hce (by rw [he]; exact ⟨rfl, rfl⟩) hσ hid stk _ hok (R₁ _ fun _ hp => hp)
    refine codeAny_func (wpAny_mono hW (fun f s₂ hp => ?_) fun e s₂ hx => ?_)
    · obtain ⟨fl, st', R', hf, k', q⟩ := hp
      cases fl with
      | next => cases hf; exact ⟨.none, st'.2, R'.pop, rfl, k₀.trans (k.trans k'), q⟩
      | brk => cases hf; exact ⟨.none, st'.2, R'.pop, rfl, k₀.trans (k.trans k'), q⟩
      | cont => cases hf; exact ⟨.none, st'.2, R'.pop, rfl, k₀.trans (k.trans k'), q⟩
      | ret p => obtain ⟨v, rfl, hv'⟩ := hf; exact ⟨p, st'.2, R'.pop, hv', k₀.trans (k.trans k'), q⟩
    · exact False.elim hx
/-- a def of the text, called: its parameters are names, its cells are new -/
theorem call_def {G : Gx} {n : Nat} {calm : Bool} {a : Addr} {o : Obj} {fd : FuncData} {body : List Stmt} {ps : List PV} {Q : PV → AHeap → Prop} {σ : AHeap} (names : List Str)
    (hG : Gd G) (ho : G.base.get? a = some o) (hd : o.data = .func fd) (hbody : fd.body = .stmts body) (hcd : G.base.CodeRec fd.code fd.qualname)
    (hclo : fd.closure = []) (hgl : fd.globals = mainGlobals) (hbu : fd.builtins = builtinsNs) (hk : fd.scope.kind = .function) (hco : fd.scope.isCoroutine = false) (hgen : fd.scope.isGenerator = false)
    (hnames : names.Nodup) (hlen : names.length = ps.length)
    (hbind : ∀ vs : List Value, vs.length = names.length → bindArgs fd ⟨vs, []⟩ = pure (names.zip vs))
    (hkind : ∀ i, names.all (fun x => fd.scope.names.lookup x == some .local || (fd.scope.names.lookup x == some .cell && ((cellsFrom i fd.scope.names []).lookup x).isSome)) = true)
    (hcells : ∀ i, (cellsFrom i fd.scope.names []).all (fun p => fd.scope.names.lookup p.1 != some .local && ((cellsFrom i fd.scope.names []).lookup p.1 == some p.2)) = true)
    (h : ∀ (c : Cx) (L : Addr), c.toGx = G → c.lv = ⟨n, calm⟩ → c.env.scope = fd.scope → c.env.cells = cellsFrom (L + 1) fd.scope.names [] → (c.env.qual = fd.qualname ++ ".<locals>." ∧ c.env.code = fd.code) → (∀ b, L ≤ b → σ b = none) →
      WS c body (fun f st => Q (match f with | .ret p => p | _ => .none) st.2) ((names.zip ps).filter (fun b => fd.scope.names.lookup b.1 == some .local), addCells (cellsFrom (L + 1) fd.scope.names []) (fun x => (names.zip ps).lookup x) σ)) :
    CallS G ⟨n + 1, calm⟩ (.ref a) ps  Q σ :=
  call_bind names hG ho hd hbody hcd hclo hgl hbu hk hco hgen hnames hlen (fun A hid stk s vs ks E Q R hv _ h => by
    show wpAny _ _ (bindArgs fd ⟨vs, []⟩) _ _ s
    rw [hbind vs (hv.length.trans hlen.symm)]
    exact wpAny_pure (h vs s R (fun _ _ h => h) hv)) hkind hcells h
end Mine
end
section
open PySem PySem.W PyProof.Rows
set_option Elab.async false
set_option linter.unusedVariables false
namespace Mine

def AObj.items? : AObj → Option (List PV)
  | .list l | .rlist l => some l
  | _ => none
/-- the items of the list at a -/
def seqAt (σ : AHeap) (a : Addr) : Option (List PV) := (σ a).bind AObj.items?

theorem LI.isList {h : Heap} {a : Addr} {vs : List Value} (x : LI h a vs) : h.IsList a vs.toArray := let ⟨n, e⟩ := x; ⟨_, e, rfl, n, rfl⟩
theorem TU.isTuple {h : Heap} {a : Addr} {vs : List Value} (x : TU h a vs) : h.IsTuple a vs.toArray := let ⟨n, e⟩ := x; ⟨_, e, rfl, n, rfl⟩

theorem LI.not_TU {h : Heap} {a : Addr} {vs : List Value} (x : LI h a vs) : ∀ ws, ¬ TU h a ws := fun ws ⟨n', e'⟩ => by
  obtain ⟨n, e⟩ := x
  have := congrArg Obj.cls (Option.some.inj (e.symm.trans e'))
  exact absurd this (by show Value.type "list" ≠ Value.type "tuple"; decide)

section
variable {base : Heap} {os₀ : OsState} {hid : List (Addr × Obj)} {stk : List (Addr × Locals)} {σ : AHeap} {s : Shared}

theorem Rep.seq (R : Rep base os₀ hid stk σ s) {a : Addr} {l : List PV} (h : seqAt σ a = some l) : ∃ vs, LI s.heap a vs ∧ VReps s.heap l vs := by
  unfold seqAt at h
  cases q : σ a with
  | none => rw [q] at h; cases h
  | some o =>
    rw [q] at h
    cases o with
    | list l' => cases h; exact (R.heap _ _ q).2
    | rlist l' => cases h; exact R.heap _ _ q
    | cell v => cases h
    | range x y z => cases h
    | raw o => cases h
    | own r => cases h

/-- a list of ours, written over -/
theorem Rep.listUpd (R : Rep base os₀ hid stk σ s) {a : Addr} {l l' : List PV} (hv : σ a = some (.list l)) {h' : Heap} {tk : Nat} {ws : List Value}
    (hk : ∀ b ob, b ≠ a → s.heap.get? b = some ob → h'.get? b = some ob) (hn : LI h' a ws) (hw : VReps s.heap l' ws) (ht : s.toks ≤ tk := by first | exact Nat.le_refl _ | exact Nat.le_succ _ | assumption) :
    Rep base os₀ hid stk (σ.set a (.list l')) { s with heap := h', toks := tk } ∧ Keeps s.heap h' := by
  obtain ⟨hb, vs, ⟨n, e⟩, _⟩ := R.heap _ _ hv
  have hnt : ∀ vs, ¬ TU s.heap a vs := LI.not_TU ⟨n, e⟩
  have k : Keeps s.heap h' := fun b vs ⟨n, h1⟩ => ⟨n, hk _ _ (fun e => hnt vs (e ▸ ⟨n, h1⟩)) h1⟩
  exact ⟨R.put (s' := { s with heap := h', toks := tk }) hk hnt hb (R.hid_ne hv) (R.stk_ne hv) ⟨hb, ws, hn, hw.mono k⟩ rfl rfl ht, k⟩

theorem LI.upd {h : Heap} {a : Addr} {vs ws : List Value} (x : LI h a vs) {f : Array Value → Array Value} (hf : f vs.toArray = ws.toArray) : LI (h.update a (Obj.mapSeq f)) a ws := by
  obtain ⟨n, e⟩ := x
  have : ∃ m, Obj.mapSeq f { cls := .type "list", dict := none, data := .seq vs.toArray n, slots := #[] } = { cls := .type "list", dict := none, data := .seq ws.toArray m, slots := #[] } := by
    simp only [Obj.mapSeq, hf]; exact ⟨_, rfl⟩
  obtain ⟨m, hm⟩ := this
  exact ⟨m, by rw [Heap.get?_update_self _ e (by rw [hm]; rfl), hm]⟩
theorem upd_other {h : Heap} {a : Addr} {f : Obj → Obj} : ∀ b ob, b ≠ a → h.get? b = some ob → (h.update a f).get? b = some ob := fun b ob hb e => (Heap.get?_update_other _ _ (Ne.symm hb)).trans e
end

section
variable {c : Cx} {st : St} {μ : Locals} {σ : AHeap}

/-! arguments -/
theorem A_nil {pos} {Q : List PV → St → Prop} (h : Q [] st) : WA c pos []  Q st := fun hid stk s ok R => Calls.spliced_nil ⟨[], st, R, .nil, .refl _, h⟩
theorem A_cons {pos e rest} {Q : List PV → St → Prop} (h : WE c e  (fun p st₁ => WA c pos rest  (fun ps st₂ => Q (p :: ps) st₂) st₁) st)
    (he : starEach (e :: rest) c.env = (false, eval e c.env) :: starEach rest c.env) : WA c pos (e :: rest)  Q st := fun hid stk s ok R => by
  rw [he]
  exact Calls.spliced_cons (wpAny_mono (h hid stk s ok R) (fun v s₁ ⟨p, st₁, R₁, hv, k₁, h₁⟩ =>
    wpAny_mono (h₁ hid stk s₁ ok R₁) (fun vs s₂ ⟨ps, st₂, R₂, hvs, k₂, q⟩ => ⟨p :: ps, st₂, R₂, .cons (hv.mono k₂) hvs, k₁.trans k₂, q⟩) fun _ _ y => y) fun _ _ y => y)

/-! calls -/
def pvVal : PV → Value
  | .bi id => .builtin id
  | .ty T => .type T
  | .ref a => .ref a
  | _ => .none
/-- a thing that may be called so -/
def CallF (c : Cx) : PV → Prop
  | .bi _ | .ty _ => True
  | .ref a => ∃ o fd, c.base.get? a = some o ∧ o.data = .func fd
  | _ => False

theorem E_Call {func e rest pos} {Q : PV → St → Prop} (h : WE c func  (fun fv st₁ => CallF c fv ∧ WA c pos (e :: rest)  (fun ps st₂ => WN c VRep ps (fun vs => call (pvVal fv) vs)  Q st₂) st₁) st)
    (hev : eval (.Call func (e :: rest) [] pos) c.env = (do callWith pos (← eval func c.env) [] (backTo pos (starEach (e :: rest) c.env)) (backToKw pos (keywordEach [] c.env))))
    (he : starEach (e :: rest) c.env = (false, eval e c.env) :: starEach rest c.env)
    (hplain : (backTo pos (starEach rest c.env)).any (·.1) = false) : WE c (.Call func (e :: rest) [] pos)  Q st := fun hid stk s ok R => by
  rw [hev]
  refine wpAny_bind (wpAny_mono (h hid stk s ok R) (fun v s₁ hp => ?_) fun _ _ y => y)
  obtain ⟨fv, st₁, R₁, hv, k₁, hF, h₁⟩ := hp
  have fin : ∀ vs s₂, Post c VReps (fun ps st₂ => WN c VRep ps (fun vs => call (pvVal fv) vs)  Q st₂) hid stk s₁.heap vs s₂ → wpAny c.M c.A (call (pvVal fv) vs) (Post c VRep Q hid stk s.heap) PostX s₂ :=
    fun vs s₂ ⟨ps, st₂, R₂, hvs, k₂, q⟩ => wpAny_mono (q vs hid stk s₂ ok R₂ hvs) (fun _ _ y => y.keeps (k₁.trans k₂)) fun _ _ y => y
  show wpAny _ _ (callWith pos v [] (backTo pos (starEach (e :: rest) c.env)) []) _ _ s₁
  cases fv with
  | bi id =>
    simp only [VRep] at hv; subst hv
    exact callWith_builtin1 (wpAny_mono (h₁ hid stk s₁ ok R₁) fin fun _ _ y => y) he hplain
  | ty T =>
    simp only [VRep] at hv; subst hv
    exact callWith_type1 (wpAny_mono (h₁ hid stk s₁ ok R₁) fin fun _ _ y => y) he hplain
  | ref a =>
    simp only [VRep] at hv; subst hv
    obtain ⟨o, fd, ho, hfd⟩ := hF
    exact callWith_def hfd (wpAny_mono (h₁ hid stk s₁ ok R₁) (fun vs s₂ hq => ⟨(let ⟨_, r⟩ := hq.rep; r.stays _ _ ho), fin vs s₂ hq⟩) fun _ _ y => y) he
  | none => exact hF.elim
  | bool b => exact hF.elim
  | int i => exact hF.elim
  | str x => exact hF.elim
  | tup l => exact hF.elim

/-! methods of lists -/
theorem E_MethList {o name apos e rest pos id} {Q : PV → St → Prop} (slot : Slot "list" name id) (hty : typeOf (.builtin id) = pure (.type "method_descriptor"))
    (h : WE c o  (fun ov st₁ => (∃ a l, ov = .ref a ∧ seqAt st₁.2 a = some l) ∧ WA c pos (e :: rest)  (fun ps st₂ => WN c VRep (ov :: ps) (fun vs => call (.builtin id) vs)  Q st₂) st₁) st)
    (hbase : attributeBase o name c.env (eval o c.env) = eval o c.env)
    (hfew : ((backTo pos (starEach (e :: rest) c.env)).all (fun x => !x.1) && (backToKw pos (keywordEach [] c.env)).all (fun x => x.1.isSome)
      && decide ((e :: rest).length + ([] : List Keyword).length + (if ([] : List Keyword).isEmpty then 0 else 1) < 30)) = true)
    (hline : (apos.endLine == pos.line) = true)
    (he : starEach (e :: rest) c.env = (false, eval e c.env) :: starEach rest c.env)
    (hplain : (backTo pos (starEach rest c.env)).any (·.1) = false) : WE c (.Call (.Attribute o name apos) (e :: rest) [] pos)  Q st := fun hid stk s ok R => by
  refine wpAny_Call_method hbase hfew hline F.plainAttrs_list slot hty (wpAny_mono (h hid stk s ok R) (fun v s₁ hp => ?_) fun _ _ y => y)
  obtain ⟨ov, st₁, R₁, hv, k₁, ⟨a, l, rfl, hs⟩, h₁⟩ := hp
  simp only [VRep] at hv; subst hv
  obtain ⟨vs, hL, _⟩ := R₁.seq hs
  refine ⟨hL.isList.typeIs, fun b hb => ?_, callWith_method1 (wpAny_mono (h₁ hid stk s₁ ok R₁) (fun vs s₂ hq => ?_) fun _ _ y => y) he hplain⟩
  · cases hb; obtain ⟨n, e⟩ := hL; exact ⟨_, e, rfl⟩
  · obtain ⟨ps, st₂, R₂, hvs, k₂, q⟩ := hq
    exact wpAny_mono (q (.ref a :: vs) hid stk s₂ ok R₂ (.cons rfl hvs)) (fun _ _ y => y.keeps (k₁.trans k₂)) fun _ _ y => y
/-! items -/
def GetI (c : Cx) (p q : PV) (Q : PV → St → Prop) (st : St) : Prop :=
  ∀ v u hid stk s, COk c.lv c.A c.env → Rep c.base c.os hid ((c.env.locals, st.1) :: stk) st.2 s → VRep s.heap p v → VRep s.heap q u →
    (∃ T id, s.TypeIs v T ∧ typeLookup (.type T) "__getitem__" = pure (some (.builtin id))) ∧ wpAny c.M c.A (getItem v u) (Post c VRep Q hid stk s.heap) PostX s
def notSlice : Expr → Bool
  | .Slice .. => false
  | _ => true
theorem subscripted_not {slice : Expr} (h : notSlice slice = true) (o i : Value) : subscripted slice false o i = operate [o, i] (getItem o i) := by
  cases slice <;> first | (cases h; done) | with_unfolding_all rfl
theorem E_Subscript {value slice pos} {Q : PV → St → Prop} (h : WE c value  (fun p st₁ => WE c slice  (fun q st₂ => GetI c p q  Q st₂) st₁) st)
    (hs : notSlice slice = true) : WE c (.Subscript value slice pos)  Q st := fun hid stk s ok R => by
  show wpAny _ _ (do
    let o ← eval value c.env
    let i ← holding [o] (eval slice c.env)
    standAt pos
    let r ← subscripted slice (← getitemInPython o) o i
    letTemporaryGo value o r
    pure r) _ _ s
  refine wpAny_bind (wpAny_mono (h hid stk s ok R) (fun v s₁ hp => ?_) fun _ _ y => y)
  obtain ⟨p, st₁, R₁, hv, k₁, h₁⟩ := hp
  refine wpAny_bind (wpAny_holding (wpAny_mono (h₁ hid stk s₁ ok R₁) (fun u s₂ hq => ?_) fun _ _ y => y))
  obtain ⟨q, st₂, R₂, hu, k₂, h₂⟩ := hq
  refine wpAny_bind (wpAny_standAt ?_)
  obtain ⟨⟨T, id, hT, hl⟩, hg⟩ := h₂ v u hid stk s₂ ok R₂ (hv.mono k₂) hu
  exact tail_any (value := value) (slice := slice) hT hl (wpAny_mono hg (fun _ _ y => y.keeps (k₁.trans k₂)) fun _ _ y => y) (subscripted_not hs v u)

theorem get_list {a : Addr} {l : List PV} {i : Int} {p : PV} {Q : PV → St → Prop} (hs : seqAt σ a = some l) (h0 : 0 ≤ i) (hx : l[i.toNat]? = some p) (hz : l.length ≤ 16777216) (h : Q p (μ, σ)) : GetI c (.ref a) (.int i)  Q (μ, σ) :=
  fun v u hid stk s ok R hv hu => by
    simp only [VRep] at hv hu; subst hv
    obtain ⟨t, rfl⟩ := hu
    obtain ⟨vs, hL, hvs⟩ := R.seq hs
    obtain ⟨x, hx', hr⟩ := hvs.get _ _ hx
    have hlt : i.toNat < l.length := (List.getElem?_eq_some_iff.mp hx).1
    exact ⟨⟨"list", _, hL.isList.typeIs, slot_list_getitem.lookup⟩, wpAny_getItem_list hL.isList h0 (by omega) (by simpa using hx') ⟨p, (μ, σ), R, hr, .refl _, h⟩⟩

/-- a plain list's item, stored -/
theorem wp_setItem {M : Model} {A : Around} {E : Value → Shared → Prop} {prog : Program} {w : World} {s : Shared} {a : Addr} {ws : List Value} {i : Int} {t : Tok} {v : Value} {Q : Unit → Shared → Prop} (hL : LI s.heap a ws) (h0 : 0 ≤ i) (hi : i < ws.length) (hz : ws.length ≤ 16777216)
    (h : Q () { s with heap := s.heap.update a (Obj.mapSeq (·.setIfInBounds i.toNat v)) }) : wpAny (model prog w) A (setItem (.ref a) (.int i t) v) Q E s := by
  have hT := hL.isList.typeIs
  obtain ⟨n, e⟩ := hL
  have hfit : i < 2 ^ 63 := by omega
  unfold setItem
  refine wpAny_holding (wpAny_bind (wpAny_sequenceKey hT (by decide) ?_))
  refine wpAny_bind (wpAny_callSpecial?_slot (name := Str.ofString "__setitem__") hT slot_list_setitem (wpAny_call_entry slot_list_setitem hT entry_list_setitem ?_ (args_list_setitem _ _ _)))
  show wpAny _ _ (Builtin.List.listSubscript? (.int i t) >>= _) _ _ s
  refine wpAny_bind (wpAny_listSubscript_int (fitsIndex_of h0 hfit) ?_)
  clear hfit hz
  obtain ⟨j, rfl⟩ := Int.eq_ofNat_of_zero_le h0
  have hj : j < ws.toArray.size := by simp; omega
  show wpAny _ _ ((seqItemAt a j >>= fun r => pure (r.map (j, ·))) >>= _) _ _ s
  refine wpAny_bind (wpAny_bind (wpAny_seqItemAt e rfl (wpAny_pure ?_)))
  rw [Array.getElem?_eq_getElem hj]
  show wpAny _ _ (setSeqItemAt a j v >>= _) _ _ s
  refine wpAny_bind (wpAny_setSeqItemAt e rfl ?_)
  first
    | exact wpAny_bind (wpAny_pure (wpAny_pure ⟨.none, rfl, wpAny_pure h⟩))
    | exact wpAny_pure ⟨.none, rfl, wpAny_pure h⟩

def W3 (c : Cx) {α β : Type} (rep : Heap → β → α → Prop) (p q r : PV) (t : Value → Value → Value → Sem α) (Q : β → St → Prop) (st : St) : Prop :=
  ∀ v u w hid stk s, COk c.lv c.A c.env → Rep c.base c.os hid ((c.env.locals, st.1) :: stk) st.2 s → VRep s.heap p v → VRep s.heap q u → VRep s.heap r w → wpAny c.M c.A (t v u w) (Post c rep Q hid stk s.heap) PostX s

theorem set_list {a : Addr} {l : List PV} {i : Int} {p : PV} {Q : Unit → St → Prop} (hs : σ a = some (.list l)) (h0 : 0 ≤ i) (hi : i < l.length) (hz : l.length ≤ 16777216) (h : Q () (μ, σ.set a (.list (l.set i.toNat p)))) :
    W3 c UnitRep (.ref a) (.int i) p (fun o i v => setItem o i v)  Q (μ, σ) := fun v1 v2 v3 hid stk s ok R h1 h2 h3 => by
  simp only [VRep] at h1 h2; subst h1
  obtain ⟨t, rfl⟩ := h2
  obtain ⟨hb, ws, hL, hws⟩ := R.heap _ _ hs
  have hlen := hws.length
  refine wp_setItem (M := c.M) hL h0 (by omega) (by omega) ?_
  obtain ⟨R', k⟩ := R.listUpd (tk := s.toks) (ws := ws.set i.toNat v3) hs upd_other (hL.upd (f := fun x => x.setIfInBounds i.toNat v3) (by simp)) (hws.set i.toNat h3)
  exact ⟨(), (μ, _), R', trivial, k, h⟩
theorem S_AssignSub {o i pos' value pos} {Q : AFlow → St → Prop}
    (h : WE c value  (fun p st₁ => WE c o  (fun po st₂ => WE c i  (fun pi st₃ => W3 c UnitRep po pi p (fun o i v => setItem o i v)  (fun _ st₄ => Q .next st₄) st₃) st₂) st₁) st)
    (hs : swapsWith value (some (.Subscript o i pos')) pos.line c.env = pure false) : WX c (.Assign [.Subscript o i pos'] value pos)  Q st := fun hid stk s ok R =>
  wpAny_Assign_Subscript (wpAny_mono (h hid stk s ok R) (fun v s₁ ⟨p, st₁, R₁, hv, k₁, h₁⟩ =>
    wpAny_mono (h₁ hid stk s₁ ok R₁) (fun vo s₂ ⟨po, st₂, R₂, hvo, k₂, h₂⟩ =>
      wpAny_mono (h₂ hid stk s₂ ok R₂) (fun vi s₃ ⟨pi, st₃, R₃, hvi, k₃, h₃⟩ =>
        wpAny_mono (h₃ vo vi v hid stk s₃ ok R₃ (hvo.mono k₃) hvi (hv.mono (k₂.trans k₃))) (fun _ s₄ ⟨_, st₄, R₄, _, k₄, q⟩ => ⟨.next, st₄, R₄, rfl, (k₁.trans k₂).trans (k₃.trans k₄), q⟩) fun _ _ y => y) fun _ _ y => y) fun _ _ y => y) fun _ _ y => y) hs

/-! list calls -/
theorem len_seq {a : Addr} {l : List PV} {Q : PV → St → Prop} (hs : seqAt σ a = some l) (hz : l.length ≤ 16777216) (h : Q (.int l.length) (μ, σ)) : WN c VRep [.ref a] (fun vs => call (.builtin "len") vs)  Q (μ, σ) := fun vs hid stk s ok R hv => by
  obtain ⟨v1, r1, rfl, h1, hv⟩ := hv.cons_inv
  rw [hv.nil_inv]
  simp only [VRep] at h1; subst h1
  obtain ⟨ws, hL, hws⟩ := R.seq hs
  have hlen := hws.length
  refine len_list hL.isList (by simp; omega) ⟨.int l.length, (μ, σ), R.toks _, ⟨s.toks + 1, ?_⟩, .refl _, h⟩
  simp [hlen]
theorem append_list {a : Addr} {l : List PV} {p : PV} {Q : PV → St → Prop} (hs : σ a = some (.list l)) (hz : l.length ≤ 16777216) (h : Q .none (μ, σ.set a (.list (l ++ [p])))) :
    WN c VRep [.ref a, p] (fun vs => call (.builtin "list.append") vs)  Q (μ, σ) := fun vs hid stk s ok R hv => by
  obtain ⟨v1, r1, rfl, h1, hv⟩ := hv.cons_inv
  obtain ⟨v2, r2, rfl, h2, hv⟩ := hv.cons_inv
  rw [hv.nil_inv]
  simp only [VRep] at h1; subst h1
  obtain ⟨hb, ws, hL, hws⟩ := R.heap _ _ hs
  have hlen := hws.length
  refine wpAny_list_append_plain (items := ws.toArray) hL (fun h' hp hsb => ?_) (by simp [sizeLine_eq]; omega)
  have hn : LI h' a (ws ++ [v2]) := by simpa [LI, Heap.PlainList] using hp
  obtain ⟨R', k⟩ := R.listUpd (tk := s.toks) hs (fun b ob hne e => (hsb.2 b hne).trans e) hn (hws.append (.cons h2 .nil))
  exact ⟨.none, (μ, _), R', by simp only [VRep], k, h⟩

/-! truth -/
theorem truthy_b {b : Bool} {Q : Bool → St → Prop} (h : Q b st) : W1 c BoolRep (.bool b) truthy  Q st := fun v hid stk s ok R hv => by
  simp only [VRep] at hv; subst hv; exact wpAny_truthy_bool ⟨b, st, R, rfl, .refl _, h⟩
theorem truthy_l {a : Addr} {l : List PV} {Q : Bool → St → Prop} (hs : seqAt σ a = some l) (hz : l.length ≤ 16777216) (h : Q (!l.isEmpty) (μ, σ)) : W1 c BoolRep (.ref a) truthy  Q (μ, σ) := fun v hid stk s ok R hv => by
  simp only [VRep] at hv; subst hv
  obtain ⟨ws, hL, hws⟩ := R.seq hs
  have hlen := hws.length
  refine wpAny_truthy_list hL.isList (by simp; omega) ⟨!l.isEmpty, (μ, σ), R.toks _, ?_, .refl _, h⟩
  show (!ws.toArray.isEmpty) = !l.isEmpty
  cases l <;> cases ws <;> simp_all

/-! ints -/
theorem W2_ints {op : Operator} {i j r : Int} {Q : PV → St → Prop} (hop : ∀ {prog : Program} {w : World} {A : Around} {E : Value → Shared → Prop} {s : Shared} {t u : Tok} {Q : Value → Shared → Prop}, Q (.int r s.toks) { s with toks := s.toks + 1 } → wpAny (model prog w) A (binaryOp op (.int i t) (.int j u)) Q E s)
    (h : Q (.int r) st) : W2 c VRep (.int i) (.int j) (binaryOp op)  Q st := fun v u hid stk s ok R hv hu => by
  simp only [VRep] at hv hu; obtain ⟨t, rfl⟩ := hv; obtain ⟨t', rfl⟩ := hu
  exact hop ⟨.int r, st, R.toks _, ⟨_, rfl⟩, .refl _, h⟩
theorem bin_add {i j : Int} {Q : PV → St → Prop} (h : Q (.int (i + j)) st) : W2 c VRep (.int i) (.int j) (binaryOp .Add)  Q st := W2_ints (fun q => PyProof.Rows.add_int q) h
theorem bin_sub {i j : Int} {Q : PV → St → Prop} (h : Q (.int (i - j)) st) : W2 c VRep (.int i) (.int j) (binaryOp .Sub)  Q st := W2_ints (fun q => PyProof.Rows.sub_int q) h
theorem bin_mul {i j : Int} {Q : PV → St → Prop} (h : Q (.int (i * j)) st) (hm : IntMulOk i j) : W2 c VRep (.int i) (.int j) (binaryOp .Mult)  Q st := W2_ints (fun q => PySem.P.mul_int q hm) h
theorem bin_mod {i j : Int} {Q : PV → St → Prop} (hb : j ≠ 0) (h : Q (.int (i.fmod j)) st) : W2 c VRep (.int i) (.int j) (binaryOp .Mod)  Q st := W2_ints (fun q => PyProof.Rows.mod_int hb q) h
theorem bin_shr {i j : Int} {Q : PV → St → Prop} (hb : 0 ≤ j) (h : Q (.int (i.fdiv (2 ^ j.toNat))) st) : W2 c VRep (.int i) (.int j) (binaryOp .RShift)  Q st := W2_ints (fun q => PyProof.Rows.rshift_int hb q) h

theorem W2_cmp {op : CmpOp} {i j : Int} {r : Bool} {Q : PV → St → Prop} (hop : ∀ {prog : Program} {w : World} {A : Around} {E : Value → Shared → Prop} {s : Shared} {t u : Tok} {Q : Value → Shared → Prop}, Q (.bool r) s → wpAny (model prog w) A (compareOp op (.int i t) (.int j u)) Q E s)
    (h : Q (.bool r) st) : W2 c VRep (.int i) (.int j) (compareOp op)  Q st := fun v u hid stk s ok R hv hu => by
  simp only [VRep] at hv hu; obtain ⟨t, rfl⟩ := hv; obtain ⟨t', rfl⟩ := hu
  exact hop ⟨.bool r, st, R, rfl, .refl _, h⟩
theorem cmp_lt {i j : Int} {Q : PV → St → Prop} (h : Q (.bool (decide (i < j))) st) : W2 c VRep (.int i) (.int j) (compareOp .Lt)  Q st := W2_cmp (fun q => PySem.P.lt_int q) h
theorem cmp_le {i j : Int} {Q : PV → St → Prop} (h : Q (.bool (decide (i ≤ j))) st) : W2 c VRep (.int i) (.int j) (compareOp .LtE)  Q st := W2_cmp (fun q => PySem.P.le_int q) h
theorem cmp_gt {i j : Int} {Q : PV → St → Prop} (h : Q (.bool (decide (i > j))) st) : W2 c VRep (.int i) (.int j) (compareOp .Gt)  Q st := W2_cmp (fun q => PySem.P.gt_int q) h
theorem cmp_eq {i j : Int} {Q : PV → St → Prop} (h : Q (.bool (i == j)) st) : W2 c VRep (.int i) (.int j) (compareOp .Eq)  Q st := W2_cmp (fun q => PySem.P.eq_int q) h
end
end Mine
end
section
open PySem PySem.W PyProof.Rows
set_option Elab.async false
set_option linter.unusedVariables false
namespace Mine

/-- st' tells no more than st -/
def St.le (st' st : St) : Prop := (∀ x p, st'.1.lookup x = some p → st.1.lookup x = some p) ∧ st'.2.Sub st.2
theorem St.le_refl (st : St) : St.le st st := ⟨fun _ _ h => h, .refl _⟩
theorem lookup_append_left {x : Str} {p : PV} : ∀ {μ ν : Locals}, μ.lookup x = some p → (μ ++ ν).lookup x = some p
  | [], _, h => by cases h
  | (y, q) :: r, ν, h => by
    rw [List.cons_append, List.lookup_cons]
    rw [List.lookup_cons] at h
    split at h
    · assumption
    · exact lookup_append_left h
theorem St.le_app {μ ν : Locals} {σ σ' : AHeap} (h : σ.Sub σ') : St.le (μ, σ) (μ ++ ν, σ') := ⟨fun _ _ e => lookup_append_left e, h⟩

section
variable {c : Cx} {st : St}
theorem WT.le {α β : Type} {rep : Heap → β → α → Prop} {t : Sem α} {Q : β → St → Prop} {st' : St} (h : WT c rep t  Q st') (hl : St.le st' st) : WT c rep t  Q st :=
  fun hid stk s ok R => h hid stk s ok ((R.weaken hl.2).locals hl.1)

/-! continuations that stand once -/
def seqQ (c : Cx) (l : List Stmt) (Q : AFlow → St → Prop) : AFlow → St → Prop
  | .next, st => WS c l  Q st
  | .brk, st => Q .brk st
  | .cont, st => Q .cont st
  | .ret p, st => Q (.ret p) st
theorem seqQ_next {l : List Stmt} {Q : AFlow → St → Prop} (h : WS c l  Q st) : seqQ c l  Q .next st := h
theorem seqQ_cont {l : List Stmt} {Q : AFlow → St → Prop} (h : Q .cont st) : seqQ c l  Q .cont st := h
theorem seqQ_ret {l : List Stmt} {Q : AFlow → St → Prop} {p} (h : Q (.ret p) st) : seqQ c l  Q (.ret p) st := h
theorem S_seq {x l} {Q : AFlow → St → Prop} (h : WX c x  (seqQ c l  Q) st) : WS c (x :: l)  Q st :=
  S_cons (WT.mono h (fun f st q => by cases f <;> exact q) fun _ _ q => q)
theorem S_last {x} {Q : AFlow → St → Prop} (h : WX c x  Q st) : WS c [x]  Q st :=
  S_cons (WT.mono h (fun f st q => by cases f with | next => exact S_nil q | brk => exact q | cont => exact q | ret p => exact q) fun _ _ q => q)

def ifQ (c : Cx) (body orelse : List Stmt) (Q : AFlow → St → Prop) (b : Bool) (st : St) : Prop := if b then WS c body  Q st else WS c orelse  Q st
theorem ifQ_true {l r : List Stmt} {Q : AFlow → St → Prop} (h : WS c l  Q st) : ifQ c l r  Q true st := h
theorem ifQ_false {l r : List Stmt} {Q : AFlow → St → Prop} (h : WS c r  Q st) : ifQ c l r  Q false st := h
theorem ifQ_dec {l r : List Stmt} {Q : AFlow → St → Prop} {b : Bool} (h1 : b = true → WS c l  Q st) (h2 : b = false → WS c r  Q st) : ifQ c l r  Q b st := by
  cases b
  · exact h2 rfl
  · exact h1 rfl
theorem S_if {test body orelse pos} {Q : AFlow → St → Prop} (h : WC c test  (ifQ c body orelse  Q) st) : WX c (.If test body orelse pos)  Q st := S_If h

def andQ (c : Cx) (l : List Expr) (Q : Bool → St → Prop) (b : Bool) (st : St) : Prop := if b then WAll c .And l  Q st else Q false st
theorem andQ_true {l} {Q : Bool → St → Prop} (h : WAll c .And l  Q st) : andQ c l  Q true st := h
theorem andQ_false {l} {Q : Bool → St → Prop} (h : Q false st) : andQ c l  Q false st := h
theorem andQ_dec {l} {Q : Bool → St → Prop} {b : Bool} (h1 : b = true → WAll c .And l  Q st) (h2 : b = false → Q false st) : andQ c l  Q b st := by
  cases b
  · exact h2 rfl
  · exact h1 rfl
theorem And_step {x l} {Q : Bool → St → Prop} (h : WC c x  (andQ c l  Q) st) : WAll c .And (x :: l)  Q st := And_cons h
def orQ (c : Cx) (l : List Expr) (Q : Bool → St → Prop) (b : Bool) (st : St) : Prop := if b then Q true st else WAll c .Or l  Q st
theorem orQ_true {l} {Q : Bool → St → Prop} (h : Q true st) : orQ c l  Q true st := h
theorem orQ_false {l} {Q : Bool → St → Prop} (h : WAll c .Or l  Q st) : orQ c l  Q false st := h
theorem Or_step {x l} {Q : Bool → St → Prop} (h : WC c x  (orQ c l  Q) st) : WAll c .Or (x :: l)  Q st := Or_cons h
/-- the last of a chain -/
theorem And_last {x} {Q : Bool → St → Prop} (h : WC c x  Q st) : WAll c .And [x]  Q st :=
  And_cons (WT.mono h (fun b st q => by cases b; exact q; exact And_nil q) fun _ _ q => q)
theorem Or_last {x} {Q : Bool → St → Prop} (h : WC c x  Q st) : WAll c .Or [x]  Q st :=
  Or_cons (WT.mono h (fun b st q => by cases b; exact Or_nil q; exact q) fun _ _ q => q)

def loopQ (I : Nat → St → Prop) (n : Nat) (Q : AFlow → St → Prop) : AFlow → St → Prop
  | .next, st | .cont, st => ∃ m st₃, m < n ∧ I m st₃ ∧ St.le st₃ st
  | .brk, st => Q .next st
  | .ret p, st => Q (.ret p) st
theorem loopQ_brk {I n} {Q : AFlow → St → Prop} (h : Q .next st) : loopQ I n Q .brk st := h
theorem loopQ_next {I : Nat → St → Prop} {n} {Q : AFlow → St → Prop} (m : Nat) {st₃ : St} (hm : m < n) (h : I m st₃) (hl : St.le st₃ st) : loopQ I n Q .next st := ⟨m, st₃, hm, h, hl⟩
theorem loopQ_cont {I : Nat → St → Prop} {n} {Q : AFlow → St → Prop} (m : Nat) {st₃ : St} (hm : m < n) (h : I m st₃) (hl : St.le st₃ st) : loopQ I n Q .cont st := ⟨m, st₃, hm, h, hl⟩

/-- a while by what holds between its turns; what a turn leaves behind may be forgotten -/
theorem S_while {test body orelse pos} {Q : AFlow → St → Prop} (I : Nat → St → Prop) (n : Nat) (st₀ : St) (h0 : I n st₀) (hl0 : St.le st₀ st)
    (turn : ∀ n st, I n st → WC c test  (fun b st₁ => (b = true → WS c body  (loopQ I n Q) st₁) ∧ (b = false → WS c orelse  Q st₁)) st) : WX c (.While test body orelse pos)  Q st := by
  refine S_While (fun n st => ∃ st₀, I n st₀ ∧ St.le st₀ st) n ⟨st₀, h0, hl0⟩ fun n st ⟨st₀, hI, hl⟩ => WT.le ?_ hl
  refine (turn n st₀ hI).mono (fun b st₁ h₁ => ?_) fun _ _ x => x
  cases b
  · exact h₁.2 rfl
  · refine WT.mono (h₁.1 rfl) (fun f st₂ h₂ => ?_) fun _ _ x => x
    cases f with
    | next => obtain ⟨m, st₃, h1, h2, h3⟩ := h₂; exact ⟨m, h1, st₃, h2, h3⟩
    | cont => obtain ⟨m, st₃, h1, h2, h3⟩ := h₂; exact ⟨m, h1, st₃, h2, h3⟩
    | brk => exact h₂
    | ret p => exact h₂
end

theorem at_set_same {σ : AHeap} {a : Addr} {o : AObj} : (σ.set a o) a = some o := AHeap.set_same ..
theorem at_set_ne {σ : AHeap} {a b : Addr} {o o' : AObj} (h : b ≠ a) (h2 : σ b = some o) : (σ.set a o') b = some o := by rw [AHeap.set_ne _ _ h]; exact h2
theorem seq_of {σ : AHeap} {a : Addr} {l : List PV} (h : σ a = some (.list l)) : seqAt σ a = some l := by simp [seqAt, h, AObj.items?]
theorem seq_ofr {σ : AHeap} {a : Addr} {l : List PV} (h : σ a = some (.rlist l)) : seqAt σ a = some l := by simp [seqAt, h, AObj.items?]
end Mine
end
section
open PySem PySem.W PyProof.Rows
set_option Elab.async false
set_option linter.unusedVariables false
namespace Mine

section
variable {base : Heap} {os₀ : OsState} {hid hs hs' : List (Addr × Obj)} {stk : List (Addr × Locals)} {σ : AHeap} {s : Shared}

/-- hidden things have changed -/
theorem Rep.hidChange (R : Rep base os₀ (hs ++ hid) stk σ s) {h' : Heap} {tk : Nat} (hm : hs'.map (·.1) = hs.map (·.1)) (hn : ∀ p ∈ hs', h'.get? p.1 = some p.2 ∧ p.2.cls ≠ .type "tuple")
    (hk : ∀ b o, b ∉ hs.map (·.1) → s.heap.get? b = some o → h'.get? b = some o) (hcl : ∀ p ∈ hs, p.2.cls ≠ .type "tuple") (ht : s.toks ≤ tk := by first | exact Nat.le_refl _ | exact Nat.le_succ _ | assumption) : Rep base os₀ (hs' ++ hid) stk σ { s with heap := h', toks := tk } ∧ Keeps s.heap h' := by
  have hin : ∀ b, b ∈ hs.map (·.1) → ∃ p ∈ hs ++ hid, p.1 = b := fun b hb => let ⟨p, hp, e⟩ := List.mem_map.mp hb; ⟨p, List.mem_append_left _ hp, e⟩
  have hin' : ∀ b, b ∈ hs.map (·.1) → ∃ p ∈ hs, p.1 = b := fun b hb => let ⟨p, hp, e⟩ := List.mem_map.mp hb; ⟨p, hp, e⟩
  have k : Keeps s.heap h' := fun b vs ⟨n, e⟩ => ⟨n, hk b _ (fun q => by
    obtain ⟨p, hp, rfl⟩ := hin' b q
    obtain ⟨a1, _, _, _, e1⟩ := R.hid p (List.mem_append_left _ hp)
    rw [a1] at e; exact hcl p hp (by rw [Option.some.inj e])) e⟩
  have hnd : ((hs' ++ hid).map (·.1)).Nodup := by have := R.hnd; rw [List.map_append] at this ⊢; rw [hm]; exact this
  refine ⟨⟨fun b o e => hk b o (fun q => ?_) (R.stays b o e), R.gens, R.os, fun p hp => ?_, fun f hf => ⟨(R.frames f hf).1.mono k fun _ => hk _ _ fun q => ?_, (R.frames f hf).2⟩, R.nodup, hnd, fun b o e => (R.heap b o e).mono k fun _ => hk _ _ fun q => ?_, Nat.lt_of_lt_of_le R.tk ht⟩, k⟩
  · obtain ⟨p, hp, rfl⟩ := hin b q
    rw [(R.hid p hp).2.1] at e; cases e
  · rcases List.mem_append.mp hp with hp | hp
    · have : p.1 ∈ hs.map (·.1) := hm ▸ List.mem_map_of_mem hp
      obtain ⟨q, hq, e⟩ := hin _ this
      obtain ⟨_, b1, c1, d1, _⟩ := R.hid q hq
      exact ⟨(hn p hp).1, e ▸ b1, e ▸ c1, e ▸ d1, trivial⟩
    · obtain ⟨a1, r⟩ := R.hid p (List.mem_append_right _ hp)
      refine ⟨hk _ _ (fun q => ?_) a1, r⟩
      have := R.hnd
      rw [List.map_append, List.nodup_append] at this
      exact this.2.2 _ q _ (List.mem_map_of_mem hp) rfl
  · obtain ⟨p, hp, e⟩ := hin _ q
    exact (R.hid p hp).2.2.2.1 (e ▸ List.mem_map_of_mem hf)
  · obtain ⟨p, hp, e'⟩ := hin _ q
    have := (R.hid p hp).2.2.1
    rw [e', e] at this; cases this
theorem Rep.hidDrop (R : Rep base os₀ (hs ++ hid) stk σ s) : Rep base os₀ hid stk σ s :=
  ⟨R.stays, R.gens, R.os, fun p hp => R.hid p (List.mem_append_right _ hp), R.frames, R.nodup, by have := R.hnd; rw [List.map_append, List.nodup_append] at this; exact this.2.1, R.heap, R.tk⟩
/-- hidden things have gone wrong and are forgotten -/
theorem Rep.hidForget (R : Rep base os₀ (hs ++ hid) stk σ s) {h' : Heap} {tk : Nat} (hk : ∀ b o, b ∉ hs.map (·.1) → s.heap.get? b = some o → h'.get? b = some o) (hcl : ∀ p ∈ hs, p.2.cls ≠ .type "tuple") (ht : s.toks ≤ tk := by first | exact Nat.le_refl _ | exact Nat.le_succ _ | assumption) : Rep base os₀ hid stk σ { s with heap := h', toks := tk } ∧ Keeps s.heap h' := by
  have hin : ∀ b, b ∈ hs.map (·.1) → ∃ p ∈ hs ++ hid, p.1 = b := fun b hb => let ⟨p, hp, e⟩ := List.mem_map.mp hb; ⟨p, List.mem_append_left _ hp, e⟩
  have hin' : ∀ b, b ∈ hs.map (·.1) → ∃ p ∈ hs, p.1 = b := fun b hb => let ⟨p, hp, e⟩ := List.mem_map.mp hb; ⟨p, hp, e⟩
  have k : Keeps s.heap h' := fun b vs ⟨n, e⟩ => ⟨n, hk b _ (fun q => by
    obtain ⟨p, hp, rfl⟩ := hin' b q
    obtain ⟨a1, _, _, _, e1⟩ := R.hid p (List.mem_append_left _ hp)
    rw [a1] at e; exact hcl p hp (by rw [Option.some.inj e])) e⟩
  refine ⟨⟨fun b o e => hk b o (fun q => ?_) (R.stays b o e), R.gens, R.os, fun p hp => ?_, fun f hf => ⟨(R.frames f hf).1.mono k fun _ => hk _ _ fun q => ?_, (R.frames f hf).2⟩, R.nodup, R.hidDrop.hnd, fun b o e => (R.heap b o e).mono k fun _ => hk _ _ fun q => ?_, Nat.lt_of_lt_of_le R.tk ht⟩, k⟩
  · obtain ⟨p, hp, rfl⟩ := hin b q
    rw [(R.hid p hp).2.1] at e; cases e
  · obtain ⟨a1, r⟩ := R.hid p (List.mem_append_right _ hp)
    refine ⟨hk _ _ (fun q => ?_) a1, r⟩
    have := R.hnd
    rw [List.map_append, List.nodup_append] at this
    exact this.2.2 _ q _ (List.mem_map_of_mem hp) rfl
  · obtain ⟨p, hp, e⟩ := hin _ q
    exact (R.hid p hp).2.2.2.1 (e ▸ List.mem_map_of_mem hf)
  · obtain ⟨p, hp, e'⟩ := hin _ q
    have := (R.hid p hp).2.2.1
    rw [e', e] at this; cases this
/-- a new hidden thing -/
theorem Rep.hidNew (R : Rep base os₀ hid stk σ s) {ob : Obj} (hc : ob.cls ≠ .type "tuple") (hf : ob.isFreed = false) : Rep base os₀ ((s.heap.objs.size, ob) :: hid) stk σ { s with heap := s.heap.push ob } := by
  have R' := R.grow (s' := { s with heap := s.heap.push ob }) (fun _ _ e => Heap.get?_push_of_some _ e) rfl rfl
  refine ⟨R'.stays, R'.gens, R'.os, fun p hp => ?_, R'.frames, R'.nodup, ?_, R'.heap, R'.tk⟩
  · rcases List.mem_cons.mp hp with rfl | hp
    · refine ⟨Heap.get?_push_size _ hf, R.fresh_base, R.fresh_σ, fun q => ?_, trivial⟩
      obtain ⟨f, hf, e⟩ := List.mem_map.mp q
      exact R.fresh_stk f hf e
    · exact R'.hid p hp
  · simp only [List.map_cons, List.nodup_cons]
    exact ⟨fun q => by obtain ⟨p, hp, e⟩ := List.mem_map.mp q; exact R.fresh_hid p hp e, R.hnd⟩
end

/-- an iterator at work: Sk k tells its hidden things ahead of item k -/
structure IterAt (G : Gx) (target : Expr) (it : Addr) (Sk : Nat → List (Addr × Obj) → Prop) (KP : Heap → Prop) (P : AHeap → Prop) (items : List PV) : Prop where
  mono : ∀ h h', Keeps h h' → KP h → KP h'
  next : ∀ k p, items[k]? = some p → ∀ A hid stk σ s hs E Q, A.handled = none → Sk k hs → KP s.heap → P σ → Rep G.base G.os (hs ++ hid) stk σ s →
    (∀ v s', (∀ Q' E' A', (∀ s'' hs'', Sk (k + 1) hs'' → Rep G.base G.os (hs'' ++ hid) stk σ s'' → Keeps s'.heap s''.heap → Q' () s'') → wpAny G.M A' (letOwnedTupleGo target (.ref it) v) Q' E' s') → VRep s'.heap p v → Keeps s.heap s'.heap → Q (some v) s') → wpAny G.M A (pyNext (.ref it)) Q E s
  stop : ∀ A hid stk σ s hs E Q, A.handled = none → Sk items.length hs → KP s.heap → P σ → Rep G.base G.os (hs ++ hid) stk σ s →
    (∀ s', Rep G.base G.os hid stk σ s' → Keeps s.heap s'.heap → Q none s') → wpAny G.M A (pyNext (.ref it)) Q E s
  self : ∀ k A hid stk σ s hs E Q, Sk k hs → Rep G.base G.os (hs ++ hid) stk σ s → Q (.ref it) s → wpAny G.M A (pyIter (.ref it)) Q E s

theorem letOwned_other {prog : Program} {w : World} {A : Around} {E : Value → Shared → Prop} {s : Shared} {target : Expr} {it : Addr} {v : Value} {ob : Obj} {Q : Unit → Shared → Prop} (ho : s.heap.get? it = some ob)
    (hc : ∀ n, ob.cls = .type n → ["enumerate", "zip", "dict_itemiterator", "dict_reverseitemiterator", "odict_iterator", "itertools.zip_longest", "itertools.pairwise"].contains n = false) (h : Q () s) : wpAny (model prog w) A (letOwnedTupleGo target (.ref it) v) Q E s := by
  have key : ∀ a : Addr, wpAny (model prog w) A (do
      let o ← load it
      match o.cls, o.data with
      | .type n, .fields vs =>
        if ["enumerate", "zip", "dict_itemiterator", "dict_reverseitemiterator", "odict_iterator", "itertools.zip_longest", "itertools.pairwise"].contains n && vs[0]? == some (rawInt a) then
          rule "for.unpacks-the-owned-tuple"
          updateField it 0 .none
      | _, _ => pure ()) Q E s := fun a => by
    refine wpAny_bind (wpAny_load ho ?_)
    obtain ⟨cl, d, dt, sl⟩ := ob
    cases cl with
    | type n =>
      cases dt with
      | fields vs =>
        have := hc n rfl
        simp only [this, Bool.false_and, Bool.false_eq_true, if_false]
        exact wpAny_pure h
      | _ => exact wpAny_pure h
    | _ => exact wpAny_pure h
  unfold letOwnedTupleGo
  cases target <;> first
    | exact wpAny_pure h
    | (cases v <;> first | exact wpAny_pure h | exact key _)

section
variable {G : Gx}
def IsLIt (a : Addr) (k : Nat) (o : Obj) : Prop := o.cls = .type "list_iterator" ∧ o.data = .fields #[.ref a, .int k 0]
theorem iter_list (target : Expr) (it a : Addr) (l : List PV) : IterAt G target it (fun k hs => ∃ o, hs = [(it, o)] ∧ IsLIt a k o) (fun _ => True) (fun σ => seqAt σ a = some l) l where
  mono := fun _ _ _ _ => trivial
  next := fun k p hp A hid stk σ s hs E Q hh hsk _ hσ R hQ => by
    obtain ⟨o, rfl, hc, hd⟩ := hsk
    obtain ⟨vs, hL, hvs⟩ := R.seq hσ
    obtain ⟨v, hv, hr⟩ := hvs.get _ _ hp
    have ho := (R.hid (it, o) (List.mem_cons_self ..)).1
    refine wpAny_pyNext_list_item ⟨_, ho, hc, hd⟩ hL.isList (by simpa using hv) fun h' hit' hs' => ?_
    obtain ⟨o', ho', hc', hd'⟩ := hit'
    obtain ⟨R', kp⟩ := R.hidChange (hs' := [(it, o')]) (tk := s.toks) (h' := h') rfl (fun q hq => by simp at hq; subst hq; exact ⟨ho', by rw [hc']; decide⟩) (fun b ob hb e => (hs'.2 b (by simpa using hb)).trans e) (fun q hq => by simp at hq; subst hq; show o.cls ≠ _; rw [hc]; decide)
    exact hQ v _ (fun Q' E' A' hq => letOwned_other ho' (fun n e => by rw [hc'] at e; cases e; rfl) (hq _ _ ⟨o', rfl, hc', by simpa using hd'⟩ R' (.refl _))) (hr.mono kp) kp
  stop := fun A hid stk σ s hs E Q hh hsk _ hσ R hQ => by
    obtain ⟨o, rfl, hc, hd⟩ := hsk
    obtain ⟨vs, hL, hvs⟩ := R.seq hσ
    have ho := (R.hid (it, o) (List.mem_cons_self ..)).1
    refine wpAny_pyNext_list_end hh ⟨_, ho, hc, hd⟩ hL.isList (by simp [hvs.length]) fun h' he => ?_
    obtain ⟨R', k⟩ := R.hidForget (tk := s.toks) (h' := h') (fun b o hb e => he b o (by simpa using hb) e) (fun q hq => by simp at hq; subst hq; show o.cls ≠ _; rw [hc]; decide)
    exact hQ _ R' k
  self := fun k A hid stk σ s hs E Q hsk R hQ => by
    obtain ⟨o, rfl, hc, hd⟩ := hsk
    have ho := (R.hid (it, o) (List.mem_cons_self ..)).1
    exact wpAny_pyIter_listiter ⟨_, ho, hc, hd⟩ hQ

/-- the ints from a by c -/
def rangeL (a c : Int) (n : Nat) : List PV := (List.range n).map fun (i : Nat) => PV.int (a + (i : Int) * c)
@[simp] theorem rangeL_length (a c : Int) (n : Nat) : (rangeL a c n).length = n := by simp [rangeL]
theorem rangeL_get {a c : Int} {n k : Nat} {p : PV} (h : (rangeL a c n)[k]? = some p) : k < n ∧ p = .int (a + (k : Int) * c) := by
  simp only [rangeL, List.getElem?_map] at h
  cases q : (List.range n)[k]? with
  | none => rw [q] at h; cases h
  | some j =>
    rw [q] at h
    obtain ⟨h1, h2⟩ := List.getElem?_eq_some_iff.mp q
    simp at h1 h2
    subst h2
    exact ⟨h1, (Option.some.inj h).symm⟩
theorem iter_range (target : Expr) (it : Addr) (a c : Int) (n : Nat) : IterAt G target it (fun k hs => hs = [(it, { cls := .type "range_iterator", dict := none, data := .fields #[rawInt (a + (k : Int) * c), rawInt ((n : Int) - (k : Int)), rawInt c], slots := #[] })]) (fun _ => True) (fun _ => True) (rangeL a c n) where
  mono := fun _ _ _ _ => trivial
  next := fun k p hp A hid stk σ s hs E Q hh hsk _ hσ R hQ => by
    subst hsk
    obtain ⟨hk, rfl⟩ := rangeL_get hp
    have ho := (R.hid _ (List.mem_cons_self ..)).1
    refine wpAny_pyNext_range_item ho (by omega) fun h' hit' hs' => ?_
    obtain ⟨R', kp⟩ := R.hidChange (hs' := [(it, { cls := .type "range_iterator", dict := none, data := .fields #[rawInt (a + ((k + 1 : Nat) : Int) * c), rawInt ((n : Int) - ((k + 1 : Nat) : Int)), rawInt c], slots := #[] })]) (tk := s.toks + 1) (h' := h') rfl (fun q hq => by
      simp at hq; subst hq
      refine ⟨?_, by show Value.type "range_iterator" ≠ Value.type "tuple"; decide⟩
      have e1 : a + ((k + 1 : Nat) : Int) * c = a + (k : Int) * c + c := by push_cast; rw [Int.add_mul, Int.one_mul, Int.add_assoc]
      have e2 : (n : Int) - ((k + 1 : Nat) : Int) = (n : Int) - (k : Int) - 1 := by push_cast; omega
      have e1' : a + ((k : Int) + 1) * c = a + (k : Int) * c + c := by rw [Int.add_mul, Int.one_mul, Int.add_assoc]
      have e2' : (n : Int) - ((k : Int) + 1) = (n : Int) - (k : Int) - 1 := by omega
      first | (rw [e1, e2]; exact hit') | (rw [e1', e2']; exact hit')) (fun b ob hb e => (hs'.2 b (by simpa using hb)).trans e) (fun q hq => by simp at hq; subst hq; show Value.type "range_iterator" ≠ Value.type "tuple"; decide)
    exact hQ _ _ (fun Q' E' A' hq => letOwned_other (R'.hid _ (List.mem_cons_self ..)).1 (fun n e => by cases e; rfl) (hq _ _ rfl R' (.refl _))) ⟨_, rfl⟩ kp
  stop := fun A hid stk σ s hs E Q hh hsk _ hσ R hQ => by
    subst hsk
    have ho := (R.hid _ (List.mem_cons_self ..)).1
    refine wpAny_pyNext_range_end hh ho (by simp) fun h' he => ?_
    obtain ⟨R', k⟩ := R.hidForget (tk := s.toks) (h' := h') (fun b o hb e => he b o (by simpa using hb) e) (fun q hq => by simp at hq; subst hq; show Value.type "range_iterator" ≠ Value.type "tuple"; decide)
    exact hQ _ R' k
  self := fun k A hid stk σ s hs E Q hsk R hQ => by
    subst hsk
    have ho := (R.hid _ (List.mem_cons_self ..)).1
    exact wpAny_pyIter_rangeiter ho hQ
end

section
variable {c : Cx} {st : St} {μ : Locals} {σ : AHeap}

/-- a value that can be gone through: its items, and what must stay so of the state -/
def ItOk (c : Cx) (target : Expr) (p : PV) (st : St) (items : List PV) (P : AHeap → Prop) : Prop :=
  ∀ v hid stk s E Q, COk c.lv c.A c.env → Rep c.base c.os hid ((c.env.locals, st.1) :: stk) st.2 s → VRep s.heap p v →
    (∀ it Sk KP hs s', IterAt c.toGx target it Sk KP P items → Sk 0 hs → KP s'.heap → Rep c.base c.os (hs ++ hid) ((c.env.locals, st.1) :: stk) st.2 s' → Keeps s.heap s'.heap → Q (.ref it) s') → wpAny c.M c.A (pyIter v) Q E s

theorem it_list {target : Expr} {a : Addr} {l : List PV} (h : seqAt σ a = some l) : ItOk c target (.ref a) (μ, σ) l (fun σ => seqAt σ a = some l) := fun v hid stk s E Q ok R hv hQ => by
  simp only [VRep] at hv; subst hv
  obtain ⟨vs, hL, _⟩ := R.seq h
  refine wpAny_pyIter_list hL.isList (hQ _ _ _ [(s.heap.objs.size, { cls := .type "list_iterator", data := .fields #[.ref a, .int 0 0] })] _ (iter_list target s.heap.objs.size a l) ⟨_, rfl, rfl, rfl⟩ trivial ?_ (Keeps.push _ _))
  exact R.hidNew (by show Value.type "list_iterator" ≠ Value.type "tuple"; decide) rfl
/-- the target of a loop takes an item -/
abbrev WAsg (c : Cx) (target : Expr) (p : PV) (Q : St → Prop) (st : St) : Prop := W1 c UnitRep p (fun v => assign target c.env v)  (fun _ st => Q st) st

def forQ (I : Nat → St → Prop) (k : Nat) (Q : AFlow → St → Prop) : AFlow → St → Prop
  | .next, st | .cont, st => ∃ st₃, I k st₃ ∧ St.le st₃ st
  | .brk, st => Q .next st
  | .ret p, st => Q (.ret p) st
theorem forQ_ret {I k} {Q : AFlow → St → Prop} {p} (h : Q (.ret p) st) : forQ I k Q (.ret p) st := h
theorem forQ_next {I : Nat → St → Prop} {k} {Q : AFlow → St → Prop} {st₃ : St} (h : I k st₃) (hl : St.le st₃ st) : forQ I k Q .next st := ⟨st₃, h, hl⟩
/-- the iterator over an expression -/
def WI (c : Cx) (target iter : Expr) (Q : List PV → (AHeap → Prop) → St → Prop) (st : St) : Prop :=
  ∀ hid stk s, COk c.lv c.A c.env → Rep c.base c.os hid ((c.env.locals, st.1) :: stk) st.2 s →
    wpAny c.M c.A (eval iter c.env) (fun v s₁ => wpAny c.M c.A (pyIter v) (fun itv s₂ => ∃ it Sk KP hs items P st₁, itv = .ref it ∧ IterAt c.toGx target it Sk KP P items ∧ Sk 0 hs ∧ KP s₂.heap ∧
      Rep c.base c.os (hs ++ hid) ((c.env.locals, st₁.1) :: stk) st₁.2 s₂ ∧ Keeps s.heap s₂.heap ∧ Q items P st₁) PostX s₁) PostX s
theorem WI_of {target iter} {Q : List PV → (AHeap → Prop) → St → Prop} (h : WE c iter  (fun p st₁ => ∃ items P, ItOk c target p st₁ items P ∧ Q items P st₁) st) : WI c target iter  Q st := fun hid stk s ok R => by
  refine wpAny_mono (h hid stk s ok R) (fun v s₁ hp => ?_) fun _ _ y => y
  obtain ⟨p, st₁, R₁, hv, k₁, items, P, hit, q⟩ := hp
  exact hit v hid stk s₁ _ _ ok R₁ hv fun it Sk KP hs s₂ IT hS0 hK0 R₂ k₂ => ⟨it, Sk, KP, hs, items, P, st₁, rfl, IT, hS0, hK0, R₂, k₁.trans k₂, q⟩
/-- a for over items -/
theorem S_forE {target iter body orelse pos} {Q : AFlow → St → Prop} (hcalm : c.lv.calm = true)
    (h : WI c target iter  (fun items P st₁ => ∃ (I : Nat → St → Prop) (st₀ : St), I 0 st₀ ∧ St.le st₀ st₁ ∧ (∀ k st, I k st → P st.2) ∧
      (∀ k p st, items[k]? = some p → I k st → WAsg c target p  (fun st' => WS c body  (forQ I (k + 1) Q) st') st) ∧ (∀ st, I items.length st → WS c orelse  Q st)) st)
    (hf : ∀ x, foldedSetIterable iter c.env x = pure x) : WX c (.For target iter body orelse pos)  Q st := fun hid stk s ok R => by
  have hh : c.A.handled = none := ok.ok.calm hcalm
  refine wpAny_For (wpAny_mono (h hid stk s ok R) (fun v s₁ hp => wpAny_mono hp (fun itv s₂ hp => ?_) fun _ _ y => y) fun _ _ y => y) hf
  obtain ⟨it, Sk, KP, hs, items, P, st₁, rfl, IT, hS0, hK0, R₂, k₂, I, st₀, h0, hl0, hP, turn, fin⟩ := hp
  refine codeAny_mono (R := LoopR c  Q hid stk s.heap) ?_ fun r s' x => x.back
  have hE : ∀ e s'', PostX e s'' → notedBy c.M c.A c.env (fun e s' => LoopR c  Q hid stk s.heap (.error e) s') e s'' :=
    fun e s'' hx => False.elim hx
  -- the loop, its owned tuple and all
  refine codeAny_loop' rfl (fun n s' => ∃ k hs st', n = items.length - k ∧ k ≤ items.length ∧ Sk k hs ∧ KP s'.heap ∧ I k st' ∧ Rep c.base c.os (hs ++ hid) ((c.env.locals, st'.1) :: stk) st'.2 s' ∧ Keeps s.heap s'.heap) ?_ items.length
    ⟨0, hs, st₀, by simp, Nat.zero_le _, hS0, hK0, h0, (R₂.weaken hl0.2).locals hl0.1, k₂⟩
  rintro n s' ⟨k, hs', st', rfl, hle, hSk, hKP, hI, R', k'⟩
  show wpAny _ _ ((forTurn target (.ref it) body orelse c.env).onRaise (fun x => do noteFrame x c.env; theTreesLotGoes x)) _ _ s'
  refine wpAny_noted ?_
  simp only [forTurn]
  refine wpAny_bind (wpAny_standAt (wpAny_bind (wpAny_onRaise ?_)))
  rcases Nat.lt_or_ge k items.length with hlt | hge
  · have hx : items[k]? = some items[k] := List.getElem?_eq_getElem hlt
    refine IT.next k _ hx _ _ _ _ _ _ _ _ hh hSk hKP (hP _ _ hI) R' fun v s₃ own hv₃ k₃ => ?_
    refine wpAny_bind (own _ _ _ fun s₄ hs₄ hSk₄ R₄ k₄ => ?_)
    refine wpAny_bind (wpAny_mono (turn k _ st' hx hI v (hs₄ ++ hid) stk s₄ ok R₄ (hv₃.mono k₄)) (fun _ s₅ h₅ => ?_) hE)
    obtain ⟨_, st₅, R₅, _, k₅, h₅⟩ := h₅
    refine wpAny_bind (wpAny_mono (h₅ (hs₄ ++ hid) stk s₅ ok R₅) (fun f s₆ h₆ => ?_) hE)
    obtain ⟨fl, st₆, R₆, hf₆, k₆, h₆⟩ := h₆
    have kk := (k'.trans k₃).trans (k₄.trans (k₅.trans k₆))
    have again : (∃ st₃, I (k + 1) st₃ ∧ St.le st₃ st₆) → ∃ m, m < items.length - k ∧ (∃ k hs st', m = items.length - k ∧ k ≤ items.length ∧ Sk k hs ∧ KP s₆.heap ∧ I k st' ∧ Rep c.base c.os (hs ++ hid) ((c.env.locals, st'.1) :: stk) st'.2 s₆ ∧ Keeps s.heap s₆.heap) := by
      rintro ⟨st₃, hI₃, hl₃⟩
      exact ⟨items.length - (k + 1), by omega, k + 1, hs₄, st₃, rfl, hlt, hSk₄, IT.mono _ _ (k₃.trans (k₄.trans (k₅.trans k₆))) hKP, hI₃, (R₆.weaken hl₃.2).locals hl₃.1, kk⟩
    cases fl with
    | next => cases hf₆; exact wpAny_pure (.inl ⟨rfl, again h₆⟩)
    | cont => cases hf₆; exact wpAny_pure (.inl ⟨rfl, again h₆⟩)
    | brk => cases hf₆; exact wpAny_pure ⟨.next, st₆, R₆.hidDrop, rfl, kk, h₆⟩
    | ret p => obtain ⟨u, rfl, hu⟩ := hf₆; exact wpAny_pure ⟨.ret p, st₆, R₆.hidDrop, ⟨u, rfl, hu⟩, kk, h₆⟩
  · have hk : k = items.length := by omega
    subst hk
    refine IT.stop _ _ _ _ _ _ _ _ hh hSk hKP (hP _ _ hI) R' fun s₃ R₃ k₃ => ?_
    refine wpAny_pure (.inr ⟨rfl, codeAny_block ?_⟩)
    exact wpAny_mono (fin st' hI hid stk s₃ ok R₃) (fun f s₄ y => y.keeps (k'.trans k₃)) hE
/-- a for whose invariant is told behind its iterable -/
theorem S_forL {target iter body orelse pos} {Q : AFlow → St → Prop} (hcalm : c.lv.calm = true)
    (h : WE c iter  (fun p st₁ => ∃ items P I st₀, ItOk c target p st₁ items P ∧ I 0 st₀ ∧ St.le st₀ st₁ ∧ (∀ k st, I k st → P st.2) ∧
      (∀ k p st, items[k]? = some p → I k st → WAsg c target p  (fun st' => WS c body  (forQ I (k + 1) Q) st') st) ∧ (∀ st, I items.length st → WS c orelse  Q st)) st)
    (hf : ∀ x, foldedSetIterable iter c.env x = pure x) : WX c (.For target iter body orelse pos)  Q st :=
  S_forE hcalm (WI_of (WT.mono h (fun p st₁ ⟨items, P, I, st₀, a, b⟩ => ⟨items, P, a, I, st₀, b⟩) fun _ _ y => y)) hf
theorem S_for {target iter body orelse pos} {Q : AFlow → St → Prop} (hcalm : c.lv.calm = true) (I : Nat → St → Prop)
    (h : WE c iter  (fun p st₁ => ∃ items P st₀, ItOk c target p st₁ items P ∧ I 0 st₀ ∧ St.le st₀ st₁ ∧ (∀ k st, I k st → P st.2) ∧
      (∀ k p st, items[k]? = some p → I k st → WAsg c target p  (fun st' => WS c body  (forQ I (k + 1) Q) st') st) ∧ (∀ st, I items.length st → WS c orelse  Q st)) st)
    (hf : ∀ x, foldedSetIterable iter c.env x = pure x) : WX c (.For target iter body orelse pos)  Q st :=
  S_forL hcalm (WT.mono h (fun p st₁ ⟨items, P, b⟩ => ⟨items, P, I, b⟩) fun _ _ y => y) hf
end
end Mine
end
section
open PySem PySem.W PyProof.Rows PySem.SeqAt
set_option Elab.async false
set_option linter.unusedVariables false
namespace Mine

/-- p == q comes out as b, at most n deep -/
inductive EqR (σ : AHeap) : Nat → PV → PV → Bool → Prop
  | int {n} (i j : Int) : EqR σ n (.int i) (.int j) (i == j)

section
variable {base : Heap} {os₀ : OsState} {hid : List (Addr × Obj)} {stk : List (Addr × Locals)} {σ : AHeap} {s : Shared}

theorem VReps.pt {h : Heap} {ps : List PV} {vs : List Value} (x : VReps h ps vs) {j : Nat} (hj : j < vs.toArray.size) : ∃ p, ps[j]? = some p ∧ VRep h p vs.toArray[j] := by
  have hj' : j < ps.length := by rw [← x.length]; simpa using hj
  obtain ⟨v, hv, hr⟩ := x.get j ps[j] (List.getElem?_eq_getElem hj')
  refine ⟨ps[j], List.getElem?_eq_getElem hj', ?_⟩
  have : vs.toArray[j] = v := by
    have hj'' : j < vs.length := by simpa using hj
    rw [List.getElem?_eq_getElem hj''] at hv
    simpa using Option.some.inj hv
  rw [this]; exact hr

theorem EqR.at (R : Rep base os₀ hid stk σ s) {n : Nat} {p q : PV} {b : Bool} (h : EqR σ n p q b) {A : Around} {v u : Value} (_ : A.units + n < cLine) (hv : VRep s.heap p v) (hu : VRep s.heap q u) : EqAt A s v u b := by
  cases h
  obtain ⟨t, rfl⟩ := hv
  obtain ⟨t', rfl⟩ := hu
  exact .int_int _ _ _ _
end

section
variable {c : Cx} {st : St} {μ : Locals} {σ : AHeap}

theorem COk.units {lv A env} (ok : COk lv A env) : A.units ≤ 9000 := by have := ok.ok.units; omega

theorem cmp_lists_eq {a b l m} {e : Nat → Bool} {n : Nat} {Q : PV → St → Prop} (ha : seqAt σ a = some l) (hb : seqAt σ b = some m) (hlen : l.length = m.length) (h : ∀ (j : Nat) p q, l[j]? = some p → m[j]? = some q → EqR σ n p q (e j)) (hn : n ≤ 100)
    (hQ : Q (.bool ((List.range l.length).all e)) (μ, σ)) : W2 c VRep (.ref a) (.ref b) (compareOp .Eq)  Q (μ, σ) := fun v u hid stk s ok R hv hu => by
  simp only [VRep] at hv hu; subst hv hu
  obtain ⟨vs, hL, hvs⟩ := R.seq ha
  obtain ⟨ws, hM, hws⟩ := R.seq hb
  have e1 := hvs.length; have e2 := hws.length
  have hU := ok.units
  refine eq_listAt (e := e) hL.isList hM.isList (by simp; omega) (by rw [cLine_is]; omega) (fun j h1 h2 => ?_) ⟨.bool ((List.range l.length).all e), (μ, σ), R, by simp [VRep, e1], .refl _, hQ⟩
  obtain ⟨p, hp, hr⟩ := hvs.pt h1
  obtain ⟨q, hq, hr'⟩ := hws.pt h2
  exact (h j p q hp hq).at R (A := c.A.in1) (by rw [cLine_is]; show c.A.units + 1 + n < 9900; omega) hr hr'
theorem cmp_lists_ne {a b l m} {e : Nat → Bool} {n : Nat} {Q : PV → St → Prop} (ha : seqAt σ a = some l) (hb : seqAt σ b = some m) (hlen : l.length = m.length) (h : ∀ (j : Nat) p q, l[j]? = some p → m[j]? = some q → EqR σ n p q (e j)) (hn : n ≤ 100)
    (hQ : Q (.bool (!(List.range l.length).all e)) (μ, σ)) : W2 c VRep (.ref a) (.ref b) (compareOp .NotEq)  Q (μ, σ) := fun v u hid stk s ok R hv hu => by
  simp only [VRep] at hv hu; subst hv hu
  obtain ⟨vs, hL, hvs⟩ := R.seq ha
  obtain ⟨ws, hM, hws⟩ := R.seq hb
  have e1 := hvs.length; have e2 := hws.length
  have hU := ok.units
  refine RcNeAt.lists (A := c.A) (e := e) hL.isList hM.isList (by simp; omega) (by rw [cLine_is]; omega) (fun j h1 h2 => ?_) c.prog c.w _ _ ⟨.bool (!(List.range l.length).all e), (μ, σ), R, by simp [VRep, e1], .refl _, hQ⟩
  obtain ⟨p, hp, hr⟩ := hvs.pt h1
  obtain ⟨q, hq, hr'⟩ := hws.pt h2
  exact (h j p q hp hq).at R (A := c.A.in1) (by rw [cLine_is]; show c.A.units + 1 + n < 9900; omega) hr hr'
end
end Mine
end
section
open PySem PySem.W PyProof.Rows
set_option Elab.async false
set_option linter.unusedVariables false
namespace Mine

section
variable {c : Cx} {st : St} {μ : Locals} {σ : AHeap}

theorem E_Tuple {elts k pos} {Q : PV → St → Prop} (h : WA c pos elts  (fun ps st₁ => ps.length ≤ 1000 ∧ Q (.tup ps) st₁) st) : WE c (.Tuple elts k pos)  Q st := fun hid stk s ok R =>
  Tuple_ (wpAny_mono (h hid stk s ok R) (fun vs s₁ ⟨ps, st₁, R₁, hvs, k₁, hz, q⟩ => by
    have e1 := hvs.length
    refine wpAny_newObj_type ⟨.tup ps, st₁, R₁.grow (fun _ _ e => Heap.get?_push_of_some _ e) rfl rfl, ?_, k₁.trans (Keeps.push _ _), q⟩ (by show vs.toArray.size ≤ sizeLine; rw [sizeLine_eq]; simp; omega)
    simp only [VRep]
    exact ⟨s₁.heap.objs.size, vs, rfl, ⟨0, Heap.get?_push_size _ rfl⟩, hvs.mono (Keeps.push _ _)⟩) fun _ _ y => y)
/-- a new list -/
theorem Rep.newList {base os₀ hid stk} {s : Shared} (R : Rep base os₀ hid stk σ s) {l : List PV} {vs : List Value} (hvs : VReps s.heap l vs) :
    Rep base os₀ hid stk (σ.set s.heap.objs.size (.list l)) { s with heap := s.heap.push { cls := .type "list", dict := none, data := .seq vs.toArray, slots := #[] } } :=
  R.alloc ⟨R.fresh_base, vs, ⟨0, Heap.get?_push_size _ rfl⟩, hvs.mono (Keeps.push _ _)⟩
theorem E_List {elts pos} {Q : PV → St → Prop} (h : WA c pos elts  (fun ps st₁ => ps.length ≤ 1000 ∧ ∀ a, st₁.2 a = none → Q (.ref a) (st₁.1, st₁.2.set a (.list ps))) st) : WE c (.List elts pos)  Q st := fun hid stk s ok R =>
  List_ (wpAny_mono (h hid stk s ok R) (fun vs s₁ ⟨ps, st₁, R₁, hvs, k₁, hz, q⟩ => by
    have e1 := hvs.length
    exact wpAny_newObj_type ⟨.ref s₁.heap.objs.size, (st₁.1, st₁.2.set s₁.heap.objs.size (.list ps)), R₁.newList hvs, rfl, k₁.trans (Keeps.push _ _), q _ R₁.fresh_σ⟩ (by show vs.toArray.size ≤ sizeLine; rw [sizeLine_eq]; simp; omega)) fun _ _ y => y)

/-! targets -/
theorem Asg_local {x : Str} {pos} {p : PV} {Q : St → Prop} (hl : c.env.scope.names.lookup x = some .local) (h : Q (setL x p μ, σ)) : WAsg c (.Name x pos) p  Q (μ, σ) := fun v hid stk s ok R hv =>
  wpAny_assign_Name (W1_store (Q := fun _ st => Q st) hl h v hid stk s ok R hv)
theorem Asg_cell {x : Str} {pos} {p : PV} {a : Addr} {o : Option PV} {Q : St → Prop} (hl : c.env.scope.names.lookup x = some .cell) (hc : c.env.cells.lookup x = some a) (hv : σ a = some (.cell o)) (h : Q (μ, σ.set a (.cell (some p)))) : WAsg c (.Name x pos) p  Q (μ, σ) := fun v hid stk s ok R hr =>
  wpAny_assign_Name (W1_storeCell (Q := fun _ st => Q st) hl hc hv h v hid stk s ok R hr)

/-- names one after the other -/
def asgAll (c : Cx) : List Expr → List PV → (St → Prop) → St → Prop
  | e :: es, p :: ps, Q, st => WAsg c e p  (fun st' => asgAll c  es ps Q st') st
  | _, _, Q, st => Q st
theorem asgAll_nil {Q : St → Prop} (h : Q st) : asgAll c  [] [] Q st := h
theorem asgAll_cons {e es p ps} {Q : St → Prop} (h : WAsg c e p  (fun st' => asgAll c  es ps Q st') st) : asgAll c  (e :: es) (p :: ps) Q st := h
theorem asgAll_wp {hid stk} (ok : COk c.lv c.A c.env) : ∀ {es : List Expr} {ps : List PV} {vs : List Value} {Q : St → Prop} {st : St} {s : Shared}, (assignEach es c.env).map (·.2) = es.map (fun e => assign e c.env) → es.length = ps.length →
    Rep c.base c.os hid ((c.env.locals, st.1) :: stk) st.2 s → VReps s.heap ps vs → asgAll c  es ps Q st → wpAny c.M c.A (assignInOrder (es.map fun e => assign e c.env) vs) (Post c UnitRep (fun _ st => Q st) hid stk s.heap) PostX s
  | [], [], vs, Q, st, s, _, _, R, hv, h => by rw [hv.nil_inv]; exact wpAny_pure ⟨(), st, R, trivial, .refl _, h⟩
  | e :: es, p :: ps, vs, Q, st, s, he, hl, R, hv, h => by
    obtain ⟨v, r, rfl, h1, h2⟩ := hv.cons_inv
    refine wpAny_bind (wpAny_holding (wpAny_mono (h v hid stk s ok R h1) (fun _ s₁ hp => ?_) fun _ _ y => y))
    obtain ⟨_, st₁, R₁, _, k₁, q⟩ := hp
    have he' : (assignEach es c.env).map (·.2) = es.map (fun e => assign e c.env) := by
      have := he
      simp only [List.map_cons] at this
      have e2 : assignEach (e :: es) c.env = (match e with | .Starred .. => true | _ => false, (assignEach (e :: es) c.env).head!.2) :: assignEach es c.env := by cases e <;> rfl
      rw [e2, List.map_cons] at this
      exact (List.cons.inj this).2
    exact wpAny_mono (asgAll_wp ok he' (by simpa using hl) R₁ (h2.mono k₁) q) (fun _ _ y => y.keeps k₁) fun _ _ y => y
  | [], _ :: _, _, _, _, _, _, hl, _, _, _ => by simp at hl
  | _ :: _, [], _, _, _, _, _, hl, _, _, _ => by simp at hl

/-- a tuple is taken apart -/
theorem Asg_Tuple {elts k pos ps} {Q : St → Prop} (hcalm : c.lv.calm = true) (h : asgAll c  elts ps Q st) (he : (assignEach elts c.env).map (·.2) = elts.map (fun e => assign e c.env)) (hl : elts.length = ps.length)
    (hstar : (assignEach elts c.env).findIdx? (·.1) = none) : WAsg c (.Tuple elts k pos) (.tup ps)  Q st := fun v hid stk s ok R hv => by
  have hh : c.A.handled = none := ok.ok.calm hcalm
  simp only [VRep] at hv
  obtain ⟨a, vs, rfl, hT, hvs⟩ := hv
  have e1 := hvs.length
  have hlen : (assignEach elts c.env).length = vs.toArray.size := by
    have := congrArg List.length he
    simp only [List.length_map] at this
    rw [this]; simp; omega
  refine wpAny_assign_Tuple hh hT.isTuple hlen hstar fun h' hx => ?_
  have R' := R.grow (s' := { s with heap := h' }) (fun b o e => hx b o (Nat.ne_of_lt (Heap.lt_size e)) e) rfl rfl
  have k' : Keeps s.heap h' := fun b vs ⟨n, e⟩ => ⟨n, hx b _ (Nat.ne_of_lt (Heap.lt_size e)) e⟩
  rw [he]
  exact wpAny_mono (asgAll_wp ok he hl R' (by simpa using hvs.mono k') h) (fun _ _ y => y.keeps k') fun _ _ y => y

theorem S_AssignTup {elts k tpos value pos} {Q : AFlow → St → Prop} (h : WE c value  (fun p st₁ => WAsg c (.Tuple elts k tpos) p  (fun st₂ => Q .next st₂) st₁) st)
    (hs : swapsWithSole [.Tuple elts k tpos] value pos.line c.env = pure false) (hw : swappedStores [.Tuple elts k tpos] value c.env = pure none) : WX c (.Assign [.Tuple elts k tpos] value pos)  Q st := fun hid stk s ok R =>
  Assign_Tuple (wpAny_mono (h hid stk s ok R) (fun v s₁ ⟨p, st₁, R₁, hv, k₁, h₁⟩ =>
    wpAny_mono (h₁ v hid stk s₁ ok R₁ hv) (fun _ _ ⟨_, st₂, R₂, _, k₂, q⟩ => ⟨.next, st₂, R₂, rfl, k₁.trans k₂, q⟩) fun _ _ y => y) fun _ _ y => y) hs hw

/-! ranges -/
theorem call_range2 {a b : Int} {Q : PV → St → Prop} (h : ∀ r, σ r = none → Q (.ref r) (μ, σ.set r (.range a b 1))) : WN c VRep [.int a, .int b] (fun vs => call (.type "range") vs)  Q (μ, σ) := fun vs hid stk s ok R hv => by
  obtain ⟨v1, r1, rfl, h1, hv⟩ := hv.cons_inv
  obtain ⟨v2, r2, rfl, h2, hv⟩ := hv.cons_inv
  rw [hv.nil_inv]
  obtain ⟨t1, rfl⟩ := h1
  obtain ⟨t2, rfl⟩ := h2
  refine call_range_2 ⟨.ref s.heap.objs.size, (μ, σ.set s.heap.objs.size (.range a b 1)), Rep.toks (R.alloc (o := .range a b 1) (ob := { cls := .type "range", data := .fields #[.int a t1, .int b t2, .int 1 s.toks] }) ⟨R.fresh_base, t1, t2, s.toks, Heap.get?_push_size _ rfl⟩) _, rfl, Keeps.push _ _, h _ R.fresh_σ⟩
theorem call_range1 {b : Int} {Q : PV → St → Prop} (h : ∀ r, σ r = none → Q (.ref r) (μ, σ.set r (.range 0 b 1))) : WN c VRep [.int b] (fun vs => call (.type "range") vs)  Q (μ, σ) := fun vs hid stk s ok R hv => by
  obtain ⟨v1, r1, rfl, h1, hv⟩ := hv.cons_inv
  rw [hv.nil_inv]
  obtain ⟨t1, rfl⟩ := h1
  refine call_range_1 ⟨.ref s.heap.objs.size, (μ, σ.set s.heap.objs.size (.range 0 b 1)), Rep.toks (R.alloc (o := .range 0 b 1) (ob := { cls := .type "range", data := .fields #[.int 0 s.toks, .int b t1, .int 1 (s.toks + 1)] }) ⟨R.fresh_base, s.toks, t1, s.toks + 1, Heap.get?_push_size _ rfl⟩) _, rfl, Keeps.push _ _, h _ R.fresh_σ⟩
theorem it_range {target : Expr} {r : Addr} {a b : Int} (h : σ r = some (.range a b 1)) (ha : -1000000 ≤ a) (ha' : a ≤ 1000000) (hb : -1000000 ≤ b) (hb' : b ≤ 1000000) : ItOk c target (.ref r) (μ, σ) (rangeL a 1 (b - a).toNat) (fun _ => True) := fun v hid stk s E Q ok R hv hQ => by
  simp only [VRep] at hv; subst hv
  obtain ⟨_, t, u, w, hr⟩ := R.heap _ _ h
  refine wpAny_pyIter_range hr (small_one (by omega) (by omega) (by omega) (by omega)) (hQ _ _ _ _ _ (iter_range target s.heap.objs.size a 1 (b - a).toNat) rfl trivial ?_ (Keeps.push _ _))
  have hsz : Builtin.Range.rangeSize a b 1 = (((b - a).toNat : Nat) : Int) := by rw [rangeSize_one]; split <;> omega
  have := R.hidNew (ob := { cls := .type "range_iterator", data := .fields #[rawInt a, rawInt (Builtin.Range.rangeSize a b 1), rawInt 1] }) (by show Value.type "range_iterator" ≠ Value.type "tuple"; decide) rfl
  rw [hsz] at this ⊢
  simpa using this

theorem bin_addL {a b : Addr} {l m : List PV} {Q : PV → St → Prop} (ha : seqAt σ a = some l) (hb : seqAt σ b = some m) (hz : l.length + m.length ≤ 16777216) (h : ∀ r, σ r = none → Q (.ref r) (μ, σ.set r (.list (l ++ m)))) : W2 c VRep (.ref a) (.ref b) (binaryOp .Add)  Q (μ, σ) := fun v u hid stk s ok R hv hu => by
  simp only [VRep] at hv hu; subst hv hu
  obtain ⟨vs, hL, hvs⟩ := R.seq ha
  obtain ⟨ws, hM, hws⟩ := R.seq hb
  have e1 := hvs.length; have e2 := hws.length
  obtain ⟨n, hL⟩ := hL
  obtain ⟨n', hM⟩ := hM
  refine concat_meets (id := "list.__add__") ⟨_, hL, rfl⟩ ⟨_, hM, rfl⟩ noFill_list_add seq_list_add F.slot_list_add F.entry_list_add (F.args_list_add_2 _ _) (list_addW a b vs.toArray ws.toArray n n' none none #[] #[] (by rw [sizeLine_eq]; simp; omega)) ⟨hL, hM, ?_⟩
  have e : vs.toArray ++ ws.toArray = (vs ++ ws).toArray := by simp
  show Post c VRep Q hid stk s.heap _ _
  rw [e]
  exact ⟨.ref s.heap.objs.size, (μ, σ.set s.heap.objs.size (.list (l ++ m))), R.newList (hvs.append hws), rfl, Keeps.push _ _, h _ R.fresh_σ⟩

theorem COk.handled {lv A env} (ok : COk lv A env) (h : lv.calm = true) : A.handled = none := ok.ok.calm h

/-! ints in a list -/
def intL (ns : List Int) : List PV := ns.map PV.int
theorem VReps.intsAre {h : Heap} : ∀ {ns : List Int} {vs : List Value}, VReps h (intL ns) vs → IntsAre vs ns
  | [], _, x => by rw [x.nil_inv]; exact .nil
  | n :: ns, vs, x => by
    obtain ⟨v, r, rfl, h1, h2⟩ := VReps.cons_inv (p := .int n) (ps := intL ns) x
    obtain ⟨t, rfl⟩ := h1
    exact .cons n t (VReps.intsAre h2)
theorem intsAre_reps {h : Heap} {ns : List Int} {vs : List Value} (x : IntsAre vs ns) : VReps h (intL ns) vs := by
  induction x with
  | nil => exact .nil
  | cons n t _ ih => exact .cons (p := .int n) ⟨t, rfl⟩ ih
def sortI (ns : List Int) : List Int := ns.mergeSort fun a b => decide (a ≤ b)
theorem sortI_perm (ns : List Int) : (sortI ns).Perm ns := List.mergeSort_perm ..
theorem sortI_sorted (ns : List Int) : (sortI ns).Pairwise (· ≤ ·) := by
  have := List.pairwise_mergeSort (le := fun a b : Int => decide (a ≤ b)) (fun a b c h1 h2 => by simp at *; omega) (fun a b => by simp; omega) ns
  exact this.imp fun h => by simpa using h
theorem perm_sorted_eq : ∀ {l m : List Int}, l.Perm m → l.Pairwise (· ≤ ·) → m.Pairwise (· ≤ ·) → l = m
  | [], m, hp, _, _ => hp.nil_eq
  | x :: l, [], hp, _, _ => by have := hp.length_eq; simp at this
  | x :: l, y :: m, hp, hl, hm => by
    have h1 : x ≤ y := by
      have : y ∈ x :: l := hp.mem_iff.mpr (List.mem_cons_self ..)
      rcases List.mem_cons.mp this with e | e
      · omega
      · exact (List.pairwise_cons.mp hl).1 y e
    have h2 : y ≤ x := by
      have : x ∈ y :: m := hp.mem_iff.mp (List.mem_cons_self ..)
      rcases List.mem_cons.mp this with e | e
      · omega
      · exact (List.pairwise_cons.mp hm).1 x e
    have e : x = y := by omega
    subst e
    rw [perm_sorted_eq (List.Perm.cons_inv hp) (List.pairwise_cons.mp hl).2 (List.pairwise_cons.mp hm).2]
theorem sortI_of {l m : List Int} (hp : l.Perm m) (hs : l.Pairwise (· ≤ ·)) : l = sortI m := perm_sorted_eq (hp.trans (sortI_perm m).symm) hs (sortI_sorted m)

theorem call_sorted {a : Addr} {ns : List Int} {Q : PV → St → Prop} (hs : seqAt σ a = some (intL ns)) (hz : ns.length < 64) (h : ∀ b, σ b = none → Q (.ref b) (μ, σ.set b (.list (intL (sortI ns))))) : WN c VRep [.ref a] (fun vs => call (.builtin "sorted") vs)  Q (μ, σ) := fun vs hid stk s ok R hv => by
  obtain ⟨v1, r1, rfl, h1, hv⟩ := hv.cons_inv
  rw [hv.nil_inv]
  simp only [VRep] at h1; subst h1
  obtain ⟨ws, hL, hws⟩ := R.seq hs
  have e1 := hws.length
  simp only [intL, List.length_map] at e1
  refine sorted_ints hL.isList hws.intsAre (by omega) fun out ns' a1 a2 a3 => ?_
  obtain ⟨e, he⟩ := sortedAll_at s.heap ws out
  have k : Keeps s.heap (sortedAll s.heap ws out) := fun b vs ⟨n, e⟩ => ⟨n, sortedAll_old e⟩
  have hlt : ∀ b ob, s.heap.get? b = some ob → b ≠ s.heap.objs.size + 1 := fun b ob q => Nat.ne_of_lt (Nat.lt_succ_of_lt (Heap.lt_size q))
  have hσ : σ (s.heap.objs.size + 1) = none := by
    cases q : σ (s.heap.objs.size + 1) with
    | none => rfl
    | some o => exact absurd (R.heap _ _ q).lt (Nat.not_lt.mpr (Nat.le_succ _))
  have hb : c.base.get? (s.heap.objs.size + 1) = none := by
    cases q : c.base.get? (s.heap.objs.size + 1) with
    | none => rfl
    | some o => exact absurd rfl (hlt _ _ (R.stays _ _ q))
  rw [sortI_of a2 a3] at a1
  refine ⟨.ref (s.heap.objs.size + 1), (μ, σ.set (s.heap.objs.size + 1) (.list (intL (sortI ns)))), ?_, rfl, k, h _ hσ⟩
  exact R.put (s' := { s with heap := sortedAll s.heap ws out }) (fun b ob _ e => sortedAll_old e) (fun vs ⟨_, h1⟩ => absurd rfl (hlt _ _ h1)) hb (fun p hp => hlt _ _ (R.hid p hp).1) (fun f hf => Nat.ne_of_lt (Nat.lt_succ_of_lt (R.frames f hf).1.lt))
    ⟨hb, out.toList, ⟨e, he⟩, intsAre_reps a1⟩ rfl rfl
theorem call_sum {a : Addr} {ns : List Int} {Q : PV → St → Prop} (hcalm : c.lv.calm = true) (hs : seqAt σ a = some (intL ns)) (h : Q (.int ns.sum) (μ, σ)) : WN c VRep [.ref a] (fun vs => call (.builtin "sum") vs)  Q (μ, σ) := fun vs hid stk s ok R hv => by
  obtain ⟨v1, r1, rfl, h1, hv⟩ := hv.cons_inv
  rw [hv.nil_inv]
  simp only [VRep] at h1; subst h1
  obtain ⟨ws, hL, hws⟩ := R.seq hs
  obtain ⟨xs, hxs⟩ := hws.intsAre.allInts.items
  have hsum : (numsOf ws).sum = ns.sum := by rw [hws.intsAre.numsOf]
  have hLI := hL.isList
  rw [hxs] at hLI
  refine wpAny_mono (wpAny_toks (E := PostX) (Q := fun v s' => ∃ h' tk t', v = .int (preSum (numAt xs) xs.size) t' ∧ s' = { s with heap := h', toks := tk } ∧ ∀ b o, s.heap.get? b = some o → h'.get? b = some o) (sum_intListG (ok.handled hcalm) hLI fun h' tk t' hk => ⟨h', tk, t', rfl, rfl, hk⟩)) (fun v s' hx => ?_) fun _ _ x => x.1
  obtain ⟨⟨h', tk, t', rfl, rfl, hk⟩, htk⟩ := hx
  have k : Keeps s.heap h' := fun b vs ⟨n, e⟩ => ⟨n, hk _ _ e⟩
  refine ⟨.int ns.sum, (μ, σ), R.grow (s' := { s with heap := h', toks := tk }) hk rfl rfl htk, ⟨t', ?_⟩, k, h⟩
  rw [← hsum]
  have e2 : numsOf ws = xs.toList.map (·.1) := by
    have := congrArg Array.toList hxs
    simp only at this
    rw [this, nums_intItems]
  rw [e2, preSum_eq, List.take_of_length_le (by simp)]
end
end Mine
end
section
open PySem PySem.W PyProof.Rows
set_option Elab.async false
set_option linter.unusedVariables false
namespace Mine

section
variable {base : Heap} {os₀ : OsState} {hid : List (Addr × Obj)} {stk : List (Addr × Locals)} {σ : AHeap} {s : Shared}
theorem Rep.swap {f g : Addr × Locals} (R : Rep base os₀ hid (f :: g :: stk) σ s) : Rep base os₀ hid (g :: f :: stk) σ s := by
  refine ⟨R.stays, R.gens, R.os, fun p hp => ?_, fun e he => R.frames e ?_, ?_, R.hnd, R.heap, R.tk⟩
  · obtain ⟨a, b, c, d, e⟩ := R.hid p hp
    exact ⟨a, b, c, fun q => d (by simp at q ⊢; rcases q with q | q | q; exact .inr (.inl q); exact .inl q; exact .inr (.inr q)), e⟩
  · simp at he ⊢; rcases he with q | q | q; exact .inr (.inl q); exact .inl q; exact .inr (.inr q)
  · have := R.nodup
    simp only [List.map_cons, List.nodup_cons, List.mem_cons, not_or] at this ⊢
    exact ⟨⟨fun e => this.1.1 e.symm, this.2.1⟩, this.1.2, this.2.2⟩
/-- a frame that is gone may change -/
theorem Rep.popChange {L : Addr} {μ : Locals} (R : Rep base os₀ hid ((L, μ) :: stk) σ s) {h' : Heap} {tk : Nat} (hs : Heap.SameBut L s.heap h') (ht : s.toks ≤ tk := by first | exact Nat.le_refl _ | exact Nat.le_succ _ | assumption) : Rep base os₀ hid stk σ { s with heap := h', toks := tk } ∧ Keeps s.heap h' := by
  have hL := R.frames (L, μ) (List.mem_cons_self ..)
  have hnt : ∀ vs, ¬ TU s.heap L vs := fun vs ⟨n, e⟩ => by
    obtain ⟨⟨_, m, ⟨o, es, ep, h1, h2, _⟩, _⟩, _⟩ := hL
    rw [e] at h1; cases h1; cases h2
  refine ⟨R.pop.aside (a := L) (fun b ob hb e => (hs.2 b hb).trans e) ⟨hL.1.new, hL.2, fun p hp q => ?_⟩ hnt (fun f hf q => ?_) rfl rfl ht, fun b vs ⟨n, e⟩ => ⟨n, (hs.2 b fun q => hnt vs (q ▸ ⟨n, e⟩)).trans e⟩⟩
  · exact (R.hid p hp).2.2.2.1 (by simp [q])
  · have := R.nodup; simp only [List.map_cons, List.nodup_cons] at this
    exact this.1 (q ▸ List.mem_map_of_mem hf)
end

theorem COk.inner {lv A env} (ok : COk lv A env) {env' : Env} (hk : env'.scope.kind = .function) (hg : env'.globals = env.globals) (hb : env'.builtins = env.builtins) : COk lv A env' := ⟨ok.ok, hk, by rw [hg]; exact ok.globals, by rw [hb]; exact ok.builtins⟩

section
variable {c : Cx} {st : St} {μ : Locals} {σ : AHeap}

abbrev WIfs (c : Cx) (ifs : List Expr) (Q : Bool → St → Prop) (st : St) : Prop :=
  WT c BoolRep (forIn ifs true fun e r => if r = true then do let ok ← isTrue e c.env (eval e c.env); pure (ForInStep.yield ok) else pure (ForInStep.yield r))  Q st
theorem Ifs_nil {Q : Bool → St → Prop} (h : Q true st) : WIfs c []  Q st := fun hid stk s ok R => wpAny_tests_nil ⟨true, st, R, rfl, .refl _, h⟩
theorem Ifs_one {e} {Q : Bool → St → Prop} (h : WC c e  Q st) : WIfs c [e]  Q st := fun hid stk s ok R => wpAny_tests_one (h hid stk s ok R)

/-- what a turn of a comprehension leaves -/
def compQ (I : Nat → St → Prop) (k : Nat) (acc : Addr) (q : PV) (st : St) : Prop := ∃ l, st.2 acc = some (.list l) ∧ l.length ≤ 1000000 ∧ ∃ st₄, I k st₄ ∧ St.le st₄ (st.1, st.2.set acc (.list (l ++ [q])))

def CompR (c : Cx) (Q : St → Prop) (hid : List (Addr × Obj)) (stk : List (Addr × Locals)) (h : Heap) (r : Result) (s' : Shared) : Prop := match r with
  | .ok f => f = .next ∧ ∃ st', Rep c.base c.os hid ((c.env.locals, st'.1) :: stk) st'.2 s' ∧ Keeps h s'.heap ∧ Q st'
  | .error _ => False

theorem comp_loop1 {elt target iter : Expr} {ifs : List Expr} {scope : Scope} {pos : Pos} {it acc : Addr} {Sk KP P items} (hcalm : c.lv.calm = true) (IT : IterAt c.toGx target it Sk KP P items) (I : Nat → St → Prop) (hP : ∀ k st, I k st → P st.2)
    (turn : ∀ k p st, items[k]? = some p → I k st → WAsg c target p  (fun st₁ => WIfs c ifs  (fun b st₂ => (b = true → WE c elt  (fun q st₃ => compQ I (k + 1) acc q st₃) st₂) ∧ (b = false → ∃ st₄, I (k + 1) st₄ ∧ St.le st₄ st₂)) st₁) st)
    {hid stk h₀} (ok : COk c.lv c.A c.env) {k : Nat} {hs st s} (hk : k ≤ items.length) (hS : Sk k hs) (hK : KP s.heap) (hI : I k st) (R : Rep c.base c.os (hs ++ hid) ((c.env.locals, st.1) :: stk) st.2 s) (hk0 : Keeps h₀ s.heap) :
    codeAny c.M c.A (.compLoop (.ListComp elt [⟨target, iter, ifs, 0⟩] scope pos) 0 (.ref it) (.ref acc) c.env) (CompR c  (fun st => I items.length st) hid stk h₀) s := by
  have hh : c.A.handled = none := ok.handled hcalm
  have hE : ∀ e s'', PostX e s'' → notedBy c.M c.A c.env (fun e s' => CompR c  (fun st => I items.length st) hid stk h₀ (.error e) s') e s'' :=
    fun e s'' hx => False.elim hx
  refine codeAny_loop rfl (fun n s' => ∃ k hs st', n = items.length - k ∧ k ≤ items.length ∧ Sk k hs ∧ KP s'.heap ∧ I k st' ∧ Rep c.base c.os (hs ++ hid) ((c.env.locals, st'.1) :: stk) st'.2 s' ∧ Keeps h₀ s'.heap) ?_ (items.length - k)
    ⟨k, hs, st, rfl, hk, hS, hK, hI, R, hk0⟩
  clear hk hS hK hI R hk0
  rintro n s' ⟨k, hs', st', rfl, hle, hSk, hKP, hI, R', k'⟩
  show wpAny _ c.A ((compTurn (.ListComp elt [⟨target, iter, ifs, 0⟩] scope pos) 0 (.ref it) (.ref acc) c.env).onRaise (fun x => do noteFrame x c.env; theTreesLotGoes x)) _ _ s'
  refine wpAny_noted ?_
  rw [compTurn_list]
  refine wpAny_bind (wpAny_standAt (wpAny_bind ?_))
  rcases Nat.lt_or_ge k items.length with hlt | hge
  · have hx : items[k]? = some items[k] := List.getElem?_eq_getElem hlt
    refine IT.next k _ hx _ _ _ _ _ _ _ _ hh hSk hKP (hP _ _ hI) R' fun v s₃ own hv₃ k₃ => ?_
    refine wpAny_bind (own _ _ _ fun s₄ hs₄ hSk₄ R₄ k₄ => ?_)
    refine wpAny_bind (wpAny_mono (turn k _ st' hx hI v (hs₄ ++ hid) stk s₄ ok R₄ (hv₃.mono k₄)) (fun _ s₅ h₅ => ?_) hE)
    obtain ⟨_, st₅, R₅, _, k₅, h₅⟩ := h₅
    refine wpAny_bind (wpAny_mono (h₅ (hs₄ ++ hid) stk s₅ ok R₅) (fun b s₆ h₆ => ?_) hE)
    obtain ⟨bb, st₆, R₆, hb, k₆, h₆⟩ := h₆
    cases hb
    have again : ∀ s₇ (st₇ : St), Rep c.base c.os (hs₄ ++ hid) ((c.env.locals, st₇.1) :: stk) st₇.2 s₇ → Keeps s₆.heap s₇.heap → (∃ st₃, I (k + 1) st₃ ∧ St.le st₃ st₇) → ∃ m, m < items.length - k ∧ (∃ k hs st', m = items.length - k ∧ k ≤ items.length ∧ Sk k hs ∧ KP s₇.heap ∧ I k st' ∧ Rep c.base c.os (hs ++ hid) ((c.env.locals, st'.1) :: stk) st'.2 s₇ ∧ Keeps h₀ s₇.heap) := by
      rintro s₇ st₇ R₇ k₇ ⟨st₃, hI₃, hl₃⟩
      have kk : Keeps s'.heap s₇.heap := k₃.trans (k₄.trans (k₅.trans (k₆.trans k₇)))
      exact ⟨items.length - (k + 1), by omega, k + 1, hs₄, st₃, rfl, hlt, hSk₄, IT.mono _ _ kk hKP, hI₃, (R₇.weaken hl₃.2).locals hl₃.1, k'.trans kk⟩
    cases b with
    | true =>
      simp only [if_true]
      refine wpAny_bind (wpAny_bind (wpAny_mono (h₆.1 rfl (hs₄ ++ hid) stk s₆ ok R₆) (fun x s₇ h₇ => ?_) hE))
      obtain ⟨q, st₇, R₇, hq, k₇, l, hl, hz, fin⟩ := h₇
      have := append_list (c := c) (μ := st₇.1) (σ := st₇.2) (a := acc) (l := l) (p := q) (Q := fun _ st => ∃ st₄, I (k + 1) st₄ ∧ St.le st₄ st) hl (by omega) fin [.ref acc, x] (hs₄ ++ hid) stk s₇ ok R₇ (.cons rfl (.cons hq .nil))
      refine wpAny_bind (wpAny_mono this (fun _ s₈ h₈ => ?_) hE)
      obtain ⟨_, st₈, R₈, _, k₈, fin⟩ := h₈
      exact wpAny_pure (wpAny_pure ⟨rfl, again s₈ st₈ R₈ (k₇.trans k₈) fin⟩)
    | false =>
      simp only [Bool.false_eq_true, if_false]
      exact wpAny_pure ⟨rfl, again s₆ st₆ R₆ (.refl _) (h₆.2 rfl)⟩
  · have hk : k = items.length := by omega
    subst hk
    refine IT.stop _ _ _ _ _ _ _ _ hh hSk hKP (hP _ _ hI) R' fun s₃ R₃ k₃ => ?_
    exact wpAny_pure ⟨rfl, st', R₃, k'.trans k₃, hI⟩

/-- what is asked of the loop of a comprehension over items -/
structure CompOk (c : Cx) (scope : Scope) (cl : List (Str × Addr)) (elt target : Expr) (ifs : List Expr) (items : List PV) (P : AHeap → Prop) (μ : Locals) (σ : AHeap) (Q : Addr → AHeap → Prop) : Prop where
  run : ∀ (c' : Cx) (a : Addr), c'.toGx = c.toGx → c'.lv = c.lv → c'.env.scope = relabel scope c.env → c'.env.cells = cl → σ a = none →
    ∃ I : Nat → St → Prop, I 0 ([], σ.set a (.list [])) ∧ (∀ k st, I k st → P st.2) ∧
      (∀ k p st, items[k]? = some p → I k st → WAsg c' target p (fun st₁ => WIfs c' ifs (fun b st₂ => (b = true → WE c' elt (fun q st₃ => compQ I (k + 1) a q st₃) st₂) ∧ (b = false → ∃ st₄, I (k + 1) st₄ ∧ St.le st₄ st₂)) st₁) st) ∧
      (∀ st, I items.length st → Q a st.2)

theorem wp_comp {elt target iter : Expr} {ifs : List Expr} {scope : Scope} {pos : Pos} {cl : List (Str × Addr)} {use : Option (Value → Sem Unit)} {QV : Value → Shared → Prop} (hcalm : c.lv.calm = true)
    (hclos : closureFor scope c.env = pure cl) (hcell : ∀ y ∈ scope.names, y.2 ≠ .cell) (hkind : scope.kind = .function) (hnames : ∀ x ∈ scope.names, x.2 = .local → scope.names.lookup x.1 = some .local) (hf : ∀ x, foldedSetIterable iter c.env x = pure x)
    {hid stk s₀} (ok : COk c.lv c.A c.env) (R : Rep c.base c.os hid ((c.env.locals, st.1) :: stk) st.2 s₀) {p0 : Pos}
    (h : WE c iter  (fun p st₁ => ∃ items P, ItOk c target p st₁ items P ∧ CompOk c scope cl elt target ifs items P  st₁.1 st₁.2 (fun a σ' => ∀ C ν s', Rep c.base c.os hid ((C, ν) :: (c.env.locals, st₁.1) :: stk) σ' s' → Keeps s₀.heap s'.heap →
      compPost c.M c.A PostX use QV (.ref a) C (.ok .next) s')) st) :
    wpAny c.M c.A (comprehension (.ListComp elt [⟨target, iter, ifs, 0⟩] scope pos) scope c.env p0 (newList []) false (eval iter c.env) use) QV PostX s₀ := by
  refine wpAny_comprehension_free rfl hf hclos hkind hnames (wpAny_mono (h hid stk s₀ ok R) (fun v s₁ hp => ?_) fun _ _ y => y)
  obtain ⟨p, st₁, R₁, hv, k₁, items, P, hit, hrun⟩ := hp
  refine hit v hid stk s₁ _ _ ok R₁ hv fun it Sk KP hs s₂ IT hS0 hK0 R₂ k₂ => ?_
  refine wpAny_newObj_type ?_ (by size_fits)
  -- the accumulator, then the block's own names
  have R₃ := R₂.newList (l := []) (vs := []) .nil
  refine wpAny_newFunctionEnv hcell (by intro y hy; simp at hy) (fun h₁ hns₁ hsb₁ => ?_) hkind
  dsimp only at hns₁ hsb₁ ⊢
  generalize hs₃e : ({ s₂ with heap := s₂.heap.push { cls := .type "list", dict := none, data := .seq ([] : List Value).toArray, slots := #[] } } : Shared) = s₃ at R₃
  have ha3 : s₃.heap = s₂.heap.push { cls := .type "list", dict := none, data := .seq ([] : List Value).toArray, slots := #[] } := by rw [← hs₃e]
  have hkeep : ∀ b o, s₃.heap.get? b = some o → h₁.get? b = some o := fun b o e => by
    rw [ha3] at e
    exact hsb₁.extBut b o (Nat.ne_of_lt (Heap.lt_size e)) (Heap.get?_push_of_some _ e)
  have R₄ : Rep c.base c.os (hs ++ hid) ((s₃.heap.objs.size, []) :: (c.env.locals, st₁.1) :: stk) (st₁.2.set s₂.heap.objs.size (.list [])) { s₃ with heap := h₁ } := by
    have Rg := R₃.grow (s' := { s₃ with heap := h₁ }) hkeep rfl rfl
    refine ⟨Rg.stays, Rg.gens, Rg.os, fun q hq => ?_, fun f hf => ?_, ?_, Rg.hnd, Rg.heap, Rg.tk⟩
    · obtain ⟨a1, b1, c1, d1, e1⟩ := Rg.hid q hq
      exact ⟨a1, b1, c1, fun q' => by
        rw [List.map_cons, List.mem_cons] at q'
        rcases q' with q' | q'
        · exact R₃.fresh_hid q hq q'
        · exact d1 q', e1⟩
    · rcases List.mem_cons.mp hf with rfl | hf
      · exact ⟨⟨R₃.fresh_base, _, by rw [ha3]; exact hns₁, fun x p e => by cases e⟩, R₃.fresh_σ⟩
      · exact Rg.frames f hf
    · rw [List.map_cons, List.nodup_cons]
      exact ⟨fun q => by obtain ⟨f, hf, e⟩ := List.mem_map.mp q; exact R₃.fresh_stk f hf e, Rg.nodup⟩
  have k₃ : Keeps s₂.heap h₁ := fun b vs ⟨n, e⟩ => ⟨n, hkeep _ _ (by rw [ha3]; exact Heap.get?_push_of_some _ e)⟩
  have kall : Keeps s₀.heap h₁ := (k₁.trans k₂).trans k₃
  obtain ⟨I, h0, hP, turn, fin⟩ := hrun.run ⟨c.toGx, c.lv, c.A, compEnvC scope cl s₃.heap.objs.size c.env⟩ s₂.heap.objs.size rfl rfl rfl rfl R₂.fresh_σ
  have hok' : COk c.lv c.A (compEnvC scope cl s₃.heap.objs.size c.env) := ok.inner hkind rfl rfl
  have hloop : ∀ s₄ : Shared, s₄ = { s₃ with heap := h₁ } → codeAny c.M c.A (.compLoop (.ListComp elt [⟨target, iter, ifs, 0⟩] scope pos) 0 (.ref it) (.ref s₂.heap.objs.size) (compEnvC scope cl s₃.heap.objs.size c.env)) (compPost c.M c.A PostX use QV (.ref s₂.heap.objs.size) s₃.heap.objs.size) s₄ := by
    rintro s₄ rfl
    refine codeAny_mono (comp_loop1 (c := ⟨c.toGx, c.lv, c.A, compEnvC scope cl s₃.heap.objs.size c.env⟩) hcalm IT I hP turn (stk := (c.env.locals, st₁.1) :: stk) hok' (Nat.zero_le _) hS0 (IT.mono _ _ k₃ hK0) h0 R₄ kall) fun r s' hr => ?_
    cases r with
    | ok f =>
      obtain ⟨rfl, st', R', k', q⟩ := hr
      exact fin st' q _ _ s' R' k'
    | error e =>
      exact False.elim hr
  have henv : ({ newEnv scope s₃.heap.objs.size c.env.globals cl c.env.qual none .none (some c.env) c.env.builtins with scope := relabel scope c.env } : Env) = compEnvC scope cl s₃.heap.objs.size c.env := rfl
  have hsz : (s₂.heap.push { cls := .type "list", dict := none, data := .seq ([] : List Value).toArray }).objs.size = s₃.heap.objs.size := by rw [ha3]
  rw [hsz]
  have hst : ({ s₂ with heap := h₁, toks := s₂.toks + ([] : List (Str × Value)).length } : Shared) = { s₃ with heap := h₁ } := by rw [← hs₃e]; rfl
  show codeAny c.M c.A (.compStart (.ListComp elt [⟨target, iter, ifs, 0⟩] scope pos) 0 (.ref it) (.ref s₂.heap.objs.size) (compEnvC scope cl s₃.heap.objs.size c.env)) _ _
  rw [hst]
  refine codeAny_compStart_list (hloop _ rfl) ?_
  exact IT.self 0 _ _ _ _ _ _ _ _ hS0 R₄ (hloop _ rfl)

theorem E_ListComp {elt target iter : Expr} {ifs : List Expr} {scope : Scope} {pos : Pos} {cl : List (Str × Addr)} {Q : PV → St → Prop} (hcalm : c.lv.calm = true)
    (hclos : closureFor scope c.env = pure cl) (hcell : ∀ y ∈ scope.names, y.2 ≠ .cell) (hkind : scope.kind = .function) (hnames : ∀ x ∈ scope.names, x.2 = .local → scope.names.lookup x.1 = some .local) (hf : ∀ x, foldedSetIterable iter c.env x = pure x)
    (h : WE c iter  (fun p st₁ => ∃ items P, ItOk c target p st₁ items P ∧ CompOk c scope cl elt target ifs items P  st₁.1 st₁.2 (fun a σ' => Q (.ref a) (st₁.1, σ'))) st) :
    WE c (.ListComp elt [⟨target, iter, ifs, 0⟩] scope pos)  Q st := fun hid stk s ok R => by
  rw [eval_ListComp]
  refine wp_comp (use := none) hcalm hclos hcell hkind hnames hf ok R (WT.mono h (fun p st₁ ⟨items, P, hit, hr⟩ => ⟨items, P, hit, ⟨fun c' a h1 h2 h3 h4 h5 => ?_⟩⟩) fun _ _ y => y)
  obtain ⟨I, h0, hP, turn, fin⟩ := hr.run c' a h1 h2 h3 h4 h5
  refine ⟨I, h0, hP, turn, fun st' hI C ν s' R' k' => ?_⟩
  obtain ⟨⟨_, m, hn, _⟩, _⟩ := R'.frames _ (List.mem_cons_self ..)
  refine ⟨m, hn, fun h' hsb => ?_⟩
  obtain ⟨R'', kk⟩ := R'.popChange (tk := s'.toks) hsb
  exact ⟨.ref a, (st₁.1, st'.2), R'', rfl, k'.trans kk, fin st' hI⟩

/-- a comprehension whose value goes to a local name at once -/
theorem S_AssignComp {x : Str} {pos' spos : Pos} {elt target iter : Expr} {ifs : List Expr} {scope : Scope} {pos : Pos} {cl : List (Str × Addr)} {Q : AFlow → St → Prop} (hcalm : c.lv.calm = true)
    (hsw : swapsWith (.ListComp elt [⟨target, iter, ifs, 0⟩] scope pos) (some (.Name x pos')) spos.line c.env = pure true) (hl : c.env.scope.names.lookup x = some .local)
    (hclos : closureFor scope c.env = pure cl) (hcell : ∀ y ∈ scope.names, y.2 ≠ .cell) (hkind : scope.kind = .function) (hnames : ∀ x ∈ scope.names, x.2 = .local → scope.names.lookup x.1 = some .local) (hf : ∀ x, foldedSetIterable iter c.env x = pure x)
    (h : WE c iter  (fun p st₁ => ∃ items P, ItOk c target p st₁ items P ∧ CompOk c scope cl elt target ifs items P  st₁.1 st₁.2 (fun a σ' => Q .next (setL x (.ref a) st₁.1, σ'))) st) :
    WX c (.Assign [.Name x pos'] (.ListComp elt [⟨target, iter, ifs, 0⟩] scope pos) spos)  Q st := fun hid stk s ok R => by
  rw [exec_Assign_Name_used x pos' _ spos hsw]
  refine wpAny_bind (wpAny_standAt (wpAny_bind ?_))
  show wpAny _ _ (do let _ ← comprehension (.ListComp elt [⟨target, iter, ifs, 0⟩] scope pos) scope c.env _ (newList []) false (eval iter c.env) (some (assign (.Name x pos') c.env))) _ _ s
  refine wpAny_bind (wp_comp (use := some (assign (.Name x pos') c.env)) hcalm hclos hcell hkind hnames hf ok R (WT.mono h (fun p st₁ ⟨items, P, hit, hr⟩ => ⟨items, P, hit, ⟨fun c' a h1 h2 h3 h4 h5 => ?_⟩⟩) fun _ _ y => y))
  obtain ⟨I, h0, hP, turn, fin⟩ := hr.run c' a h1 h2 h3 h4 h5
  refine ⟨I, h0, hP, turn, fun st' hI C ν s' R' k' => ?_⟩
  have := Asg_local (c := c) (x := x) (pos := pos') (p := .ref a) (μ := st₁.1) (σ := st'.2) (Q := fun st => Q .next st) hl (fin st' hI) (.ref a) hid ((C, ν) :: stk) s' ok R'.swap rfl
  refine wpAny_mono this (fun _ s'' hq => ?_) fun e s'' hx => ?_
  · obtain ⟨_, st₂, R₂, _, k₂, q⟩ := hq
    have R₂' := R₂.swap
    obtain ⟨⟨_, m, hn, _⟩, _⟩ := R₂'.frames _ (List.mem_cons_self ..)
    refine ⟨m, hn, fun h' hsb => ?_⟩
    obtain ⟨R₃, kk⟩ := R₂'.popChange (tk := s''.toks) hsb
    exact wpAny_pure (wpAny_pure ⟨.next, st₂, R₃, rfl, (k'.trans k₂).trans kk, q⟩)
  · exact False.elim hx
end
end Mine
end
section
open PySem PySem.W PyProof.Rows
set_option Elab.async false
set_option linter.unusedVariables false
set_option maxRecDepth 10000
namespace Mine

section
variable {c : Cx} {st : St} {μ : Locals} {σ : AHeap}

end
end Mine
end
section
open PySem PySem.W PyProof.Rows
set_option Elab.async false
set_option linter.unusedVariables false
set_option maxRecDepth 10000
namespace Mine

section
variable {M : Model} {A : Around} {E : Value → Shared → Prop} {s : Shared}
end

section
variable {prog : Program} {w : World} {A : Around} {E : Value → Shared → Prop} {s : Shared} {i : Int} {t : Tok} {Q : Value → Shared → Prop}
end
section
variable {prog : Program} {w : World} {A : Around} {E : Value → Shared → Prop} {s : Shared} {i : Int} {t : Tok} {Q : Value → Shared → Prop}
end

/-! comparing an int with a stranger -/
section
variable {c : Cx} {st : St} {μ : Locals} {σ : AHeap}
theorem COk.room {lv A env} (ok : COk lv A env) : A.units < cLine := by
  have a := ok.ok
  have := a.units
  have e : cLine = 9900 := rfl
  omega
end
end Mine
end
section
open PySem PySem.W PyProof.Rows
set_option Elab.async false
set_option linter.unusedVariables false
set_option maxRecDepth 10000
namespace Mine

section
variable {c : Cx} {st : St} {μ : Locals} {σ : AHeap}

theorem bin_floordiv {i j : Int} {Q : PV → St → Prop} (h0 : j ≠ 0) (hj : j.natAbs < 1073741824) (h : Q (.int (i.fdiv j)) st) : W2 c VRep (.int i) (.int j) (binaryOp .FloorDiv)  Q st :=
  W2_ints (fun q => PyProof.Rows.floordiv_int h0 q (.inl (PyProof.noPylong_small hj))) h

def andV (c : Cx) (l : List Expr) (pos : Pos) (p : PV) (Q : PV → St → Prop) (b : Bool) (st : St) : Prop := if b then WE c (.BoolOp .And l pos)  Q st else Q p st
theorem andV_true {l pos p} {Q : PV → St → Prop} (h : WE c (.BoolOp .And l pos)  Q st) : andV c l pos p  Q true st := h
theorem E_And {e₁ e₂ rest pos} {Q : PV → St → Prop} (h : WE c e₁  (fun p st₁ => W1 c BoolRep p truthy  (andV c (e₂ :: rest) pos p  Q) st₁) st) : WE c (.BoolOp .And (e₁ :: e₂ :: rest) pos)  Q st := fun hid stk s ok R =>
  BoolOp_and (wpAny_mono (h hid stk s ok R) (fun v s₁ ⟨p, st₁, R₁, hv, k₁, h₁⟩ => wpAny_mono (h₁ v hid stk s₁ ok R₁ hv) (fun b s₂ ⟨b', st₂, R₂, hb, k₂, h₂⟩ => by
    cases hb
    cases b
    · rw [if_neg (by decide)]
      exact ⟨p, st₂, R₂, hv.mono k₂, k₁.trans k₂, h₂⟩
    · rw [if_pos rfl]
      exact wpAny_mono (h₂ hid stk s₂ ok R₂) (fun _ _ y => y.keeps (k₁.trans k₂)) fun _ _ y => y) fun _ _ y => y) fun _ _ y => y)
theorem E_And1 {e pos} {Q : PV → St → Prop} (h : WE c e  Q st) : WE c (.BoolOp .And [e] pos)  Q st := fun hid stk s ok R => BoolOp_one (h hid stk s ok R)

/-! slices of lists -/
abbrev WPart (c : Cx) (x : Option Expr) (Q : PV → St → Prop) (st : St) : Prop := WT c VRep (evalPart x c.env)  Q st
theorem Part_none {Q : PV → St → Prop} (h : Q .none st) : WPart c none  Q st := fun hid stk s ok R => wpAny_pure (a := Value.none) ⟨.none, st, R, rfl, .refl _, h⟩
theorem Part_some {e} {Q : PV → St → Prop} (h : WE c e  Q st) : WPart c (some e)  Q st := fun hid stk s ok R => h hid stk s ok R
def SliceI (c : Cx) (p lo hi : PV) (Q : PV → St → Prop) (st : St) : Prop :=
  ∀ v l u hid stk s, COk c.lv c.A c.env → Rep c.base c.os hid ((c.env.locals, st.1) :: stk) st.2 s → VRep s.heap p v → VRep s.heap lo l → VRep s.heap hi u →
    (∃ T id, s.TypeIs v T ∧ typeLookup (.type T) "__getitem__" = pure (some (.builtin id))) ∧
    ∀ sl, s.heap.IsSliceOf sl l u .none → wpAny c.M c.A (getItem v (.ref sl)) (Post c VRep Q hid stk s.heap) PostX s
theorem E_Slice {value lower upper p pos} {Q : PV → St → Prop} (h : WE c value  (fun pv st₁ => WPart c lower  (fun lo st₂ => WPart c upper  (fun hi st₃ => SliceI c pv lo hi  Q st₃) st₂) st₁) st) :
    WE c (.Subscript value (.Slice lower upper none p) pos)  Q st := fun hid stk s ok R => by
  show wpAny _ _ (do
    let o ← eval value c.env
    let i ← holding [o] (eval (.Slice lower upper none p) c.env)
    standAt pos
    let r ← subscripted (.Slice lower upper none p) (← getitemInPython o) o i
    letTemporaryGo value o r
    pure r) _ _ s
  refine wpAny_bind (wpAny_mono (h hid stk s ok R) (fun v s₁ hp => ?_) fun _ _ y => y)
  obtain ⟨pv, st₁, R₁, hv, k₁, h₁⟩ := hp
  refine wpAny_bind (wpAny_holding (wpAny_Slice (wpAny_mono (h₁ hid stk s₁ ok R₁) (fun lo s₂ hq => ?_) fun _ _ y => y)))
  obtain ⟨plo, st₂, R₂, hlo, k₂, h₂⟩ := hq
  refine wpAny_mono (h₂ hid stk s₂ ok R₂) (fun hi s₃ hq => ?_) fun _ _ y => y
  obtain ⟨phi, st₃, R₃, hhi, k₃, h₃⟩ := hq
  refine wpAny_pure (a := Value.none) (wpAny_bind (wpAny_standAt ?_))
  have R₄ := R₃.grow (s' := { s₃ with heap := s₃.heap.push { cls := .type "slice", data := .fields #[lo, hi, .none] } }) (fun _ _ e => Heap.get?_push_of_some _ e) rfl rfl
  have k₄ := Keeps.push s₃.heap { cls := .type "slice", data := .fields #[lo, hi, .none] }
  obtain ⟨⟨T, id, hT, hl⟩, hg⟩ := h₃ v lo hi hid stk _ ok R₄ (hv.mono ((k₂.trans k₃).trans k₄)) (hlo.mono (k₃.trans k₄)) (hhi.mono k₄)
  exact tail_any (value := value) (slice := .Slice lower upper none p) (ops := [.ref s₃.heap.objs.size, v]) hT hl (wpAny_mono (hg _ (Heap.IsSliceOf.new s₃.heap lo hi .none)) (fun _ _ y => y.keeps (((k₁.trans k₂).trans k₃).trans k₄)) fun _ _ y => y) rfl

theorem slice_list {a : Addr} {l l' : List PV} {lo hi : PV} {lo' hi' : Option Int} {Q : PV → St → Prop} (hs : seqAt σ a = some l) (hz : l.length ≤ 16777216)
    (hlo : ∀ h v, VRep h lo v → IsPart v lo') (hhi : ∀ h v, VRep h hi v → IsPart v hi') (hp : ∀ h vs, VReps h l vs → ∃ ws : List Value, slicePick vs.toArray lo' hi' none = ws.toArray ∧ VReps h l' ws)
    (h : ∀ b, σ b = none → Q (.ref b) (μ, σ.set b (.list l'))) : SliceI c (.ref a) lo hi  Q (μ, σ) := fun v vl vu hid stk s ok R hv hl hu => by
  simp only [VRep] at hv; subst hv
  obtain ⟨vs, hL, hvs⟩ := R.seq hs
  have e1 := hvs.length
  obtain ⟨ws, hw, hws⟩ := hp _ _ hvs
  refine ⟨⟨"list", _, hL.isList.typeIs, slot_list_getitem.lookup⟩, fun sl hsl => ?_⟩
  refine wpAny_getItem_list_slice hL.isList hsl (hlo _ _ hl) (hhi _ _ hu) .none (by simp) ?_ (by rw [sizeLine_eq]; simp; omega)
  rw [hw]
  exact ⟨.ref s.heap.objs.size, (μ, σ.set s.heap.objs.size (.list l')), R.newList hws, rfl, Keeps.push _ _, h _ R.fresh_σ⟩
theorem isPart_none : ∀ (h : Heap) v, VRep h .none v → IsPart v none := fun h v e => by simp only [VRep] at e; subst e; exact .none
theorem isPart_int (i : Int) : ∀ (h : Heap) v, VRep h (.int i) v → IsPart v (some i) := fun h v e => by obtain ⟨t, rfl⟩ := e; exact .int _ _
theorem slice_from {a : Addr} {l : List PV} {n : Nat} {Q : PV → St → Prop} (hs : seqAt σ a = some l) (hz : l.length ≤ 16777216) (h : ∀ b, σ b = none → Q (.ref b) (μ, σ.set b (.list (l.drop n)))) : SliceI c (.ref a) (.int n) .none  Q (μ, σ) :=
  slice_list hs hz (isPart_int _) isPart_none (fun h vs hv => ⟨vs.drop n, by rw [slicePick_from'], hv.drop n⟩) h
theorem slice_upto {a : Addr} {l : List PV} {n : Nat} {Q : PV → St → Prop} (hs : seqAt σ a = some l) (hz : l.length ≤ 16777216) (h : ∀ b, σ b = none → Q (.ref b) (μ, σ.set b (.list (l.take n)))) : SliceI c (.ref a) .none (.int n)  Q (μ, σ) :=
  slice_list hs hz isPart_none (isPart_int _) (fun h vs hv => ⟨vs.take n, by rw [slicePick_upto'], hv.take n⟩) h
/-! is -/
theorem is_none {p : PV} {Q : PV → St → Prop} (hb : ∀ x, p ≠ .bi x) (h : Q (.bool (match p with | .none => true | _ => false)) st) : W2 c VRep p .none (compareOp .Is)  Q st := fun v u hid stk s ok R hv hu => by
  simp only [VRep] at hu; subst hu
  cases p with
  | none => simp only [VRep] at hv; subst hv; exact wpAny_is_self rfl ⟨.bool true, st, R, rfl, .refl _, h⟩
  | bool b => simp only [VRep] at hv; subst hv; exact wpAny_is_other rfl (by simp) ⟨.bool false, st, R, rfl, .refl _, h⟩
  | int i => obtain ⟨t, rfl⟩ := hv; exact wpAny_is_other rfl (by simp) ⟨.bool false, st, R, rfl, .refl _, h⟩
  | str x t => simp only [VRep] at hv; subst hv; exact wpAny_is_other rfl (by simp) ⟨.bool false, st, R, rfl, .refl _, h⟩
  | ref a => simp only [VRep] at hv; subst hv; exact wpAny_is_other rfl (by simp) ⟨.bool false, st, R, rfl, .refl _, h⟩
  | ty x => simp only [VRep] at hv; subst hv; exact wpAny_is_other rfl (by simp) ⟨.bool false, st, R, rfl, .refl _, h⟩
  | bi x => exact absurd rfl (hb x)
  | tup l => simp only [VRep] at hv; obtain ⟨a, vs, rfl, _⟩ := hv; exact wpAny_is_other rfl (by simp) ⟨.bool false, st, R, rfl, .refl _, h⟩
theorem isNot_none {p : PV} {Q : PV → St → Prop} (hb : ∀ x, p ≠ .bi x) (h : Q (.bool (match p with | .none => false | _ => true)) st) : W2 c VRep p .none (compareOp .IsNot)  Q st := fun v u hid stk s ok R hv hu => by
  simp only [VRep] at hu; subst hu
  cases p with
  | none => simp only [VRep] at hv; subst hv; exact wpAny_isNot_self rfl ⟨.bool false, st, R, rfl, .refl _, h⟩
  | bool b => simp only [VRep] at hv; subst hv; exact wpAny_isNot_other rfl (by simp) ⟨.bool true, st, R, rfl, .refl _, h⟩
  | int i => obtain ⟨t, rfl⟩ := hv; exact wpAny_isNot_other rfl (by simp) ⟨.bool true, st, R, rfl, .refl _, h⟩
  | str x t => simp only [VRep] at hv; subst hv; exact wpAny_isNot_other rfl (by simp) ⟨.bool true, st, R, rfl, .refl _, h⟩
  | ref a => simp only [VRep] at hv; subst hv; exact wpAny_isNot_other rfl (by simp) ⟨.bool true, st, R, rfl, .refl _, h⟩
  | ty x => simp only [VRep] at hv; subst hv; exact wpAny_isNot_other rfl (by simp) ⟨.bool true, st, R, rfl, .refl _, h⟩
  | bi x => exact absurd rfl (hb x)
  | tup l => simp only [VRep] at hv; obtain ⟨a, vs, rfl, _⟩ := hv; exact wpAny_isNot_other rfl (by simp) ⟨.bool true, st, R, rfl, .refl _, h⟩
end
end Mine
end
section
open PySem PySem.W PyProof.Rows
set_option Elab.async false
set_option linter.unusedVariables false
set_option maxRecDepth 10000
namespace Mine

section
variable {c : Cx} {st : St} {μ : Locals} {σ : AHeap}

/-! an item as a target -/
theorem Asg_Sub {o i pos} {p : PV} {Q : St → Prop} (h : WE c o  (fun po st₂ => WE c i  (fun pi st₃ => W3 c UnitRep po pi p (fun o i v => setItem o i v)  (fun _ st₄ => Q st₄) st₃) st₂) st) : WAsg c (.Subscript o i pos) p  Q st := fun v hid stk s ok R hv => by
  show wpAny _ _ (assign (.Subscript o i pos) c.env v) _ _ s
  rw [arm_assign_Subscript]
  refine wpAny_bind (wpAny_holding (wpAny_mono (h hid stk s ok R) (fun vo s₂ hp => ?_) fun _ _ y => y))
  obtain ⟨po, st₂, R₂, hvo, k₂, h₂⟩ := hp
  refine wpAny_bind (wpAny_holding (wpAny_mono (h₂ hid stk s₂ ok R₂) (fun vi s₃ hp => ?_) fun _ _ y => y))
  obtain ⟨pi, st₃, R₃, hvi, k₃, h₃⟩ := hp
  refine wpAny_bind (wpAny_standAt (wpAny_bind (wpAny_holding (wpAny_mono (h₃ vo vi v hid stk s₃ ok R₃ (hvo.mono k₃) hvi (hv.mono (k₂.trans k₃))) (fun _ s₄ hq => ?_) fun _ _ y => y))))
  obtain ⟨_, st₄, R₄, _, k₄, q⟩ := hq
  exact wpAny_release ⟨(), st₄, R₄, trivial, (k₂.trans k₃).trans k₄, q⟩
end
end Mine
end
section
open PySem PySem.W PyProof.Rows PySem.SeqAt
set_option Elab.async false
set_option linter.unusedVariables false
set_option maxRecDepth 10000
namespace Mine

/-! tuples of ints, by their order -/
def lexI : List Int → List Int → Bool
  | [], [] => false
  | [], _ :: _ => true
  | _ :: _, [] => false
  | x :: xs, y :: ys => if x == y then lexI xs ys else decide (x < y)

theorem intsAre_get {vs : List Value} {ns : List Int} (h : IntsAre vs ns) : ∀ i (hi : i < vs.length), ∃ (hn : i < ns.length) (t : Tok), vs[i] = .int ns[i] t := by
  induction h with
  | nil => intro i hi; simp at hi
  | cons n t _ ih =>
    intro i hi
    cases i with
    | zero => exact ⟨by simp, t, rfl⟩
    | succ i =>
      obtain ⟨hn, t', e⟩ := ih i (by simpa using hi)
      exact ⟨by simpa using hn, t', by simpa using e⟩
theorem intsAre_len {vs : List Value} {ns : List Int} (h : IntsAre vs ns) : vs.length = ns.length := by
  induction h with
  | nil => rfl
  | cons n t _ ih => simp [ih]

set_option maxHeartbeats 1000000 in
theorem tuple_ltAt (l b : Addr) (items items2 : Array Value) (n n2 : Nat) (dd dd2 : Option Addr) (sl sl2 : Array (Option Value)) (ns ms : List Int) :
    Meets (Builtin.«tuple.__lt__» ⟨[.ref l, .ref b], []⟩)
      (fun A R s => s.heap.get? l = some { cls := .type "tuple", dict := dd, data := .seq items n, slots := sl } ∧ s.heap.get? b = some { cls := .type "tuple", dict := dd2, data := .seq items2 n2, slots := sl2 } ∧
        (IntsAre items.toList ns ∧ IntsAre items2.toList ms) ∧ R (.ok (.ret (.bool (lexI ns ms)))) s) :=
  .of_wp fun prog w A R s h => by
    obtain ⟨hp, g, d, tk, os⟩ := s; obtain ⟨hl, hb, ⟨hn, hm⟩, h⟩ := h
    have f2 := AutoSeq1.sub_tuple_tuple
    have e1 := intsAre_len hn
    have e2 := intsAre_len hm
    have hZ : (items.toList.zip items2.toList).length = min ns.length ms.length := by rw [List.length_zip, e1, e2]
    wp_walk using wpAny_loadPart' hl, wpAny_loadPart' hb, wpAny_forIn_list _ (fun rest b s' => b.1 = none ∧ s' = ⟨hp, g, d, tk, os⟩ ∧ ∃ i, i ≤ min ns.length ms.length ∧ rest = (items.toList.zip items2.toList).drop i ∧
      lexI (ns.drop i) (ms.drop i) = lexI ns ms) _
    case turn =>
      rintro ⟨y, x⟩ rest b s' ⟨hb', rfl, i, hi, hz, hR⟩
      have hlt : i < (items.toList.zip items2.toList).length := by
        rcases Nat.lt_or_ge i (items.toList.zip items2.toList).length with h' | h'
        · exact h'
        · rw [List.drop_of_length_le h'] at hz; cases hz
      have hm' : i < min ns.length ms.length := hZ ▸ hlt
      have h1 : i < items.toList.length := by omega
      have h2 : i < items2.toList.length := by omega
      rw [List.drop_eq_getElem_cons hlt] at hz
      injection hz with hyx hrest
      obtain ⟨hn1, t1, v1⟩ := intsAre_get hn i h1
      obtain ⟨hn2, t2, v2⟩ := intsAre_get hm i h2
      have hy : y = .int ns[i] t1 := by rw [← v1]; have := congrArg Prod.fst hyx; simpa using this
      have hx : x = .int ms[i] t2 := by rw [← v2]; have := congrArg Prod.snd hyx; simpa using this
      subst hy hx
      rw [List.drop_eq_getElem_cons hn1, List.drop_eq_getElem_cons hn2, lexI] at hR
      refine wpAny_bind (EqAt.int_int _ _ _ _ prog w _ _ ?_)
      cases hy : (ns[i] == ms[i]) with
      | true =>
        rw [hy, if_pos rfl] at hR
        wp_walk
        exact ⟨rfl, rfl, i + 1, by omega, hrest, hR⟩
      | false =>
        rw [hy, if_neg (by decide)] at hR
        refine wpAny_ite_split (fun _ => ?_) (fun hab => absurd rfl hab)
        refine wpAny_bind (wpAny_rule (wpAny_bind ?_))
        refine richCompare_gives (op := .Lt) (typeIs_int _ _ _) (typeIs_int _ _ _) F.slot_int_lt F.entry_int_lt (F.args_int_lt_2 _ _) (gives_int_lt _ _ _ _) (fun x => nomatch x) ?_
        refine wpAny_bind (wpAny_pure (wpAny_pure ?_))
        refine wpAny_pure ⟨_, rfl, ?_⟩
        rw [hR]; exact h
    case fin =>
      rintro ⟨b1, b2⟩ s' ⟨hb', rfl, i, hi, hz, hR⟩
      simp only at hb'
      subst hb'
      have hge : min ns.length ms.length ≤ i := by
        rcases Nat.lt_or_ge i (items.toList.zip items2.toList).length with h' | h'
        · rw [List.drop_eq_getElem_cons h'] at hz; cases hz
        · exact hZ ▸ h'
      have hlex : lexI ns ms = decide (items.size < items2.size) := by
        rw [← hR]
        have e1' : items.size = ns.length := by rw [← e1]; simp
        have e2' : items2.size = ms.length := by rw [← e2]; simp
        rw [e1', e2']
        rcases Nat.lt_or_ge ns.length ms.length with q | q
        · rw [List.drop_of_length_le (show ns.length ≤ i by omega), List.drop_eq_getElem_cons (show i < ms.length by omega)]
          simp [lexI, q]
        · rw [List.drop_of_length_le (l := ms) (show ms.length ≤ i by omega)]
          rcases Nat.lt_or_ge i ns.length with q' | q'
          · rw [List.drop_eq_getElem_cons q']; simp [lexI]; omega
          · rw [List.drop_of_length_le q']; simp [lexI]; omega
      wp_walk
      exact ⟨_, rfl, by rw [hlex] at h; simpa [Builtin.Tuple.tupleCompareSizes] using h⟩
    case h => exact ⟨rfl, rfl, 0, by omega, by simp, by simp⟩
end Mine
end
section
open PySem PySem.W PyProof.Rows PySem.SeqAt
set_option Elab.async false
set_option linter.unusedVariables false
set_option maxRecDepth 10000
namespace Mine

section
variable {c : Cx} {st : St} {μ : Locals} {σ : AHeap}

theorem cmp_lt_tup {ns ms : List Int} {Q : PV → St → Prop} (h : Q (.bool (lexI ns ms)) st) : W2 c VRep (.tup (intL ns)) (.tup (intL ms)) (compareOp .Lt)  Q st := fun v u hid stk s ok R hv hu => by
  simp only [VRep] at hv hu
  obtain ⟨a, vs, rfl, ⟨n, hL⟩, hvs⟩ := hv
  obtain ⟨b, ws, rfl, ⟨n', hM⟩, hws⟩ := hu
  have hU := ok.units
  exact richCompare_meets_room (op := .Lt) ⟨_, hL, rfl⟩ ⟨_, hM, rfl⟩ F.slot_tuple_lt F.entry_tuple_lt (F.args_tuple_lt_2 _ _) (tuple_ltAt a b vs.toArray ws.toArray n n' none none #[] #[] ns ms)
    ⟨hL, hM, ⟨hvs.intsAre, hws.intsAre⟩, (fun x => nomatch x), ⟨.bool (lexI ns ms), st, R, rfl, .refl _, h⟩⟩ (by rw [cLine_is]; omega)

/-! lists -/
theorem insert_list {a : Addr} {l : List PV} {i : Int} {p : PV} {Q : PV → St → Prop} (hs : σ a = some (.list l)) (h0 : 0 ≤ i) (hi : i ≤ l.length) (hz : l.length ≤ 16000000) (h : Q .none (μ, σ.set a (.list (l.take i.toNat ++ p :: l.drop i.toNat)))) :
    WN c VRep [.ref a, .int i, p] (fun vs => call (.builtin "list.insert") vs)  Q (μ, σ) := fun vs hid stk s ok R hv => by
  obtain ⟨v1, r1, rfl, h1, hv⟩ := hv.cons_inv
  obtain ⟨v2, r2, rfl, h2, hv⟩ := hv.cons_inv
  obtain ⟨v3, r3, rfl, h3, hv⟩ := hv.cons_inv
  rw [hv.nil_inv]
  simp only [VRep] at h1; subst h1
  obtain ⟨t, rfl⟩ := h2
  obtain ⟨hb, ws, hL, hws⟩ := R.heap _ _ hs
  have hlen := hws.length
  obtain ⟨n, e⟩ := id hL
  refine call_meets F.slot_list_insert ⟨_, e, rfl⟩ F.entry_list_insert (F.args_list_insert_3 _ _ _) (AutoListH.list_insert_list_int_val_1 a ws.toArray n i t v3 (by rw [fitsIndex_of h0 (by omega)]; decide) (by rw [sizeLine_eq]; simp; omega)) ⟨e, ?_⟩
  obtain ⟨R', k⟩ := R.listUpd (tk := s.toks) (l' := l.take i.toNat ++ p :: l.drop i.toNat) (ws := ws.take i.toNat ++ v3 :: ws.drop i.toNat) hs upd_other (hL.upd (f := fun xs => have k := if i < 0 then (i + ((xs.size : Nat) : Int)).toNat else min i.toNat xs.size; (xs.extract 0 k).push v3 ++ xs.extract k) (by
    have e1 : ¬ i < 0 := by omega
    have e2 : min i.toNat ws.toArray.size = i.toNat := by simp; omega
    simp only [e1, if_false, e2]
    apply Array.toList_inj.mp
    simp
    exact List.take_of_length_le (by simp))) ((hws.take _).append (.cons h3 (hws.drop _)))
  exact ⟨.none, (μ, _), R', rfl, k, h⟩

/-! tuples -/
theorem get_tup {l : List PV} {i : Int} {p : PV} {Q : PV → St → Prop} (h0 : 0 ≤ i) (hx : l[i.toNat]? = some p) (hz : l.length ≤ 16777216) (h : Q p st) : GetI c (.tup l) (.int i)  Q st := fun v u hid stk s ok R hv hu => by
  simp only [VRep] at hv
  obtain ⟨a, vs, rfl, hT, hvs⟩ := hv
  obtain ⟨t, rfl⟩ := hu
  obtain ⟨x, hx', hr⟩ := hvs.get _ _ hx
  have hlt : i.toNat < l.length := (List.getElem?_eq_some_iff.mp hx).1
  have e1 := hvs.length
  refine ⟨⟨"tuple", _, hT.isTuple.typeIs, F.slot_tuple_getitem.lookup⟩, ?_⟩
  obtain ⟨n, e⟩ := hT
  exact PySem.P.getItem_tuple (n := n) (k := i.toNat) e (by omega) (by omega) (seqIndex_of h0 (by simp; omega)) (by simpa using hx') ⟨p, st, R, hr, .refl _, h⟩
end
end Mine
end
section
open PySem PySem.W PyProof.Rows
set_option Elab.async false
set_option linter.unusedVariables false
set_option maxRecDepth 10000
namespace Mine

end Mine
end
section
set_option Elab.async false
set_option linter.unusedVariables false
namespace Mine

/-! heaps, plainly -/
section
variable {α β : Type}
def sdnB (lt : α → α → Bool) (d x : α) (pos : Nat) (l : List α) : List α :=
  if h : pos > 0 then
    if lt x (l.getD ((pos - 1) / 2) d) then sdnB lt d x ((pos - 1) / 2) (l.set pos (l.getD ((pos - 1) / 2) d)) else l.set pos x
  else l.set pos x
termination_by pos
decreasing_by omega

def supB (lt : α → α → Bool) (d : α) (pos : Nat) (l : List α) : Nat × List α :=
  if h : 2 * pos + 1 < l.length then
    if 2 * pos + 2 < l.length ∧ lt (l.getD (2 * pos + 1) d) (l.getD (2 * pos + 2) d) = false then supB lt d (2 * pos + 2) (l.set pos (l.getD (2 * pos + 2) d))
    else supB lt d (2 * pos + 1) (l.set pos (l.getD (2 * pos + 1) d))
  else (pos, l)
termination_by l.length - pos
decreasing_by all_goals simp only [List.length_set]; omega

/-- sifted up from the top, x being there -/
def topB (lt : α → α → Bool) (d x : α) (l : List α) : List α := let r := supB lt d 0 l; sdnB lt d x r.1 (r.2.set r.1 x)

structure LtTot (lt : α → α → Bool) : Prop where
  asym : ∀ a b, lt a b = true → lt b a = false
  ntrans : ∀ a b c, lt a b = false → lt b c = false → lt a c = false
theorem LtTot.left {lt : α → α → Bool} (h : LtTot lt) {a b c : α} (h1 : lt a b = true) (h2 : lt c b = false) : lt c a = false := by
  cases q : lt c a with
  | false => rfl
  | true =>
    -- c < a < b
    have := h.ntrans c b a h2 (h.asym _ _ h1)
    rw [q] at this; cases this
def IsHeap (lt : α → α → Bool) (d : α) (l : List α) : Prop := ∀ k, 0 < k → k < l.length → lt (l.getD k d) (l.getD ((k - 1) / 2) d) = false

theorem getD_set_same {l : List α} {i : Nat} {x d : α} (h : i < l.length) : (l.set i x).getD i d = x := by simp [List.getD_eq_getElem?_getD, h]
theorem getD_set_ne {l : List α} {i j : Nat} {x d : α} (h : i ≠ j) : (l.set i x).getD j d = l.getD j d := by simp [List.getD_eq_getElem?_getD, List.getElem?_set_ne h]

@[simp] theorem supB_length (lt : α → α → Bool) (d : α) (pos : Nat) (l : List α) : (supB lt d pos l).2.length = l.length := by
  fun_induction supB lt d pos l <;> simp_all
theorem supB_lt {lt : α → α → Bool} {d : α} {pos : Nat} {l : List α} (h : pos < l.length) : (supB lt d pos l).1 < l.length := by
  fun_induction supB lt d pos l with
  | case1 pos l h1 h2 ih => have := ih (by simp; omega); simpa using this
  | case2 pos l h1 h2 ih => have := ih (by simp; omega); simpa using this
  | case3 pos l h1 => exact h
theorem supB_leaf {lt : α → α → Bool} {d : α} {pos : Nat} {l : List α} : l.length ≤ 2 * (supB lt d pos l).1 + 1 := by
  fun_induction supB lt d pos l with
  | case1 pos l h1 h2 ih => simpa using ih
  | case2 pos l h1 h2 ih => simpa using ih
  | case3 pos l h1 => simp; omega

/-- but for the hole at pos -/
structure Hole (lt : α → α → Bool) (d : α) (pos : Nat) (l : List α) : Prop where
  else_ : ∀ k, 0 < k → k < l.length → k ≠ pos → (k - 1) / 2 ≠ pos → lt (l.getD k d) (l.getD ((k - 1) / 2) d) = false
  over : 0 < pos → ∀ k, 0 < k → k < l.length → (k - 1) / 2 = pos → lt (l.getD k d) (l.getD ((pos - 1) / 2) d) = false

theorem sdnB_heap {lt : α → α → Bool} (ht : LtTot lt) {d x : α} {pos : Nat} {l : List α} (hp : pos < l.length) (H : Hole lt d pos l) (hx : ∀ k, 0 < k → k < l.length → (k - 1) / 2 = pos → lt (l.getD k d) x = false) :
    IsHeap lt d (sdnB lt d x pos l) := by
  fun_induction sdnB lt d x pos l with
  | case1 pos l h1 h2 ih =>
    have hq : (pos - 1) / 2 < pos := by omega
    refine ih (by simp; omega) ⟨fun k k0 kl kq kp => ?_, fun q0 k k0 kl kp => ?_⟩ fun k k0 kl kp => ?_
    · simp only [List.length_set] at kl
      by_cases e : (k - 1) / 2 = pos
      · have hk : pos ≠ k := by omega
        rw [getD_set_ne hk, e, getD_set_same hp]
        exact H.over h1 k k0 kl e
      · by_cases e2 : k = pos
        · subst e2; exact absurd rfl kp
        · rw [getD_set_ne (Ne.symm e2), getD_set_ne (Ne.symm e)]
          exact H.else_ k k0 kl e2 e
    · simp only [List.length_set] at kl
      have hg : ((pos - 1) / 2 - 1) / 2 ≠ pos := by omega
      rw [getD_set_ne (Ne.symm hg)]
      have up := H.else_ ((pos - 1) / 2) q0 (by omega) (by omega) hg
      by_cases e2 : k = pos
      · subst e2; rw [getD_set_same hp]; exact up
      · rw [getD_set_ne (Ne.symm e2)]
        refine ht.ntrans _ _ _ ?_ up
        have := H.else_ k k0 kl e2 (by omega)
        rwa [kp] at this
    · simp only [List.length_set] at kl
      by_cases e2 : k = pos
      · subst e2; rw [getD_set_same hp]; exact ht.asym _ _ h2
      · rw [getD_set_ne (Ne.symm e2)]
        have := H.else_ k k0 kl e2 (by omega)
        rw [kp] at this
        exact ht.left h2 this
  | case2 pos l h1 h2 =>
    intro k k0 kl
    simp only [List.length_set] at kl
    by_cases e : k = pos
    · subst e
      have : (k - 1) / 2 ≠ k := by omega
      rw [getD_set_same hp, getD_set_ne (Ne.symm this)]
      simpa using h2
    · rw [getD_set_ne (Ne.symm e)]
      by_cases e2 : (k - 1) / 2 = pos
      · rw [e2, getD_set_same hp]; exact hx k k0 kl e2
      · rw [getD_set_ne (Ne.symm e2)]; exact H.else_ k k0 kl e e2
  | case3 pos l h1 =>
    intro k k0 kl
    simp only [List.length_set] at kl
    have e : k ≠ pos := by omega
    rw [getD_set_ne (Ne.symm e)]
    by_cases e2 : (k - 1) / 2 = pos
    · rw [e2, getD_set_same hp]; exact hx k k0 kl e2
    · rw [getD_set_ne (Ne.symm e2)]; exact H.else_ k k0 kl e e2

theorem supB_hole {lt : α → α → Bool} (ht : LtTot lt) {d : α} {pos : Nat} {l : List α} (hp : pos < l.length) (H : Hole lt d pos l) : Hole lt d (supB lt d pos l).1 (supB lt d pos l).2 := by
  have step : ∀ (pos : Nat) (l : List α) (c : Nat), pos < l.length → Hole lt d pos l → (c = 2 * pos + 1 ∨ c = 2 * pos + 2) → c < l.length → (∀ k, 0 < k → k < l.length → (k - 1) / 2 = pos → k ≠ c → lt (l.getD k d) (l.getD c d) = false) → Hole lt d c (l.set pos (l.getD c d)) := by
    intro pos l c hp H hc hcl hmin
    refine ⟨fun k k0 kl kc kp => ?_, fun c0 k k0 kl kp => ?_⟩
    · simp only [List.length_set] at kl
      by_cases e : k = pos
      · subst e
        have : (k - 1) / 2 ≠ k := by omega
        rw [getD_set_same hp, getD_set_ne (Ne.symm this)]
        exact H.over k0 c (by omega) hcl (by omega)
      · rw [getD_set_ne (Ne.symm e)]
        by_cases e2 : (k - 1) / 2 = pos
        · rw [e2, getD_set_same hp]; exact hmin k k0 kl e2 kc
        · rw [getD_set_ne (Ne.symm e2)]; exact H.else_ k k0 kl e e2
    · simp only [List.length_set] at kl
      have hcp : (c - 1) / 2 = pos := by omega
      have e : k ≠ pos := by omega
      rw [hcp, getD_set_same hp, getD_set_ne (Ne.symm e)]
      have := H.else_ k k0 kl e (by omega)
      rwa [kp] at this
  fun_induction supB lt d pos l with
  | case1 pos l h1 h2 ih =>
    refine ih (by simp; omega) (step pos l _ hp H (.inr rfl) h2.1 fun k k0 kl kp kc => ?_)
    have : k = 2 * pos + 1 := by omega
    subst this; exact h2.2
  | case2 pos l h1 h2 ih =>
    refine ih (by simp; omega) (step pos l _ hp H (.inl rfl) h1 fun k k0 kl kp kc => ?_)
    have : k = 2 * pos + 2 := by omega
    subst this
    have : lt (l.getD (2 * pos + 1) d) (l.getD (2 * pos + 2) d) = true := by
      cases q : lt (l.getD (2 * pos + 1) d) (l.getD (2 * pos + 2) d) with
      | true => rfl
      | false => exact absurd ⟨kl, q⟩ h2
    exact ht.asym _ _ this
  | case3 pos l h1 => exact H

theorem IsHeap.hole0 {lt : α → α → Bool} {d : α} {l : List α} (h : IsHeap lt d l) : Hole lt d 0 l := ⟨fun k k0 kl _ _ => h k k0 kl, fun h => absurd h (Nat.lt_irrefl 0)⟩
theorem Hole.set {lt : α → α → Bool} {d x : α} {pos : Nat} {l : List α} (H : Hole lt d pos l) : Hole lt d pos (l.set pos x) := by
  refine ⟨fun k k0 kl kp kq => ?_, fun h k k0 kl kp => ?_⟩
  · simp only [List.length_set] at kl
    rw [getD_set_ne (Ne.symm kp), getD_set_ne (Ne.symm kq)]; exact H.else_ k k0 kl kp kq
  · simp only [List.length_set] at kl
    have e1 : pos ≠ k := by omega
    have e2 : pos ≠ (pos - 1) / 2 := by omega
    rw [getD_set_ne e1, getD_set_ne e2]; exact H.over h k k0 kl kp
theorem topB_heap {lt : α → α → Bool} (ht : LtTot lt) {d x : α} {l : List α} (hl : 0 < l.length) (H : Hole lt d 0 l) : IsHeap lt d (topB lt d x l) := by
  have h1 := supB_lt (lt := lt) (d := d) hl
  have h2 := supB_leaf (lt := lt) (d := d) (pos := 0) (l := l)
  refine sdnB_heap ht (by simpa using h1) (Hole.set (supB_hole ht hl H)) fun k k0 kl kp => ?_
  simp at kl; omega
/-- one more at the end -/
theorem push_heap {lt : α → α → Bool} (ht : LtTot lt) {d x : α} {l : List α} (h : IsHeap lt d l) : IsHeap lt d (sdnB lt d x l.length (l ++ [x])) := by
  refine sdnB_heap ht (by simp) ⟨fun k k0 kl kp kq => ?_, fun _ k k0 kl kp => ?_⟩ fun k k0 kl kp => ?_
  · simp at kl
    have hk : k < l.length := by omega
    have := h k k0 hk
    simpa [List.getD_eq_getElem?_getD, List.getElem?_append_left, hk, show (k - 1) / 2 < l.length by omega] using this
  · simp at kl; omega
  · simp at kl; omega
theorem IsHeap.min {lt : α → α → Bool} (ht : LtTot lt) {d : α} {l : List α} (h : IsHeap lt d l) (hirr : ∀ a, lt a a = false) : ∀ k, k < l.length → lt (l.getD k d) (l.getD 0 d) = false := by
  intro k
  induction k using Nat.strongRecOn with
  | _ k ih =>
    intro hk
    by_cases e : k = 0
    · subst e; exact hirr _
    · exact ht.ntrans _ _ _ (h k (by omega) hk) (ih ((k - 1) / 2) (by omega) (by omega))

variable [DecidableEq α]
theorem swap_perm {l : List α} {i j : Nat} {x d : α} (hi : i < l.length) (hj : j < l.length) (hij : i ≠ j) : ((l.set i (l.getD j d)).set j x).Perm (l.set i x) := by
  refine List.perm_iff_count.mpr fun a => ?_
  have e : l.getD j d = l[j] := by simp [List.getD_eq_getElem?_getD, hj]
  rw [e, List.count_set (by simpa using hj), List.count_set hi, List.count_set hi]
  have e2 : (l.set i l[j])[j]'(by simpa using hj) = l[j] := by simp [List.getElem_set_ne hij]
  rw [e2]
  have c1 : (if l[i] == a then 1 else 0) ≤ l.count a := by
    split
    · rename_i h; have : l[i] = a := by simpa using h
      exact List.count_pos_iff.mpr (this ▸ List.getElem_mem hi)
    · exact Nat.zero_le _
  split <;> split <;> split <;> simp_all <;> omega
theorem sdnB_perm {lt : α → α → Bool} {d x : α} {pos : Nat} {l : List α} (hp : pos < l.length) : (sdnB lt d x pos l).Perm (l.set pos x) := by
  fun_induction sdnB lt d x pos l with
  | case1 pos l h1 h2 ih => exact (ih (by simp; omega)).trans (swap_perm hp (by omega) (by omega))
  | case2 pos l h1 h2 => exact .refl _
  | case3 pos l h1 => exact .refl _
theorem supB_perm {lt : α → α → Bool} {d x : α} {pos : Nat} {l : List α} (hp : pos < l.length) : ((supB lt d pos l).2.set (supB lt d pos l).1 x).Perm (l.set pos x) := by
  fun_induction supB lt d pos l with
  | case1 pos l h1 h2 ih => exact (ih (by simp; omega)).trans (swap_perm hp (by omega) (by omega))
  | case2 pos l h1 h2 ih => exact (ih (by simp; omega)).trans (swap_perm hp (by omega) (by omega))
  | case3 pos l h1 => exact .refl _
theorem topB_perm {lt : α → α → Bool} {d x : α} {l : List α} (hl : 0 < l.length) : (topB lt d x l).Perm (l.set 0 x) := by
  have h1 := supB_lt (lt := lt) (d := d) hl
  refine (sdnB_perm (by simpa using h1)).trans ?_
  rw [List.set_set]
  exact supB_perm hl
theorem push_perm {lt : α → α → Bool} {d x : α} {l : List α} : (sdnB lt d x l.length (l ++ [x])).Perm (l ++ [x]) := by
  have := sdnB_perm (lt := lt) (d := d) (x := x) (pos := l.length) (l := l ++ [x]) (by simp)
  simpa using this
end

/-! the same over other names -/
section
variable {α β : Type} {f : α → β} {lt : α → α → Bool} {lt' : β → β → Bool} {d : α}
end
end Mine
end
section
open PySem PySem.W
set_option Elab.async false
set_option linter.unusedVariables false
namespace Mine

section
variable {c : Cx} {st : St}
/-- a def of the text, by its name -/
theorem E_CallG {x : Str} {pos' e rest pos} {Q : PV → St → Prop} {a : Addr} {o : Obj} {fd : FuncData} (hG : Gd c.toGx) (hl : c.env.scope.names.lookup x = some .globalImplicit) (hv : c.mg x = some (.ref a)) (ho : c.base.get? a = some o) (hf : o.data = .func fd)
    (h : WA c pos (e :: rest)  (fun ps st₂ => WN c VRep ps (fun vs => call (.ref a) vs)  Q st₂) st) (hd : (x == ("__debug__" : Str)) = false)
    (hev : eval (.Call (.Name x pos') (e :: rest) [] pos) c.env = (do callWith pos (← eval (.Name x pos') c.env) [] (backTo pos (starEach (e :: rest) c.env)) (backToKw pos (keywordEach [] c.env))))
    (he : starEach (e :: rest) c.env = (false, eval e c.env) :: starEach rest c.env)
    (hplain : (backTo pos (starEach rest c.env)).any (·.1) = false) : WE c (.Call (.Name x pos') (e :: rest) [] pos)  Q st :=
  E_Call (E_global hG hl hv rfl ⟨⟨o, fd, ho, hf⟩, h⟩ hd) hev he hplain
/-- a builtin function or type, by its name -/
theorem E_CallB {x : Str} {pos' e rest pos} {Q : PV → St → Prop} {id : String} (hG : Gd c.toGx) (hl : c.env.scope.names.lookup x = some .globalImplicit) (hm : c.mg x = none) (hn : x ≠ "__name__") (hv : bootBuiltins x = some (.builtin id))
    (h : WA c pos (e :: rest)  (fun ps st₂ => WN c VRep ps (fun vs => call (.builtin id) vs)  Q st₂) st) (hd : (x == ("__debug__" : Str)) = false)
    (hev : eval (.Call (.Name x pos') (e :: rest) [] pos) c.env = (do callWith pos (← eval (.Name x pos') c.env) [] (backTo pos (starEach (e :: rest) c.env)) (backToKw pos (keywordEach [] c.env))))
    (he : starEach (e :: rest) c.env = (false, eval e c.env) :: starEach rest c.env)
    (hplain : (backTo pos (starEach rest c.env)).any (·.1) = false) : WE c (.Call (.Name x pos') (e :: rest) [] pos)  Q st :=
  E_Call (E_builtin hG hl hm hn hv rfl ⟨trivial, h⟩ hd) hev he hplain
theorem E_CallT {x : Str} {pos' e rest pos} {Q : PV → St → Prop} {id : String} (hG : Gd c.toGx) (hl : c.env.scope.names.lookup x = some .globalImplicit) (hm : c.mg x = none) (hn : x ≠ "__name__") (hv : bootBuiltins x = some (.type id))
    (h : WA c pos (e :: rest)  (fun ps st₂ => WN c VRep ps (fun vs => call (.type id) vs)  Q st₂) st) (hd : (x == ("__debug__" : Str)) = false)
    (hev : eval (.Call (.Name x pos') (e :: rest) [] pos) c.env = (do callWith pos (← eval (.Name x pos') c.env) [] (backTo pos (starEach (e :: rest) c.env)) (backToKw pos (keywordEach [] c.env))))
    (he : starEach (e :: rest) c.env = (false, eval e c.env) :: starEach rest c.env)
    (hplain : (backTo pos (starEach rest c.env)).any (·.1) = false) : WE c (.Call (.Name x pos') (e :: rest) [] pos)  Q st :=
  E_Call (E_builtin hG hl hm hn hv rfl ⟨trivial, h⟩ hd) hev he hplain
end
theorem swapped_of {targets : List Expr} {value : Expr} {env : Env} {S : Scope} {r : Sem (Option (List Str))} (h : env.scope = S) (hr : swappedStores targets value { (default : Env) with scope := S } = r) : swappedStores targets value env = r := by
  rw [← hr]
  unfold swappedStores Env.kindOf Env.blockKind
  rw [h]
theorem closure_of {scope : Scope} {env : Env} {cs : List (Str × Addr)} {r : Sem (List (Str × Addr))} (h : env.cells = cs) (hr : closureFor scope { (default : Env) with cells := cs } = r) : closureFor scope env = r := by
  rw [← hr]
  unfold closureFor cellOf
  rw [h]
theorem relabel_of {scope S : Scope} {env : Env} (h : env.scope = S) : relabel scope env = relabel scope { (default : Env) with scope := S } := by
  unfold relabel Env.kindOf
  rw [h]
theorem at_set_fresh {σ : AHeap} {a b : Addr} {o o' : AObj} (h : σ a = none) (h2 : σ b = some o) : (σ.set a o') b = some o := AHeap.sub_set o' h _ _ h2
theorem ne_of_fresh {σ : AHeap} {a b : Addr} {o : AObj} (h : σ a = none) (h2 : σ b = some o) : b ≠ a := fun e => by rw [e, h] at h2; cases h2
theorem AHeap.Sub.trans {σ τ υ : AHeap} (h : σ.Sub τ) (h2 : τ.Sub υ) : σ.Sub υ := fun a o e => h2 a o (h a o e)
theorem AHeap.Sub.fresh {σ τ : AHeap} {a : Addr} {o : AObj} (h : σ.Sub τ) (h2 : τ a = none) : σ.Sub (τ.set a o) := h.trans (AHeap.sub_set o h2)
/-- a list that is not told of may change -/
theorem AHeap.Sub.off {σ τ : AHeap} {a : Addr} {o : AObj} (h : σ.Sub τ) (h2 : σ a = none) : σ.Sub (τ.set a o) := fun b o' e => by
  have : b ≠ a := fun q => by rw [q, h2] at e; cases e
  rw [AHeap.set_ne _ _ this]; exact h b o' e
theorem swaps_of {value : Expr} {target : Option Expr} {n : Nat} {env : Env} {S : Scope} {r : Sem Bool} (h : env.scope = S) (hr : swapsWith value target n { (default : Env) with scope := S } = r) : swapsWith value target n env = r := by
  rw [← hr]
  unfold swapsWith Env.kindOf Env.blockKind
  rw [h]
theorem mulOk2 {i : Int} : IntMulOk 2 i := IntMulOk.of_left (by decide)
end Mine
end
section
open PySem PySem.W
set_option Elab.async false
set_option linter.unusedVariables false
namespace Mine
section
variable {c : Cx} {st : St} {Q : PV → St → Prop}
theorem is_none_n (h : Q (.bool true) st) : W2 c VRep .none .none (compareOp .Is)  Q st := is_none (fun _ e => nomatch e) h
theorem is_none_r {a : Addr} (h : Q (.bool false) st) : W2 c VRep (.ref a) .none (compareOp .Is)  Q st := is_none (fun _ e => nomatch e) h
theorem is_none_i {a : Int} (h : Q (.bool false) st) : W2 c VRep (.int a) .none (compareOp .Is)  Q st := is_none (fun _ e => nomatch e) h
theorem isNot_none_n (h : Q (.bool false) st) : W2 c VRep .none .none (compareOp .IsNot)  Q st := isNot_none (fun _ e => nomatch e) h
theorem isNot_none_i {a : Int} (h : Q (.bool true) st) : W2 c VRep (.int a) .none (compareOp .IsNot)  Q st := isNot_none (fun _ e => nomatch e) h
end
end Mine
end

end
section
set_option Elab.async false
set_option linter.unusedVariables false
set_option linter.unusedSectionVars false
set_option linter.unusedSimpArgs false
set_option maxRecDepth 100000
section
set_option Elab.async false
set_option linter.unusedVariables false
namespace Mine

/-- the m least of a list, added up -/
def Sh (m : Nat) (l : List Int) : Int := ((sortI l).take m).sum

theorem perm_sum {l m : List Int} (h : l.Perm m) : l.sum = m.sum := by
  induction h with
  | nil => rfl
  | cons x _ ih => simp [ih]
  | swap x y l => simp; omega
  | trans _ _ h1 h2 => exact h1.trans h2
theorem sortI_len (l : List Int) : (sortI l).length = l.length := (sortI_perm l).length_eq
theorem sortI_cg {l m : List Int} (h : l.Perm m) : sortI l = sortI m := sortI_of ((sortI_perm l).trans h) (sortI_sorted l)
theorem take_cons_le : ∀ {m : Nat} {a : Int} {l : List Int}, (a :: l).Pairwise (· ≤ ·) → m ≤ l.length → ((a :: l).take m).sum ≤ (l.take m).sum
  | 0, _, _, _, _ => by simp
  | m + 1, a, [], _, h => by simp at h
  | m + 1, a, b :: l, hp, h => by
    have h1 := List.pairwise_cons.mp hp
    have := take_cons_le (m := m) (a := b) (l := l) h1.2 (by simp at h; omega)
    have hab : a ≤ b := h1.1 b (by simp)
    simp only [List.take_succ_cons, List.sum_cons] at this ⊢
    omega
theorem take_sub_le : ∀ {l B : List Int}, B.Sublist l → l.Pairwise (· ≤ ·) → (l.take B.length).sum ≤ B.sum
  | _, _, .slnil, _ => by simp
  | a :: l, B, .cons _ s, hp => Int.le_trans (take_cons_le hp s.length_le) (take_sub_le s (List.pairwise_cons.mp hp).2)
  | a :: l, _ :: B, .cons_cons _ s, hp => by
    have := take_sub_le s (List.pairwise_cons.mp hp).2
    simp only [List.length_cons, List.take_succ_cons, List.sum_cons]; omega
theorem Sh_le {A B B' : List Int} (hp : B'.Perm B) (hs : B'.Sublist A) : Sh B.length A ≤ B.sum := by
  obtain ⟨C, c1, c2⟩ := List.exists_perm_sublist hs (sortI_perm A).symm
  have := take_sub_le c2 (sortI_sorted A)
  rw [perm_sum (c1.trans hp), (c1.trans hp).length_eq] at this
  exact this
theorem Sh_get {A : List Int} {m : Nat} (h : m ≤ A.length) : ∃ B : List Int, B.Sublist A ∧ B.length = m ∧ B.sum = Sh m A := by
  obtain ⟨C, c1, c2⟩ := List.exists_perm_sublist (List.take_sublist m (sortI A)) (sortI_perm A)
  refine ⟨C, c2, ?_, perm_sum c1⟩
  rw [c1.length_eq, List.length_take, sortI_len]; omega
theorem Sh_snoc {A : List Int} {m : Nat} (x : Int) (h : m ≤ A.length) : Sh m (A ++ [x]) ≤ Sh m A := by
  obtain ⟨B, b1, b2, b3⟩ := Sh_get h
  have := Sh_le (A := A ++ [x]) (B := B) (List.Perm.refl _) (b1.trans (List.sublist_append_left ..))
  rw [b2, b3] at this; exact this
theorem Sh_snoc' {A : List Int} {m : Nat} (x : Int) (h : m ≤ A.length) : Sh (m + 1) (A ++ [x]) ≤ Sh m A + x := by
  obtain ⟨B, b1, b2, b3⟩ := Sh_get h
  have := Sh_le (A := A ++ [x]) (B := B ++ [x]) (List.Perm.refl _) (b1.append (List.Sublist.refl _))
  simp [b2] at this
  omega
theorem Sh_all (A : List Int) : Sh A.length A = A.sum := by
  unfold Sh
  rw [List.take_of_length_le (by rw [sortI_len]; exact Nat.le_refl _)]
  exact perm_sum (sortI_perm A)
/-- the longest taken away: the least ones stay -/
theorem Sh_drop {A B : List Int} {x : Int} (hp : A.Perm (x :: B)) (hx : ∀ y ∈ A, y ≤ x) {m : Nat} (hm : m ≤ B.length) : Sh m B = Sh m A := by
  have : sortI A = sortI B ++ [x] := by
    refine (sortI_of ?_ ?_).symm
    · exact (((sortI_perm B).append_right [x]).trans (List.perm_append_comm.trans (List.Perm.refl _))).trans hp.symm
    · rw [List.pairwise_append]
      refine ⟨sortI_sorted B, List.pairwise_singleton .., fun a ha b hb => ?_⟩
      rw [List.mem_singleton.mp hb]
      exact hx a (hp.mem_iff.mpr (List.mem_cons_of_mem _ ((sortI_perm B).mem_iff.mp ha)))
  unfold Sh
  rw [this, List.take_append_of_le_length (by rw [sortI_len]; exact hm)]

/-! ## the works -/
variable (len hour : Nat → Int)
def total (l : List Nat) : Int := (l.map len).sum
def inT : Int → List Nat → Prop
  | _, [] => True
  | now, j :: r => now + len j ≤ hour j ∧ inT (now + len j) r
variable {len hour}
theorem total_snoc (l : List Nat) (j : Nat) : total len (l ++ [j]) = total len l + len j := by simp [total]
theorem inT_snoc : ∀ {l : List Nat} {now : Int} {j : Nat}, inT len hour now (l ++ [j]) ↔ inT len hour now l ∧ now + total len l + len j ≤ hour j
  | [], now, j => by simp [inT, total]
  | a :: l, now, j => by
    simp only [List.cons_append, inT, inT_snoc (l := l), total, List.map_cons, List.sum_cons]
    constructor
    · rintro ⟨h1, h2, h3⟩; exact ⟨⟨h1, h2⟩, by omega⟩
    · rintro ⟨⟨h1, h2⟩, h3⟩; exact ⟨h1, h2, by omega⟩
theorem inT_mono : ∀ {l : List Nat} {a b : Int}, a ≤ b → inT len hour b l → inT len hour a l
  | [], _, _, _, _ => trivial
  | _ :: _, _, _, h, ⟨h1, h2⟩ => ⟨by omega, inT_mono (by omega) h2⟩
theorem inT_sub (hl : ∀ j, 0 ≤ len j) : ∀ {l m : List Nat} {now : Int}, m.Sublist l → inT len hour now l → inT len hour now m
  | _, _, _, .slnil, _ => trivial
  | a :: l, m, now, .cons _ s, h => inT_sub hl s (inT_mono (by have := hl a; omega) h.2)
  | a :: l, _ :: m, now, .cons_cons _ s, h => ⟨h.1, inT_sub hl s h.2⟩
/-- what holds behind the works of pre -/
structure Kept (len hour : Nat → Int) (pre S : List Nat) : Prop where
  sub : S.Sublist pre
  ok : inT len hour 0 S
  few : ∀ F, F.Sublist pre → inT len hour 0 F → F.length ≤ S.length ∧ Sh F.length (S.map len) ≤ total len F

theorem Kept.nil : Kept len hour [] [] := ⟨.slnil, trivial, fun F hF _ => by
  rw [List.sublist_nil.mp hF]; exact ⟨Nat.le_refl _, by simp [Sh, total, sortI]⟩⟩

theorem sub_snoc {F pre : List Nat} {j : Nat} (h : F.Sublist (pre ++ [j])) : F.Sublist pre ∨ ∃ G, G.Sublist pre ∧ F = G ++ [j] := by
  obtain ⟨l1, l2, rfl, a, b⟩ := List.sublist_append_iff.mp h
  cases b with
  | cons _ b => left; rw [List.sublist_nil.mp b, List.append_nil]; exact a
  | cons_cons _ b => right; rw [List.sublist_nil.mp b]; exact ⟨l1, a, rfl⟩

theorem Kept.push {pre S : List Nat} {j : Nat} (K : Kept len hour pre S) (hj : total len S + len j ≤ hour j) : Kept len hour (pre ++ [j]) (S ++ [j]) := by
  refine ⟨K.sub.append (List.Sublist.refl _), inT_snoc.mpr ⟨K.ok, by omega⟩, fun F hF hok => ?_⟩
  rcases sub_snoc hF with hF | ⟨G, hG, rfl⟩
  · obtain ⟨h1, h2⟩ := K.few F hF hok
    refine ⟨by simp; omega, ?_⟩
    rw [List.map_append]
    exact Int.le_trans (Sh_snoc _ (by simpa using h1)) h2
  · obtain ⟨h1, h2⟩ := K.few G hG (inT_snoc.mp hok).1
    refine ⟨by simp; omega, ?_⟩
    rw [total_snoc, List.map_append, List.length_append]
    exact Int.le_trans (Sh_snoc' _ (by simpa using h1)) (by simp; omega)

theorem Kept.swap {pre S T : List Nat} {j x : Nat} (hl : ∀ j, 0 ≤ len j) (K : Kept len hour pre S) (hj : hour j < total len S + len j) (hs : ∀ k ∈ pre, hour k ≤ hour j)
    (hp : (S ++ [j]).Perm (x :: T)) (hT : T.Sublist (S ++ [j])) (hx : ∀ k ∈ S ++ [j], len k ≤ len x) : Kept len hour (pre ++ [j]) T := by
  have hlen : T.length = S.length := by have := hp.length_eq; simp at this; omega
  have htot : total len S + len j = len x + total len T := by
    have := perm_sum (hp.map len)
    simpa [total] using this
  have hdrop : ∀ m, m ≤ S.length → Sh m (T.map len) = Sh m ((S ++ [j]).map len) := fun m hm =>
    Sh_drop (A := (S ++ [j]).map len) (B := T.map len) (x := len x) (hp.map len) (fun y hy => by
      obtain ⟨k, hk, rfl⟩ := List.mem_map.mp hy; exact hx k hk) (by simpa [hlen] using hm)
  refine ⟨hT.trans (K.sub.append (List.Sublist.refl _)), ?_, fun F hF hok => ?_⟩
  · rcases sub_snoc hT with h | ⟨G, hG, rfl⟩
    · exact inT_sub hl h K.ok
    · refine inT_snoc.mpr ⟨inT_sub hl hG K.ok, ?_⟩
      rw [total_snoc] at htot
      have hjx := hx j (by simp)
      -- the end of S is in time
      have : total len S ≤ hour j ∨ S = [] := by
        rcases List.eq_nil_or_concat S with h | ⟨S', b, h⟩
        · exact .inr h
        · left
          have h2 := K.ok
          rw [h, List.concat_eq_append] at h2
          have h3 := (inT_snoc.mp h2).2
          rw [h, List.concat_eq_append, total_snoc]
          have := hs b (K.sub.mem (by rw [h]; simp))
          omega
      rcases this with h | h
      · omega
      · subst h; simp at hlen
  · rcases sub_snoc hF with hF | ⟨G, hG, rfl⟩
    · obtain ⟨h1, h2⟩ := K.few F hF hok
      refine ⟨by omega, ?_⟩
      rw [hdrop _ h1, List.map_append]
      exact Int.le_trans (Sh_snoc _ (by simpa using h1)) h2
    · obtain ⟨g1, g2⟩ := inT_snoc.mp hok
      obtain ⟨h1, h2⟩ := K.few G hG g1
      have hlt : G.length < S.length := by
        rcases Nat.lt_or_ge G.length S.length with h | h
        · exact h
        · have e : G.length = S.length := by omega
          rw [e] at h2
          have := Sh_all (S.map len)
          rw [List.length_map] at this
          rw [this] at h2
          have h3 : total len S ≤ total len G := h2
          omega
      refine ⟨by simp; omega, ?_⟩
      rw [total_snoc, hdrop _ (by simp; omega), List.map_append, List.length_append]
      exact Int.le_trans (Sh_snoc' _ (by simpa using h1)) (by simp; omega)
/-- each number of works up to all is reached by the least ones -/
theorem Kept.least {pre S : List Nat} (hl : ∀ j, 0 ≤ len j) (K : Kept len hour pre S) {m : Nat} (hm : m ≤ S.length) : ∃ F, F.Sublist pre ∧ inT len hour 0 F ∧ F.length = m ∧ total len F = Sh m (S.map len) := by
  obtain ⟨B, b1, b2, b3⟩ := Sh_get (A := S.map len) (m := m) (by simpa using hm)
  obtain ⟨F, f1, rfl⟩ := List.sublist_map_iff.mp b1
  exact ⟨F, f1.trans K.sub, inT_sub hl f1 K.ok, by simpa using b2, b3⟩

/-- each choice has its number -/
theorem number_of (p : Nat → Bool) : ∀ n : Nat, ∃ N, N < 2 ^ n ∧ ∀ j, j < n → (N / 2 ^ j % 2 = 1 ↔ p j = true)
  | 0 => ⟨0, by simp, fun j h => by omega⟩
  | n + 1 => by
    obtain ⟨N, h1, h2⟩ := number_of p n
    refine ⟨N + if p n then 2 ^ n else 0, ?_, fun j hj => ?_⟩
    · split <;> (rw [Nat.pow_succ]; omega)
    · rcases Nat.lt_or_ge j n with h | h
      · rw [← h2 j h]
        split
        · have : 2 ^ n = 2 ^ j * (2 * 2 ^ (n - j - 1)) := by rw [← Nat.pow_succ', ← Nat.pow_add]; congr 1; omega
          rw [this, Nat.add_mul_div_left _ _ (Nat.pow_pos (by decide)), Nat.add_mul_mod_self_left]
        · simp
      · have : j = n := by omega
        subst this
        split
        · rename_i hp
          rw [Nat.add_div_right _ (Nat.pow_pos (by decide)), Nat.div_eq_of_lt h1]; simp [hp]
        · rename_i hp
          rw [Nat.add_zero, Nat.div_eq_of_lt h1]; simp [hp]
end Mine
end
section
open PySem PySem.W PyProof.Rows
set_option Elab.async false
set_option linter.unusedVariables false
namespace Mine
/-! the order that the sort's questions bring about -/
def kEv {α : Type} (b : Nat → Nat → Bool) : KasT α → α
  | .ret a => a
  | .ask i j k => kEv b (k (b i j))
theorem kEv_bind {α β : Type} {b : Nat → Nat → Bool} {f : α → KasT β} : ∀ t : KasT α, kEv b (t.bind f) = kEv b (f (kEv b t))
  | .ret _ => rfl
  | .ask i j k => kEv_bind (k (b i j))
/-! only places of the row are asked -/
def AskOk (n : Nat) {α : Type} : KasT α → (α → Prop) → Prop
  | .ret a, R => R a
  | .ask i j k, R => i < n ∧ j < n ∧ ∀ b, AskOk n (k b) R
theorem AskOk.bind {n : Nat} {α β : Type} {f : α → KasT β} {R : β → Prop} {S : α → Prop} (hf : ∀ a, S a → AskOk n (f a) R) : ∀ t : KasT α, AskOk n t S → AskOk n (t.bind f) R
  | .ret a, h => hf a h
  | .ask i j k, ⟨h1, h2, h3⟩ => ⟨h1, h2, fun b => AskOk.bind hf (k b) (h3 b)⟩
theorem kEv_wp {n : Nat} {α : Type} {b : Nat → Nat → Bool} {cmp : Nat → Nat → (Bool → Shared → Prop) → Shared → Prop} {Q : α → Shared → Prop} {s : Shared} {R : α → Prop} (h : ∀ i j C, i < n → j < n → C (b i j) s → cmp i j C s) : ∀ t : KasT α, AskOk n t R → Q (kEv b t) s → t.kasWp cmp Q s
  | .ret _, _, q => q
  | .ask i j k, ⟨h1, h2, h3⟩, q => h i j _ h1 h2 (kEv_wp h (k (b i j)) (h3 _) q)
def In (n : Nat) (p : Array Nat) : Prop := 0 < n ∧ ∀ k, p.getD k 0 < n
theorem In.perm {n : Nat} {p q : Array Nat} (h : In n p) (hp : q.Perm p) : In n q := ⟨h.1, fun k => by
  rw [Array.getD_eq_getD_getElem?]
  cases e : q[k]? with
  | none => exact h.1
  | some x =>
    obtain ⟨i, hi, e2⟩ := Array.mem_iff_getElem.mp (hp.mem_iff.mp (Array.mem_of_getElem? e))
    have := h.2 i
    rw [Array.getD_eq_getD_getElem?, Array.getElem?_eq_getElem hi, e2] at this
    exact this⟩
theorem asc_ask {n : Nat} {p : Array Nat} (h : In n p) : ∀ f m, AskOk n (kas_asc p f m) (fun _ => True)
  | 0, _ => trivial
  | f + 1, m => ⟨h.2 _, h.2 _, fun b => by cases b with | true => exact trivial | false => exact asc_ask h f (m + 1)⟩
theorem desc_ask {n : Nat} : ∀ f (p : Array Nat) m q, In n p → AskOk n (kas_desc f p m q) (fun r => In n r.1)
  | 0, p, _, _, h => h
  | f + 1, p, m, q, h => ⟨h.2 _, h.2 _, fun b => by
    cases b with
    | true =>
      show AskOk n (if q > 0 then kas_desc f (kas_rev p (m - (q + 1)) m) (m + 1) 0 else kas_desc f p (m + 1) 0) _
      split
      · exact desc_ask f _ _ _ (h.perm (mirror_perm _ _ _ _))
      · exact desc_ask f _ _ _ h
    | false => exact ⟨h.2 _, h.2 _, fun d => by cases d with | true => exact h | false => exact desc_ask f _ _ _ h⟩⟩
theorem tail3_ask {n m nrem : Nat} {p : Array Nat} (h : In n p) : AskOk n (kas_tail3 m nrem p) (fun r => In n r.2) := by
  have h2 : In n (kas_rev p 0 m) := h.perm (mirror_perm _ _ _ _)
  unfold kas_tail3
  exact AskOk.bind (S := fun _ => True) (fun m' _ => show AskOk n (.ret (m', kas_rev p 0 m)) (fun r => In n r.2) from h2) _ (asc_ask h2 _ _)
theorem descPart_ask {n m nrem : Nat} {p : Array Nat} (h : In n p) : AskOk n (kas_descPart m nrem p) (fun r => In n r.2) := by
  unfold kas_descPart
  refine AskOk.bind (fun r hr => ?_) _ (desc_ask _ _ _ _ h)
  split
  · exact tail3_ask (hr.perm (mirror_perm _ _ _ _))
  · exact tail3_ask hr
theorem count_ask {n nrem : Nat} {p : Array Nat} (h : In n p) : AskOk n (kas_count nrem p) (fun r => In n r.2) := by
  unfold kas_count
  refine AskOk.bind (fun m _ => ?_) _ (asc_ask h _ _)
  split
  · exact h
  · split
    · exact ⟨h.2 _, h.2 _, fun b => by cases b with | true => exact h | false => exact descPart_ask (h.perm (mirror_perm _ _ _ _))⟩
    · exact descPart_ask h
theorem place_ask {n : Nat} {p : Array Nat} {k : Nat} (h : In n p) : ∀ f l r, AskOk n (kas_place p k f l r) (fun _ => True)
  | 0, _, _ => trivial
  | f + 1, l, r => by
    unfold kas_place
    split
    · exact trivial
    · exact ⟨h.2 _, h.2 _, fun b => by cases b with | true => exact place_ask h f _ _ | false => exact place_ask h f _ _⟩
theorem bin_ask {n : Nat} : ∀ f (p : Array Nat) k, In n p → AskOk n (kas_bin f p k) (fun _ => True)
  | 0, _, _, _ => trivial
  | f + 1, p, k, h => AskOk.bind (fun _ _ => bin_ask f _ _ (h.perm (bubble_perm _ _ _))) _ (place_ask h _ _ _)
theorem sort_ask {n : Nat} (h1 : 1 ≤ n) : AskOk n (kas_sort n) (fun _ => True) := by
  have h : In n (List.toArray (List.range n)) := ⟨h1, fun k => by
    rw [Array.getD_eq_getD_getElem?]
    simp only [List.getElem?_toArray]
    by_cases hk : k < n
    · rw [List.getElem?_range hk]; exact hk
    · rw [List.getElem?_eq_none (by simpa using hk)]; exact h1⟩
  unfold kas_sort
  refine AskOk.bind (fun r hr => ?_) _ (count_ask h)
  split
  · exact bin_ask _ _ _ hr
  · exact trivial
section
variable (key : Nat → Int)
abbrev kp (p : Array Nat) (i : Nat) : Int := key (p.getD i 0)
def Srt (p : Array Nat) (m : Nat) : Prop := ∀ i j, i ≤ j → j < m → kp key p i ≤ kp key p j
def Non (p : Array Nat) (m : Nat) : Prop := ∀ i j, i ≤ j → j < m → kp key p j ≤ kp key p i
abbrev kb (i j : Nat) : Bool := decide (key i < key j)
variable {key}
theorem getD_of? {p q : Array Nat} {i j : Nat} (h : p[i]? = q[j]?) : p.getD i 0 = q.getD j 0 := by
  rw [Array.getD_eq_getD_getElem?, Array.getD_eq_getD_getElem?, h]
theorem kp_rev {p : Array Nat} {i j : Nat} (hj : j ≤ p.size) (k : Nat) : kp key (kas_rev p i j) k = if i ≤ k ∧ k < j then kp key p (i + j - 1 - k) else kp key p k := by
  have e := getElem?_mirror_all (xs := p) (i := i) hj k
  unfold kas_rev kp
  by_cases h1 : i ≤ k ∧ k < j
  · rw [if_pos h1] at e ⊢; rw [getD_of? e]
  · rw [if_neg h1] at e ⊢; rw [getD_of? e]
theorem kp_bub {p : Array Nat} {src d : Nat} (hs : src < p.size) (hd : d ≤ src) (k : Nat) : kp key (bubble p src d) k = if k = src - d then kp key p src else if src - d < k ∧ k ≤ src then kp key p (k - 1) else kp key p k := by
  have e := getElem?_bubble hs d hd k
  unfold kp
  by_cases h1 : k = src - d
  · rw [if_pos h1] at e ⊢; rw [getD_of? e]
  · rw [if_neg h1] at e ⊢
    by_cases h2 : src - d < k ∧ k ≤ src
    · rw [if_pos h2] at e ⊢; rw [getD_of? e]
    · rw [if_neg h2] at e ⊢; rw [getD_of? e]
theorem rev_size (p : Array Nat) (i j : Nat) : (kas_rev p i j).size = p.size := mirror_size _ _ _ _
theorem rev_perm (p : Array Nat) (i j : Nat) : (kas_rev p i j).Perm p := mirror_perm _ _ _ _
theorem asc_ok {p : Array Nat} : ∀ (f n : Nat), 1 ≤ n → Srt key p n → (∃ m, kEv (kb key) (kas_asc p f n) = m ∧ n ≤ m ∧ m ≤ n + f ∧ Srt key p m ∧ (m = n + f ∨ kp key p m < kp key p (m - 1)))
  | 0, n, h1, hs => ⟨n, rfl, Nat.le_refl _, Nat.le_refl _, hs, .inl rfl⟩
  | f + 1, n, h1, hs => by
    show ∃ m, kEv (kb key) (if kb key (p.getD n 0) (p.getD (n - 1) 0) = true then .ret n else kas_asc p f (n + 1)) = m ∧ _
    by_cases hc : kb key (p.getD n 0) (p.getD (n - 1) 0) = true
    · rw [if_pos hc]
      exact ⟨n, rfl, Nat.le_refl _, by omega, hs, .inr (of_decide_eq_true hc)⟩
    · rw [if_neg hc]
      have hc' : kp key p (n - 1) ≤ kp key p n := Int.not_lt.mp fun h => hc (decide_eq_true h)
      obtain ⟨m, e, a, b, c, d⟩ := asc_ok f (n + 1) (by omega) (fun i j hij hj => by
        by_cases q : j < n
        · exact hs i j hij q
        · have : j = n := by omega
          subst this
          by_cases q2 : i = j
          · subst q2; exact Int.le_refl _
          · exact Int.le_trans (hs i (j - 1) (by omega) (by omega)) hc')
      exact ⟨m, e, by omega, by omega, c, d.imp (by omega) id⟩
theorem desc_ok : ∀ (f : Nat) (p : Array Nat) (n q : Nat), n + f ≤ p.size → q + 1 ≤ n → Non key p n → (∀ i, n - (q + 1) ≤ i → i < n → kp key p i = kp key p (n - 1)) →
    ∃ p' n' q', kEv (kb key) (kas_desc f p n q) = (p', n', q') ∧ p'.size = p.size ∧ p'.Perm p ∧ n ≤ n' ∧ n' ≤ n + f ∧ q' + 1 ≤ n' ∧ Non key p' n' ∧ ∀ i, n' - (q' + 1) ≤ i → i < n' → kp key p' i = kp key p' (n' - 1)
  | 0, p, n, q, hz, hq, hs, he => ⟨p, n, q, rfl, rfl, Array.Perm.refl _, Nat.le_refl _, Nat.le_refl _, hq, hs, he⟩
  | f + 1, p, n, q, hz, hq, hs, he => by
    show ∃ p' n' q', kEv (kb key) (if kb key (p.getD n 0) (p.getD (n - 1) 0) = true then (if q > 0 then kas_desc f (kas_rev p (n - (q + 1)) n) (n + 1) 0 else kas_desc f p (n + 1) 0)
      else .ask (p.getD (n - 1) 0) (p.getD n 0) fun d => if d = true then .ret (p, n, q) else kas_desc f p (n + 1) (q + 1)) = (p', n', q') ∧ _
    by_cases hc : kb key (p.getD n 0) (p.getD (n - 1) 0) = true
    · rw [if_pos hc]
      have hc' : kp key p n < kp key p (n - 1) := of_decide_eq_true hc
      have next : ∀ p2 : Array Nat, (∀ i, kp key p2 i = kp key p i) → p2.size = p.size → p2.Perm p → ∃ p' n' q', kEv (kb key) (kas_desc f p2 (n + 1) 0) = (p', n', q') ∧ p'.size = p.size ∧ p'.Perm p ∧ n ≤ n' ∧ n' ≤ n + (f + 1) ∧ q' + 1 ≤ n' ∧ Non key p' n' ∧ ∀ i, n' - (q' + 1) ≤ i → i < n' → kp key p' i = kp key p' (n' - 1) := fun p2 hk hsz hp => by
        obtain ⟨p', n', q', e, a1, a2, a3, a4, a5, a6, a7⟩ := desc_ok f p2 (n + 1) 0 (by omega) (by omega) (fun i j hij hj => by
          rw [hk, hk]
          by_cases z : j < n
          · exact hs i j hij z
          · have : j = n := by omega
            subst this
            by_cases z2 : i = j
            · subst z2; exact Int.le_refl _
            · exact Int.le_trans (Int.le_of_lt hc') (hs i (j - 1) (by omega) (by omega))) (fun i h1 h2 => by
          have : i = n + 1 - 1 := by omega
          rw [this])
        exact ⟨p', n', q', e, a1.trans hsz, a2.trans hp, by omega, by omega, a5, a6, a7⟩
      split
      · refine next _ (fun i => ?_) (rev_size ..) (rev_perm ..)
        rw [kp_rev (by omega)]
        split
        · rename_i hh
          rw [he _ (by omega) (by omega), he i (by omega) (by omega)]
        · rfl
      · exact next p (fun _ => rfl) rfl (Array.Perm.refl _)
    · rw [if_neg hc]
      have hc' : kp key p (n - 1) ≤ kp key p n := Int.not_lt.mp fun h => hc (decide_eq_true h)
      show ∃ p' n' q', kEv (kb key) (if kb key (p.getD (n - 1) 0) (p.getD n 0) = true then .ret (p, n, q) else kas_desc f p (n + 1) (q + 1)) = (p', n', q') ∧ _
      by_cases hd : kb key (p.getD (n - 1) 0) (p.getD n 0) = true
      · rw [if_pos hd]
        exact ⟨p, n, q, rfl, rfl, Array.Perm.refl _, Nat.le_refl _, by omega, hq, hs, he⟩
      · rw [if_neg hd]
        have hd' : kp key p n ≤ kp key p (n - 1) := Int.not_lt.mp fun h => hd (decide_eq_true h)
        have hen : kp key p n = kp key p (n - 1) := Int.le_antisymm hd' hc'
        obtain ⟨p', n', q', e, a1, a2, a3, a4, a5, a6, a7⟩ := desc_ok f p (n + 1) (q + 1) (by omega) (by omega) (fun i j hij hj => by
          by_cases z : j < n
          · exact hs i j hij z
          · have : j = n := by omega
            subst this
            by_cases z2 : i = j
            · subst z2; exact Int.le_refl _
            · rw [hen]; exact hs i (j - 1) (by omega) (by omega)) (fun i h1 h2 => by
          show kp key p i = kp key p (n + 1 - 1)
          rw [Nat.add_sub_cancel]
          by_cases z : i = n
          · rw [z]
          · rw [hen]; exact he i (by omega) (by omega))
        exact ⟨p', n', q', e, a1, a2, by omega, by omega, a5, a6, a7⟩
theorem tail3_ok {n nrem : Nat} {p : Array Nat} (h1 : 1 ≤ n) (hn : n ≤ nrem) (hz : nrem ≤ p.size) (hs : Non key p n) : ∃ m p', kEv (kb key) (kas_tail3 n nrem p) = (m, p') ∧ p'.size = p.size ∧ p'.Perm p ∧ 1 ≤ m ∧ m ≤ nrem ∧ Srt key p' m := by
  unfold kas_tail3
  rw [kEv_bind]
  have hs2 : Srt key (kas_rev p 0 n) n := fun i j hij hj => by
    rw [kp_rev (by omega), kp_rev (by omega), if_pos (by omega), if_pos (by omega)]
    exact hs _ _ (by omega) (by omega)
  obtain ⟨m, e, a, b, c, d⟩ := asc_ok (nrem - n) n h1 hs2
  refine ⟨m, kas_rev p 0 n, by rw [e]; rfl, rev_size .., rev_perm .., by omega, by omega, c⟩
theorem descPart_ok {n nrem : Nat} {p : Array Nat} (h1 : 1 ≤ n) (hn : n + 1 ≤ nrem) (hz : nrem ≤ p.size) (hs : Non key p (n + 1)) : ∃ m p', kEv (kb key) (kas_descPart n nrem p) = (m, p') ∧ p'.size = p.size ∧ p'.Perm p ∧ 1 ≤ m ∧ m ≤ nrem ∧ Srt key p' m := by
  unfold kas_descPart
  rw [kEv_bind]
  obtain ⟨p', n', q', e, a1, a2, a3, a4, a5, a6, a7⟩ := desc_ok (key := key) (nrem - (n + 1)) p (n + 1) 0 (by omega) (by omega) hs (fun i h1 h2 => by
    have : i = n + 1 - 1 := by omega
    rw [this])
  rw [e]
  simp only
  split
  · obtain ⟨m, p2, b1, b2, b3, b4, b5, b6⟩ := tail3_ok (key := key) (n := n') (nrem := nrem) (p := kas_rev p' (n' - (q' + 1)) n') (by omega) (by omega) (by rw [rev_size]; omega) (fun i j hij hj => by
      have same : ∀ k, kp key (kas_rev p' (n' - (q' + 1)) n') k = kp key p' k := fun k => by
        rw [kp_rev (by omega)]
        split
        · rename_i hh
          rw [a7 _ (by omega) (by omega), a7 k (by omega) (by omega)]
        · rfl
      rw [same, same]; exact a6 i j hij hj)
    exact ⟨m, p2, b1, b2.trans ((rev_size ..).trans a1), b3.trans ((rev_perm ..).trans a2), b4, b5, b6⟩
  · obtain ⟨m, p2, b1, b2, b3, b4, b5, b6⟩ := tail3_ok (key := key) (n := n') (nrem := nrem) (p := p') (by omega) (by omega) (by omega) a6
    exact ⟨m, p2, b1, b2.trans a1, b3.trans a2, b4, b5, b6⟩
theorem count_ok {n : Nat} {p : Array Nat} (h1 : 1 ≤ n) (hz : n ≤ p.size) : ∃ m p', kEv (kb key) (kas_count n p) = (m, p') ∧ p'.size = p.size ∧ p'.Perm p ∧ 1 ≤ m ∧ m ≤ n ∧ Srt key p' m := by
  unfold kas_count
  rw [kEv_bind]
  obtain ⟨m, e, a, b, c, d⟩ := asc_ok (key := key) (p := p) (n - 1) 1 (Nat.le_refl _) (fun i j hij hj => by
    have : i = j := by omega
    rw [this]; exact Int.le_refl _)
  rw [e]
  by_cases hm : (m == n) = true
  · rw [if_pos hm]
    exact ⟨m, p, rfl, rfl, Array.Perm.refl _, a, by omega, c⟩
  · rw [if_neg hm]
    have hmn : m ≠ n := by simpa using hm
    have hlt : kp key p m < kp key p (m - 1) := by
      rcases d with d | d
      · omega
      · exact d
    by_cases h2 : m > 1
    · rw [if_pos h2]
      show ∃ m' p', kEv (kb key) (if kb key (p.getD 0 0) (p.getD (m - 1) 0) = true then .ret (m, p) else kas_descPart m n (kas_rev p 0 m)) = (m', p') ∧ _
      by_cases hc : kb key (p.getD 0 0) (p.getD (m - 1) 0) = true
      · rw [if_pos hc]
        exact ⟨m, p, rfl, rfl, Array.Perm.refl _, a, by omega, c⟩
      · rw [if_neg hc]
        have hc' : kp key p (m - 1) ≤ kp key p 0 := Int.not_lt.mp fun h => hc (decide_eq_true h)
        have all : ∀ i, i < m → kp key p i = kp key p 0 := fun i hi => Int.le_antisymm (Int.le_trans (c i (m - 1) (by omega) (by omega)) hc') (c 0 i (by omega) hi)
        obtain ⟨m', p', b1, b2, b3, b4, b5, b6⟩ := descPart_ok (key := key) (n := m) (nrem := n) (p := kas_rev p 0 m) a (by omega) (by rw [rev_size]; omega) (fun i j hij hj => by
          have le : ∀ k, k < m → kp key (kas_rev p 0 m) k = kp key p 0 := fun k hk => by rw [kp_rev (by omega), if_pos (by omega)]; exact all _ (by omega)
          have lm : kp key (kas_rev p 0 m) m = kp key p m := by rw [kp_rev (by omega), if_neg (by omega)]
          by_cases z : j < m
          · rw [le i (by omega), le j z]; exact Int.le_refl _
          · have : j = m := by omega
            subst this
            by_cases z2 : i = j
            · subst z2; exact Int.le_refl _
            · rw [le i (by omega), lm, ← all (j - 1) (by omega)]; exact Int.le_of_lt hlt)
        exact ⟨m', p', b1, b2.trans (rev_size ..), b3.trans (rev_perm ..), b4, b5, b6⟩
    · rw [if_neg h2]
      have hm1 : m = 1 := by omega
      refine descPart_ok a (by omega) hz fun i j hij hj => ?_
      subst hm1
      by_cases z : i = j
      · subst z; exact Int.le_refl _
      · have e1 : i = 0 := by omega
        have e2 : j = 1 := by omega
        subst e1; subst e2
        exact Int.le_of_lt hlt
theorem place_ok {p : Array Nat} {k : Nat} (hs : Srt key p k) : ∀ (f l r : Nat), l ≤ r → r ≤ k → r - l ≤ f → (∀ i, i < l → kp key p i ≤ kp key p k) → (∀ i, r ≤ i → i < k → kp key p k < kp key p i) →
    ∃ m, kEv (kb key) (kas_place p k f l r) = m ∧ m ≤ k ∧ (∀ i, i < m → kp key p i ≤ kp key p k) ∧ ∀ i, m ≤ i → i < k → kp key p k < kp key p i
  | 0, l, r, h1, h2, h3, h4, h5 => ⟨l, rfl, by omega, h4, fun i a b => h5 i (by omega) b⟩
  | f + 1, l, r, h1, h2, h3, h4, h5 => by
    show ∃ m, kEv (kb key) (if l ≥ r then .ret l else .ask (p.getD k 0) (p.getD ((l + r) / 2) 0) fun c => if c = true then kas_place p k f l ((l + r) / 2) else kas_place p k f ((l + r) / 2 + 1) r) = m ∧ _
    by_cases hlr : l ≥ r
    · rw [if_pos hlr]
      exact ⟨l, rfl, by omega, h4, fun i a b => h5 i (by omega) b⟩
    · rw [if_neg hlr]
      show ∃ m, kEv (kb key) (if kb key (p.getD k 0) (p.getD ((l + r) / 2) 0) = true then kas_place p k f l ((l + r) / 2) else kas_place p k f ((l + r) / 2 + 1) r) = m ∧ _
      by_cases hc : kb key (p.getD k 0) (p.getD ((l + r) / 2) 0) = true
      · rw [if_pos hc]
        have hc' : kp key p k < kp key p ((l + r) / 2) := of_decide_eq_true hc
        exact place_ok hs f l ((l + r) / 2) (by omega) (by omega) (by omega) h4 fun i a b => Int.lt_of_lt_of_le hc' (hs _ _ a b)
      · rw [if_neg hc]
        have hc' : kp key p ((l + r) / 2) ≤ kp key p k := Int.not_lt.mp fun h => hc (decide_eq_true h)
        exact place_ok hs f ((l + r) / 2 + 1) r (by omega) h2 (by omega) (fun i a => Int.le_trans (hs i _ (by omega) (by omega)) hc') h5
theorem bin_ok : ∀ (f : Nat) (p : Array Nat) (k : Nat), k + f = p.size → Srt key p k → ∃ p', kEv (kb key) (kas_bin f p k) = p' ∧ p'.size = p.size ∧ p'.Perm p ∧ Srt key p' p.size
  | 0, p, k, hz, hs => ⟨p, rfl, rfl, Array.Perm.refl _, by rw [← hz]; exact hs⟩
  | f + 1, p, k, hz, hs => by
    show ∃ p', kEv (kb key) ((kas_place p k k 0 k).bind fun l => kas_bin f (bubble p k (k - l)) (k + 1)) = p' ∧ _
    rw [kEv_bind]
    obtain ⟨m, e, m1, m2, m3⟩ := place_ok hs k 0 k (by omega) (Nat.le_refl _) (by omega) (fun i h => by omega) (fun i a b => by omega)
    rw [e]
    have kk : ∀ i, kp key (bubble p k (k - m)) i = if i = m then kp key p k else if m < i ∧ i ≤ k then kp key p (i - 1) else kp key p i := fun i => by
      rw [kp_bub (by omega) (by omega)]
      have : k - (k - m) = m := by omega
      rw [this]
    obtain ⟨p', b1, b2, b3, b4⟩ := bin_ok f (bubble p k (k - m)) (k + 1) (by rw [bubble_size]; omega) (fun i j hij hj => by
      rw [kk, kk]
      split
      · split
        · exact Int.le_refl _
        · split
          · exact Int.le_of_lt (m3 _ (by omega) (by omega))
          · omega
      · split
        · split
          · omega
          · split
            · exact hs _ _ (by omega) (by omega)
            · omega
        · split
          · exact m2 i (by omega)
          · split
            · exact hs _ _ (by omega) (by omega)
            · exact hs _ _ (by omega) (by omega))
    exact ⟨p', b1, b2.trans (bubble_size ..), b3.trans (bubble_perm ..), by rw [bubble_size] at b4; exact b4⟩
theorem sort_ok {n : Nat} (h1 : 1 ≤ n) : ∃ p, kEv (kb key) (kas_sort n) = p ∧ p.size = n ∧ p.Perm (List.toArray (List.range n)) ∧ Srt key p n := by
  unfold kas_sort
  rw [kEv_bind]
  have hsz : (List.toArray (List.range n)).size = n := by simp
  obtain ⟨m, p', e, a1, a2, a3, a4, a5⟩ := count_ok (key := key) (n := n) (p := List.toArray (List.range n)) h1 (by rw [hsz]; exact Nat.le_refl _)
  rw [e]
  simp only
  rw [hsz] at a1
  split
  · have : max m 1 = m := by omega
    rw [this]
    obtain ⟨p2, b1, b2, b3, b4⟩ := bin_ok (key := key) (n - m) p' m (by omega) a5
    exact ⟨p2, b1, b2.trans a1, b3.trans a2, by rw [a1] at b4; exact b4⟩
  · have : m = n := by omega
    subst this
    exact ⟨p', rfl, a1, a2, a5⟩
end
end Mine
end
section
set_option Elab.async false
set_option linter.unusedVariables false
namespace Mine
section
variable {len hour : Nat → Int}
theorem total_cons (j : Nat) (l : List Nat) : total len (j :: l) = len j + total len l := by simp [total]
theorem total_nonneg (hl : ∀ j, 0 ≤ len j) (l : List Nat) : 0 ≤ total len l := by
  induction l with
  | nil => simp [total]
  | cons a l ih => rw [total_cons]; have := hl a; omega
theorem total_perm {l m : List Nat} (h : l.Perm m) : total len l = total len m := perm_sum (h.map len)
abbrev Byh (hour : Nat → Int) (l : List Nat) : Prop := l.Pairwise (fun a b => hour a ≤ hour b)
/-- in time, told without the order -/
theorem inT_byh (hl : ∀ j, 0 ≤ len j) : ∀ {l : List Nat} {now : Int}, Byh hour l → (inT len hour now l ↔ ∀ k ∈ l, now + total len (l.filter (fun j => decide (hour j ≤ hour k))) ≤ hour k)
  | [], now, _ => by simp [inT]
  | a :: l, now, hp => by
    have hp' := List.pairwise_cons.mp hp
    have ih := inT_byh hl (l := l) (now := now + len a) hp'.2
    have hin : ∀ k ∈ l, total len ((a :: l).filter (fun j => decide (hour j ≤ hour k))) = len a + total len (l.filter (fun j => decide (hour j ≤ hour k))) := fun k hk => by
      rw [List.filter_cons_of_pos (by simpa using hp'.1 k hk), total_cons]
    have hia : total len ((a :: l).filter (fun j => decide (hour j ≤ hour a))) = len a + total len (l.filter (fun j => decide (hour j ≤ hour a))) := by
      rw [List.filter_cons_of_pos (by simp), total_cons]
    rw [inT, ih]
    constructor
    · rintro ⟨h1, h2⟩ k hk
      rcases List.mem_cons.mp hk with rfl | hk
      · rw [hia]
        rcases List.eq_nil_or_concat (l.filter (fun j => decide (hour j ≤ hour k))) with h | ⟨r, b, h⟩
        · rw [h]; simp [total]; omega
        · have hb : b ∈ l.filter (fun j => decide (hour j ≤ hour k)) := by rw [h]; simp
          rw [List.mem_filter] at hb
          have e : hour b = hour k := by have := hp'.1 b hb.1; have := of_decide_eq_true hb.2; omega
          have := h2 b hb.1
          rw [e] at this
          omega
      · rw [hin k hk]; have := h2 k hk; omega
    · intro h
      refine ⟨?_, fun k hk => ?_⟩
      · have := h a (by simp)
        rw [hia] at this
        have := total_nonneg hl (l.filter (fun j => decide (hour j ≤ hour a)))
        omega
      · have := h k (by simp [hk])
        rw [hin k hk] at this; omega
theorem edf (hl : ∀ j, 0 ≤ len j) {l m : List Nat} {now : Int} (hp : l.Perm m) (h1 : Byh hour l) (h2 : Byh hour m) (h : inT len hour now l) : inT len hour now m := by
  rw [inT_byh hl h2]
  intro k hk
  rw [← total_perm (hp.filter _)]
  exact (inT_byh hl h1).mp h k (hp.mem_iff.mpr hk)
/-- works that can all be done in time -/
def Feas (len hour : Nat → Int) (W : List Nat) : Prop := ∀ l, l.Perm W → Byh hour l → inT len hour 0 l
theorem Feas.of (hl : ∀ j, 0 ≤ len j) {l W : List Nat} (hp : l.Perm W) (h1 : Byh hour l) (h : inT len hour 0 l) : Feas len hour W := fun m hm h2 => edf hl (hp.trans hm.symm) h1 h2 h
/-- a place in a row -/
theorem cut_row {i : Nat} : ∀ {row : List Nat}, Byh hour row → ∃ A B, row = A ++ B ∧ (∀ j ∈ A, hour j ≤ hour i) ∧ (∀ j ∈ B, hour i < hour j)
  | [], _ => ⟨[], [], rfl, by simp, by simp⟩
  | a :: r, hp => by
    have hp' := List.pairwise_cons.mp hp
    rcases Int.lt_or_le (hour i) (hour a) with h | h
    · refine ⟨[], a :: r, rfl, by simp, fun j hj => ?_⟩
      rcases List.mem_cons.mp hj with rfl | hj
      · exact h
      · have := hp'.1 j hj; omega
    · obtain ⟨A, B, rfl, h1, h2⟩ := cut_row (i := i) hp'.2
      refine ⟨a :: A, B, rfl, fun j hj => ?_, h2⟩
      rcases List.mem_cons.mp hj with rfl | hj
      · exact h
      · exact h1 j hj
theorem byh_insert {i : Nat} {A B : List Nat} (hp : Byh hour (A ++ B)) (h1 : ∀ j ∈ A, hour j ≤ hour i) (h2 : ∀ j ∈ B, hour i < hour j) : Byh hour (A ++ i :: B) := by
  unfold Byh at *
  rw [List.pairwise_append] at hp ⊢
  refine ⟨hp.1, List.pairwise_cons.mpr ⟨fun j hj => Int.le_of_lt (h2 j hj), hp.2.1⟩, fun a ha b hb => ?_⟩
  rcases List.mem_cons.mp hb with rfl | hb
  · exact h1 a ha
  · exact hp.2.2 a ha b hb

/-! the heap of works, the longest first -/
def ltN (len : Nat → Int) (i j : Nat) : Bool := lexI [-(len i), (i : Int)] [-(len j), (j : Int)]
theorem ltN_iff {i j : Nat} : ltN len i j = true ↔ (len j < len i ∨ (len i = len j ∧ i < j)) := by
  unfold ltN
  simp only [lexI, beq_iff_eq]
  split
  · split
    · simp; omega
    · rw [decide_eq_true_iff]; omega
  · rw [decide_eq_true_iff]; omega
theorem ltN_false {i j : Nat} : ltN len i j = false ↔ ¬ (len j < len i ∨ (len i = len j ∧ i < j)) := by
  rw [← ltN_iff]; simp
theorem ltN_tot : LtTot (ltN len) := ⟨fun a b h => by rw [ltN_iff] at h; rw [ltN_false]; omega, fun a b c h1 h2 => by rw [ltN_false] at *; omega⟩
theorem ltN_irr (a : Nat) : ltN len a a = false := by rw [ltN_false]; omega
theorem heap_top {l : List Nat} (h : IsHeap (ltN len) 0 l) {k : Nat} (hk : k ∈ l) : len k ≤ len (l.getD 0 0) := by
  obtain ⟨i, hi, rfl⟩ := List.getElem_of_mem hk
  have := h.min ltN_tot ltN_irr i hi
  rw [List.getD_eq_getElem?_getD (i := i), List.getElem?_eq_getElem hi, ltN_false] at this
  simp only [Option.getD_some] at this
  omega
/-- the step of the swap -/
theorem Kept.swap' {pre S hl hl' : List Nat} {j x : Nat} (hn : ∀ j, 0 ≤ len j) (K : Kept len hour pre S) (hj : hour j < total len S + len j) (hs : ∀ k ∈ pre, hour k ≤ hour j) (hh : hl.Perm S)
    (hp : (hl ++ [j]).Perm (x :: hl')) (hx : ∀ k ∈ hl ++ [j], len k ≤ len x) : ∃ T, hl'.Perm T ∧ Kept len hour (pre ++ [j]) T ∧ total len T = total len S + len j - len x := by
  have hS : (S ++ [j]).Perm (hl ++ [j]) := (hh.append_right [j]).symm
  have hm : x ∈ S ++ [j] := (hS.trans hp).mem_iff.mpr (by simp)
  have e := List.perm_cons_erase hm
  refine ⟨(S ++ [j]).erase x, ((hp.symm.trans hS.symm).trans e).cons_inv, K.swap hn hj hs e List.erase_sublist (fun k hk => hx k (hS.mem_iff.mp hk)), ?_⟩
  have := total_perm (len := len) e
  rw [total_cons, total_snoc] at this
  omega

/-! the numbers of the choices -/
def works (N num : Nat) : List Nat := (List.range N).filter (fun j => num / 2 ^ j % 2 == 1)
theorem works_nodup (N num : Nat) : (works N num).Nodup := List.nodup_range.filter _
theorem works_lt {N num j : Nat} (h : j ∈ works N num) : j < N := List.mem_range.mp (List.mem_filter.mp h).1
theorem works_len (N num : Nat) : (works N num).length ≤ N := by
  have := List.length_filter_le (fun j => num / 2 ^ j % 2 == 1) (List.range N); rw [List.length_range] at this; exact this
theorem works_zero (N : Nat) : works N 0 = [] := by unfold works; simp
/-- the least wholes found below num -/
structure Least (len hour : Nat → Int) (N num : Nat) (lst : List (Option Int)) : Prop where
  size : lst.length = N + 1
  got : ∀ m v, lst[m]? = some (some v) → ∃ n, n < num ∧ Feas len hour (works N n) ∧ (works N n).length = m ∧ total len (works N n) = v
  low : ∀ n, n < num → Feas len hour (works N n) → ∃ v, lst[(works N n).length]? = some (some v) ∧ v ≤ total len (works N n)
theorem feas_nil (len hour : Nat → Int) : Feas len hour [] := fun l hl _ => by rw [List.perm_nil.mp hl]; trivial
theorem Least.one (N : Nat) : Least len hour N 1 (some 0 :: List.replicate N none) := by
  refine ⟨by simp, fun m v h => ?_, fun n hn _ => ?_⟩
  · cases m with
    | zero => cases h; exact ⟨0, by omega, by rw [works_zero]; exact feas_nil len hour, by rw [works_zero]; rfl, by rw [works_zero]; rfl⟩
    | succ m =>
      simp only [List.getElem?_cons_succ, List.getElem?_replicate] at h
      split at h <;> cases h
  · have : n = 0 := by omega
    subst this
    rw [works_zero]
    exact ⟨0, rfl, by simp [total]⟩
theorem Least.skip {N num : Nat} {lst : List (Option Int)} (L : Least len hour N num lst) (h : ¬ Feas len hour (works N num)) : Least len hour N (num + 1) lst :=
  ⟨L.size, fun m v e => by obtain ⟨n, a, b⟩ := L.got m v e; exact ⟨n, by omega, b⟩, fun n hn hf => by
    rcases Nat.lt_or_ge n num with q | q
    · exact L.low n q hf
    · have : n = num := by omega
      subst this; exact absurd hf h⟩
theorem Least.keep {N num : Nat} {lst : List (Option Int)} {v : Int} (L : Least len hour N num lst) (h : lst[(works N num).length]? = some (some v)) (hv : v ≤ total len (works N num)) : Least len hour N (num + 1) lst :=
  ⟨L.size, fun m v e => by obtain ⟨n, a, b⟩ := L.got m v e; exact ⟨n, by omega, b⟩, fun n hn hf => by
    rcases Nat.lt_or_ge n num with q | q
    · exact L.low n q hf
    · have : n = num := by omega
      subst this; exact ⟨v, h, hv⟩⟩
theorem Least.put {N num : Nat} {lst : List (Option Int)} (L : Least len hour N num lst) (hf : Feas len hour (works N num)) (h : ∀ v, lst[(works N num).length]? = some (some v) → total len (works N num) ≤ v) :
    Least len hour N (num + 1) (lst.set (works N num).length (some (total len (works N num)))) := by
  have hlt : (works N num).length < lst.length := by rw [L.size]; have := works_len N num; omega
  refine ⟨by rw [List.length_set]; exact L.size, fun m v e => ?_, fun n hn hfn => ?_⟩
  · by_cases q : (works N num).length = m
    · subst q
      rw [List.getElem?_set_self hlt] at e
      cases e
      exact ⟨num, by omega, hf, rfl, rfl⟩
    · rw [List.getElem?_set_ne q] at e
      obtain ⟨n, a, b⟩ := L.got m v e
      exact ⟨n, by omega, b⟩
  · by_cases q : (works N num).length = (works N n).length
    · refine ⟨total len (works N num), by rw [← q, List.getElem?_set_self hlt], ?_⟩
      rcases Nat.lt_or_ge n num with r | r
      · obtain ⟨v, a, b⟩ := L.low n r hfn
        rw [← q] at a
        have := h v a; omega
      · have : n = num := by omega
        subst this; omega
    · have hn' : n ≠ num := fun e => q (by rw [e])
      obtain ⟨v, a, b⟩ := L.low n (by omega) hfn
      exact ⟨v, by rw [List.getElem?_set_ne q]; exact a, b⟩
/-- what is known of the kept ones -/
structure Answer (len hour : Nat → Int) (N : Nat) (row S : List Nat) : Prop where
  pos : ∀ j, 0 ≤ len j
  perm : row.Perm (List.range N)
  byh : Byh hour row
  kept : Kept len hour row S
theorem Answer.feas {N : Nat} {row S : List Nat} (A : Answer len hour N row S) {hl : List Nat} (h : hl.Perm S) : Feas len hour hl := Feas.of A.pos h.symm (A.byh.sublist A.kept.sub) A.kept.ok
theorem Answer.row_nodup {N : Nat} {row S : List Nat} (A : Answer len hour N row S) : row.Nodup := A.perm.nodup_iff.mpr List.nodup_range
theorem Answer.few {N n : Nat} {row S : List Nat} (A : Answer len hour N row S) (hf : Feas len hour (works N n)) : (works N n).length ≤ S.length ∧ Sh (works N n).length (S.map len) ≤ total len (works N n) := by
  have hp : (row.filter (fun j => n / 2 ^ j % 2 == 1)).Perm (works N n) := A.perm.filter _
  have := A.kept.few _ List.filter_sublist (hf _ hp (A.byh.sublist List.filter_sublist))
  rw [hp.length_eq, total_perm hp] at this
  exact this
theorem Answer.reach {N m : Nat} {row S : List Nat} (A : Answer len hour N row S) (hm : m ≤ S.length) : ∃ n, n < 2 ^ N ∧ Feas len hour (works N n) ∧ (works N n).length = m ∧ total len (works N n) = Sh m (S.map len) := by
  obtain ⟨F, f1, f2, f3, f4⟩ := A.kept.least A.pos hm
  obtain ⟨n, n1, n2⟩ := number_of (fun j => decide (j ∈ F)) N
  have hF : ∀ j ∈ F, j < N := fun j hj => List.mem_range.mp (A.perm.mem_iff.mp (f1.mem hj))
  have hp : F.Perm (works N n) := by
    rw [List.perm_ext_iff_of_nodup (A.row_nodup.sublist f1) (works_nodup N n)]
    intro j
    unfold works
    rw [List.mem_filter, List.mem_range, beq_iff_eq]
    constructor
    · intro h; exact ⟨hF j h, (n2 j (hF j h)).mpr (by simpa using h)⟩
    · rintro ⟨h1, h2⟩; simpa using (n2 j h1).mp h2
  exact ⟨n, n1, Feas.of A.pos hp (A.byh.sublist f1) f2, by rw [← hp.length_eq]; exact f3, by rw [← total_perm hp]; exact f4⟩
/-- the least list at the end -/
theorem Answer.least {N : Nat} {row S : List Nat} {lst : List (Option Int)} (A : Answer len hour N row S) (L : Least len hour N (2 ^ N) lst) : lst.filterMap id = (List.range (S.length + 1)).map (fun m => Sh m (S.map len)) := by
  have hS : S.length ≤ N := by have := A.kept.sub.length_le; rw [A.perm.length_eq, List.length_range] at this; exact this
  have e : lst = (List.range (S.length + 1)).map (fun m => some (Sh m (S.map len))) ++ List.replicate (N - S.length) none := by
    apply List.ext_getElem?
    intro m
    rcases Nat.lt_or_ge m (S.length + 1) with h | h
    · rw [List.getElem?_append_left (by simpa using h), List.getElem?_map, List.getElem?_range h]
      obtain ⟨n, n1, n2, n3, n4⟩ := A.reach (m := m) (by omega)
      obtain ⟨v, v1, v2⟩ := L.low n n1 n2
      rw [n3] at v1
      obtain ⟨k, k1, k2, k3, k4⟩ := L.got m v v1
      have := (A.few k2).2
      rw [k3, k4] at this
      rw [v1]
      have : v = Sh m (S.map len) := by omega
      rw [this]; rfl
    · rw [List.getElem?_append_right (by simpa using h), List.length_map, List.length_range, List.getElem?_replicate]
      rcases Nat.lt_or_ge m (N + 1) with q | q
      · rw [if_pos (by omega)]
        have hm : m < lst.length := by rw [L.size]; exact q
        rw [List.getElem?_eq_getElem hm]
        cases c : lst[m] with
        | none => rfl
        | some v =>
          obtain ⟨k, k1, k2, k3, k4⟩ := L.got m v (by rw [List.getElem?_eq_getElem hm, c])
          have := (A.few k2).1
          omega
      · rw [if_neg (by omega), List.getElem?_eq_none (by rw [L.size]; exact q)]
  rw [e, List.filterMap_append, List.filterMap_replicate_of_none rfl, List.append_nil, List.filterMap_map]
  simp [Function.comp]
end
end Mine
end

end
section
set_option Elab.async false
set_option linter.unusedVariables false
set_option linter.unusedSectionVars false
set_option linter.unusedSimpArgs false
set_option maxRecDepth 100000
section
open PySem PySem.W PyProof.Rows
set_option Elab.async false
set_option linter.unusedVariables false
set_option maxRecDepth 10000
namespace Mine
theorem len1 {α : Type} {l : List α} (h : l.length = 1) : ∃ a, l = [a] := List.length_eq_one_iff.mp h
theorem len2 {α : Type} {l : List α} (h : l.length = 2) : ∃ a b, l = [a, b] := by
  cases l with
  | nil => cases h
  | cons a t => obtain ⟨b, rfl⟩ := len1 (Nat.succ.inj h); exact ⟨a, b, rfl⟩
theorem len3 {α : Type} {l : List α} (h : l.length = 3) : ∃ a b c, l = [a, b, c] := by
  cases l with
  | nil => cases h
  | cons a t => obtain ⟨b, c, rfl⟩ := len2 (Nat.succ.inj h); exact ⟨a, b, c, rfl⟩

theorem lookup_of_mem_nodup {α : Type} : ∀ {l : List (Str × α)} {x : Str} {v : α}, (l.map (·.1)).Nodup → (x, v) ∈ l → l.lookup x = some v
  | [], _, _, _, h => by cases h
  | (y, u) :: r, x, v, hn, h => by
    rw [List.lookup_cons]
    simp only [List.map_cons, List.nodup_cons] at hn
    rcases List.mem_cons.mp h with e | h
    · cases e; simp
    · have : x ≠ y := fun e => hn.1 (e ▸ List.mem_map_of_mem (f := (·.1)) h)
      rw [beq_eq_false_iff_ne.mpr this]
      exact lookup_of_mem_nodup hn.2 h
theorem zip_rev_rep {h : Heap} : ∀ {names : List Str} {ps : List PV} {vs : List Value}, VReps h ps vs → ∀ {x : Str} {p : PV}, (names.zip ps).lookup x = some p → ∃ v, (x, v) ∈ names.zip vs ∧ VRep h p v
  | [], _, _, _, _, _, e => by simp at e
  | _ :: _, [], _, _, _, _, e => by simp at e
  | n :: ns, q :: ps, vs, hv, x, p, e => by
    obtain ⟨v, r, rfl, h1, h2⟩ := hv.cons_inv
    rw [List.zip_cons_cons, List.lookup_cons] at e
    split at e
    · rename_i hx
      cases e
      rw [beq_iff_eq.mp hx]
      exact ⟨v, List.mem_cons_self .., h1⟩
    · obtain ⟨v', a, b⟩ := zip_rev_rep h2 e
      exact ⟨v', List.mem_cons_of_mem _ a, b⟩

/-- the frame of a function without cells of its own -/
theorem wp_newEnv {M : Model} {A : Around} {E : Value → Shared → Prop} {base : Heap} {os₀ : OsState} {hid : List (Addr × Obj)} {stk : List (Addr × Locals)} {σ : AHeap} {s : Shared} {scope : Scope} {globals : Addr} {clo : List (Str × Addr)} {names : List Str} {ps : List PV} {vs : List Value}
    {qual : Str} {func : Option Addr} {code : Value} {builtins : Addr} {Q : Env → Shared → Prop} (R : Rep base os₀ hid stk σ s) (hv : VReps s.heap ps vs) (hnd : names.Nodup) (hlen : names.length = ps.length)
    (hc : ∀ x ∈ scope.names, x.2 ≠ .cell) (hkind : names.all (fun x => scope.names.lookup x == some .local) = true) (hk : scope.kind = .function)
    (h : ∀ s', (∀ b o, s.heap.get? b = some o → s'.heap.get? b = some o) → Rep base os₀ hid ((s.heap.objs.size, names.zip ps) :: stk) σ s' → Q (newEnv scope s.heap.objs.size globals clo qual func code none builtins) s') :
    wpAny M A (newFunctionEnv scope globals clo (names.zip vs) qual func code none builtins) Q E s := by
  refine wpAny_newFunctionEnv hc (fun x hx => by simpa using List.all_eq_true.mp hkind x.1 (List.of_mem_zip hx).1) (fun h' hns hsb => ?_) hk
  have hkeep : ∀ b o, s.heap.get? b = some o → h'.get? b = some o := fun b o e => hsb.extBut b o (Nat.ne_of_lt (Heap.lt_size e)) (Heap.get?_push_of_some _ e)
  refine h _ hkeep ?_
  have R0 := R.grow (s' := { s with heap := h', toks := s.toks + (names.zip vs).length }) hkeep rfl rfl (Nat.le_add_right ..)
  have k : Keeps s.heap h' := fun b vs ⟨n, e⟩ => ⟨n, hkeep _ _ e⟩
  refine ⟨R0.stays, R0.gens, R0.os, fun p hp => ?_, fun f hf => ?_, ?_, R0.hnd, R0.heap, R0.tk⟩
  · obtain ⟨a1, b1, c1, d1, e1⟩ := R0.hid p hp
    refine ⟨a1, b1, c1, fun q => ?_, e1⟩
    simp only [List.map_cons, List.mem_cons] at q
    rcases q with q | q
    · exact R.fresh_hid p hp q
    · exact d1 q
  · rcases List.mem_cons.mp hf with rfl | hf
    · refine ⟨⟨R.fresh_base, _, hns, fun x p e => ?_⟩, R.fresh_σ⟩
      obtain ⟨v, a, b⟩ := zip_rev_rep hv e
      refine ⟨v, lookup_of_mem_nodup ?_ (List.mem_reverse.mpr a), b.mono k⟩
      rw [List.map_reverse]
      refine List.pairwise_reverse.mpr (List.Pairwise.imp Ne.symm ?_)
      have hl : names.length ≤ vs.length := by rw [hlen, hv.length]; exact Nat.le_refl _
      show List.Nodup _
      rw [List.map_fst_zip hl]; exact hnd
    · exact R0.frames f hf
  · simp only [List.map_cons, List.nodup_cons]
    refine ⟨fun q => ?_, R0.nodup⟩
    obtain ⟨f, hf, e⟩ := List.mem_map.mp q
    exact R.fresh_stk f hf e

/-- where a function stands, in every state told by σ -/
def FnIn (G : Gx) (σ : AHeap) (a : Addr) (fd : FuncData) : Prop :=
  ∀ hid stk s, Rep G.base G.os hid stk σ s → (∃ o, s.heap.get? a = some o ∧ o.data = .func fd) ∧ s.heap.CodeRec fd.code fd.qualname

section
variable {G : Gx} {n : Nat} {calm : Bool} {a : Addr} {fd : FuncData} {ps0 ps : List PV} {kw : List (Str × PV)} {Q : PV → AHeap → Prop} {σ : AHeap}
/-- how the arguments are bound -/
def Binds (G : Gx) (fd : FuncData) (σ : AHeap) (ps0 : List PV) (kw : List (Str × PV)) (names : List Str) (ps : List PV) : Prop :=
  ∀ A hid stk s vs ks E Q, Rep G.base G.os hid stk σ s → VReps s.heap ps0 vs → VReps s.heap (kw.map (·.2)) ks → (∀ vs' s', Rep G.base G.os hid stk σ s' → Keeps s.heap s'.heap → VReps s'.heap ps vs' → Q (names.zip vs') s') → wpAny G.M A (bindArgs fd ⟨vs, (kw.map (·.1)).zip ks⟩) Q E s
theorem Binds.plain {names : List Str} (hbind : ∀ vs : List Value, vs.length = names.length → bindArgs fd ⟨vs, []⟩ = pure (names.zip vs)) (hlen : names.length = ps.length) : Binds G fd σ ps [] names ps :=
  fun A hid stk s vs ks E Q R hv hks h => by
    show wpAny _ _ (bindArgs fd ⟨vs, []⟩) _ _ s
    rw [hbind vs (by rw [hlen]; exact hv.length)]
    exact wpAny_pure (h vs s R (.refl _) hv)

/-- a function without cells of its own, called -/
theorem call_freeS {body : List Stmt} (names : List Str) (hG : Gd G) (hat : FnIn G σ a fd) (hbody : fd.body = .stmts body)
    (hgl : fd.globals = mainGlobals) (hbu : fd.builtins = builtinsNs) (hk : fd.scope.kind = .function) (hco : fd.scope.isCoroutine = false) (hgen : fd.scope.isGenerator = false)
    (hnames : names.Nodup) (hlen : names.length = ps.length) (hbind : Binds G fd σ ps0 kw names ps)
    (hkind : names.all (fun x => fd.scope.names.lookup x == some .local) = true) (hc : ∀ x ∈ fd.scope.names, x.2 ≠ .cell)
    (h : ∀ (c : Cx), c.toGx = G → c.lv = ⟨n, calm⟩ → c.env.scope = fd.scope → c.env.cells = fd.closure → c.env.qual = fd.qualname ++ ".<locals>." → c.env.code = fd.code →
      WS c body (fun f st => Q (match f with | .ret p => p | _ => .none) st.2) (names.zip ps, σ)) :
    CallK G ⟨n + 1, calm⟩ (.ref a) ps0 kw  Q σ := fun A hid stk s₀ vs₀ ks ok R₀ hv₀ hks => by
  obtain ⟨⟨o, ho, hd⟩, hcd⟩ := hat hid stk s₀ R₀
  refine codeAny_call_function (by have := ok.depth; simp only at this; show A.depth < 1000; omega) ho hd hco hgen hbody hcd ?_
  refine hbind _ hid stk s₀ vs₀ ks _ _ R₀ hv₀ hks fun vs s R k₀ hv => ?_
  refine wp_newEnv R hv hnames hlen hc hkind hk fun s₁ hkeep R₁ => ⟨(hG.nolimit.keeps R.stays).keeps hkeep, ?_⟩
  have k : Keeps s.heap s₁.heap := fun b vs ⟨n, e⟩ => ⟨n, hkeep _ _ e⟩
  have hok := AOk.body (lv := ⟨n + 1, calm⟩) ok (env := newEnv fd.scope s.heap.objs.size fd.globals fd.closure (fd.qualname ++ ".<locals>.") (some a) fd.code none fd.builtins) hk hgl hbu
  have hW := h ⟨G, ⟨n, calm⟩, A.deeper _, _⟩ rfl rfl rfl rfl rfl rfl hid stk _ hok R₁
  refine codeAny_func (wpAny_mono hW (fun f s₂ hp => ?_) fun e s₂ hx => ?_)
  · obtain ⟨fl, st', R', hf, k', q⟩ := hp
    cases fl with
    | next => cases hf; exact ⟨.none, st'.2, R'.pop, rfl, k₀.trans (k.trans k'), q⟩
    | brk => cases hf; exact ⟨.none, st'.2, R'.pop, rfl, k₀.trans (k.trans k'), q⟩
    | cont => cases hf; exact ⟨.none, st'.2, R'.pop, rfl, k₀.trans (k.trans k'), q⟩
    | ret p => obtain ⟨v, rfl, hv'⟩ := hf; exact ⟨p, st'.2, R'.pop, hv', k₀.trans (k.trans k'), q⟩
  · exact False.elim hx
theorem call_freeE {body : Expr} (names : List Str) (hG : Gd G) (hat : FnIn G σ a fd) (hbody : fd.body = .expr body)
    (hgl : fd.globals = mainGlobals) (hbu : fd.builtins = builtinsNs) (hk : fd.scope.kind = .function) (hco : fd.scope.isCoroutine = false) (hgen : fd.scope.isGenerator = false)
    (hnames : names.Nodup) (hlen : names.length = ps.length) (hbind : Binds G fd σ ps0 kw names ps)
    (hkind : names.all (fun x => fd.scope.names.lookup x == some .local) = true) (hc : ∀ x ∈ fd.scope.names, x.2 ≠ .cell)
    (h : ∀ (c : Cx), c.toGx = G → c.lv = ⟨n, calm⟩ → c.env.scope = fd.scope → c.env.cells = fd.closure → c.env.qual = fd.qualname ++ ".<locals>." → c.env.code = fd.code →
      WE c body (fun p st => Q p st.2) (names.zip ps, σ)) :
    CallK G ⟨n + 1, calm⟩ (.ref a) ps0 kw  Q σ := fun A hid stk s₀ vs₀ ks ok R₀ hv₀ hks => by
  obtain ⟨⟨o, ho, hd⟩, hcd⟩ := hat hid stk s₀ R₀
  refine kla_callFunE (by have := ok.depth; simp only at this; show A.depth < 1000; omega) ho hd hco hgen hbody hcd ?_
  refine hbind _ hid stk s₀ vs₀ ks _ _ R₀ hv₀ hks fun vs s R k₀ hv => ?_
  refine wp_newEnv R hv hnames hlen hc hkind hk fun s₁ hkeep R₁ => ⟨(hG.nolimit.keeps R.stays).keeps hkeep, ?_⟩
  have k : Keeps s.heap s₁.heap := fun b vs ⟨n, e⟩ => ⟨n, hkeep _ _ e⟩
  have hok := AOk.body (lv := ⟨n + 1, calm⟩) ok (env := newEnv fd.scope s.heap.objs.size fd.globals fd.closure (fd.qualname ++ ".<locals>.") (some a) fd.code none fd.builtins) hk hgl hbu
  have hW := h ⟨G, ⟨n, calm⟩, A.deeper _, _⟩ rfl rfl rfl rfl rfl rfl hid stk _ hok R₁
  refine kla_codeExpr (wpAny_mono hW (fun f s₂ hp => ?_) fun e s₂ hx => ?_)
  · obtain ⟨p, st', R', hf, k', q⟩ := hp
    exact ⟨p, st'.2, R'.pop, hf, k₀.trans (k.trans k'), q⟩
  · exact False.elim hx
end
end Mine
end
section
open PySem PySem.W PyProof.Rows
set_option Elab.async false
set_option linter.unusedVariables false
set_option maxRecDepth 10000
namespace Mine

/-- a code object of that qualified name -/
def codeR (qual : Str) : ORel where
  R _ o := ∃ (vs : Array Value) (t : Tok), o.data = .fields vs ∧ vs[1]? = some (.str qual t)
  mono _ _ _ _ h := h
  nt _ o h vs n e := by obtain ⟨vs', t, h1, _⟩ := h; rw [e] at h1; cases h1
theorem Rep.codeRec {base os₀ hid stk σ} {s : Shared} (R : Rep base os₀ hid stk σ s) {c : Addr} {qual : Str} (h : σ c = some (.own (codeR qual))) : s.heap.CodeRec (.ref c) qual := by
  obtain ⟨_, o, h1, vs, t, h2, h3⟩ := R.heap _ _ h
  exact ⟨c, o, vs, t, rfl, h1, h2, h3⟩

/-- a table grown, a code object and a function made -/
theorem Rep.made {base os₀ hid stk σ} {s : Shared} (R : Rep base os₀ hid stk σ s) {P c' : Addr} {t t' fo : Obj} {h' : Heap} {tk : Nat} {qual : Str} (hP : σ P = some (.raw t)) (hx : Heap.ExtBut P s.heap h') (hge : s.heap.objs.size ≤ c') (hlt : c' < h'.objs.size)
    (hrec : h'.CodeRec (.ref c') qual) (htb : h'.get? P = some t') (ht' : t'.cls ≠ .type "tuple") (hf : fo.cls ≠ .type "tuple") (hff : fo.isFreed = false) (htk : s.toks ≤ tk) :
    Rep base os₀ hid stk (((σ.set P (.raw t')).set c' (.own (codeR qual))).set h'.objs.size (.raw fo)) { s with heap := h'.push fo, toks := tk } := by
  obtain ⟨hb, hp, hc⟩ := R.heap _ _ hP
  have hPlt := Heap.lt_size hp
  have R1 := R.put (s' := { s with heap := h', toks := tk }) (a := P) (o := .raw t') (fun b ob hb e => hx b ob hb e) (fun vs ⟨n, e⟩ => by rw [hp] at e; cases e; exact hc rfl) hb (R.hid_ne hP) (R.stk_ne hP) ⟨hb, htb, ht'⟩ rfl rfl htk
  have hbc : base.get? c' = none := by
    cases q : base.get? c' with
    | none => rfl
    | some o => exact absurd (Heap.lt_size (R.stays _ _ q)) (Nat.not_lt.mpr hge)
  obtain ⟨c2, o, vs, t2, e0, e1, e2, e3⟩ := hrec
  cases e0
  have R2 := R1.put (s' := { s with heap := h', toks := tk }) (a := c') (o := .own (codeR qual)) (fun b ob _ e => e) (fun vs ⟨n, e⟩ => by rw [e1] at e; cases e; cases e2) hbc
    (fun p hp q => absurd (Heap.lt_size (R.hid p hp).1) (by rw [q]; exact Nat.not_lt.mpr hge)) (fun f hf q => absurd (R.frames f hf).1.lt (by rw [q]; exact Nat.not_lt.mpr hge)) ⟨hbc, o, e1, vs, t2, e2, e3⟩ rfl rfl
  exact R2.alloc (ob := fo) (o := .raw fo) ⟨R2.fresh_base, Heap.get?_push_size _ hff, hf⟩

/-- what making a function asks of the base -/
structure Maker (G : Gx) (c P : Addr) : Prop where
  code : CodeHd G.base c P
  bm : G.base.BuiltinsAt G.mg P
  ne : mainGlobals ≠ P

section
variable {c : Cx} {μ : Locals} {σ : AHeap}
theorem E_Lambda {params : Arguments} {body : Expr} {scope : Scope} {pos : Pos} {c0 P : Addr} {ps : Array Value} {clos : List (Str × Addr)} {Q : PV → St → Prop}
    (hG : Gd c.toGx) (hcode : c.env.code = .ref c0) (C : Maker c.toGx c0 P) (hP : σ P = some (.raw (tabObj ps))) (ht : TriplesOk ps.toList) (hnf : codeAmong pos ps.toList = none)
    (hdef : defaultsOf params c.env = ([], [])) (hcl : closureFor scope c.env = pure clos)
    (h : ∀ f c' ctv, σ f = none → σ c' = none → f ≠ P → c' ≠ P → f ≠ c' → Q (.ref f) (μ, (((σ.set P (.raw (tabObj (ps ++ #[rawInt pos.line, rawInt pos.col, .ref c'])))).set c' (.own (codeR (c.env.qual ++ "<lambda>")))).set f
      (.raw (kla_obj "<lambda>" (c.env.qual ++ "<lambda>") params body scope clos ((c.mg "__name__").getD .none) c' ctv))))) :
    WE c (.Lambda params body scope pos)  Q (μ, σ) := fun hid stk s ok R => by
  refine kla_eval hdef ?_
  obtain ⟨hb, hp, hc⟩ := R.heap _ _ hP
  have hPlt := Heap.lt_size hp
  refine wpAny_mono (wpAny_toks (Q := fun v s' => ∃ c' ctv h' tk, Heap.ExtBut P s.heap h' ∧ s.heap.objs.size ≤ c' ∧ c' < h'.objs.size ∧ h'.CodeRec (.ref c') (c.env.qual ++ "<lambda>") ∧ h'.get? P = some (tabObj (ps ++ #[rawInt pos.line, rawInt pos.col, .ref c'])) ∧ v = .ref h'.objs.size ∧
      s' = { s with heap := h'.push (kla_obj "<lambda>" (c.env.qual ++ "<lambda>") params body scope clos ((c.mg "__name__").getD .none) c' ctv), toks := tk }) (E := fun _ _ => False)
    (kla_makeFunction (mg := c.mg) hcl ok.globals (hG.g.keeps R.stays) hcode (C.code.keeps R.stays) hp ht hnf C.ne ?_ fun c' ctv h' tk a1 a2 a3 a4 a5 => ⟨c', ctv, h', tk, a1, a2, a3, a4, a5, rfl, rfl⟩)) ?_ fun _ _ x => x.1.elim
  · obtain ⟨bm, o, b1, b2, b3, b4, b5, b6⟩ := C.bm
    exact ⟨bm, o, b1, b2, b3, b4, R.stays _ _ b5, b6⟩
  · rintro v s' ⟨⟨c', ctv, h', tk, a1, a2, a3, a4, a5, rfl, rfl⟩, htk⟩
    have hfσ : ∀ b, s.heap.objs.size ≤ b → σ b = none := fun b hb => by
      cases q : σ b with
      | none => rfl
      | some ob => exact absurd (R.heap b ob q).lt (Nat.not_lt.mpr hb)
    have hsz : s.heap.objs.size ≤ h'.objs.size := Nat.le_trans a2 (Nat.le_of_lt a3)
    refine ⟨.ref h'.objs.size, _, R.made hP a1 a2 a3 a4 a5 (by show Value.none ≠ Value.type "tuple"; decide) (by show Value.type "function" ≠ Value.type "tuple"; decide) rfl htk, rfl, ?_, h _ c' ctv (hfσ _ hsz) (hfσ _ a2) (fun e => ?_) (fun e => ?_) (Nat.ne_of_gt a3)⟩
    · intro b vs ⟨n, e⟩
      exact ⟨n, Heap.get?_push_of_some _ (a1 b _ (fun q => by rw [q, hp] at e; cases e) e)⟩
    · exact absurd (e ▸ hsz) (Nat.not_le.mpr hPlt)
    · exact absurd (e ▸ a2) (Nat.not_le.mpr hPlt)
end
end Mine
end
section
open PySem PySem.W PyProof.Rows
set_option Elab.async false
set_option linter.unusedVariables false
set_option maxRecDepth 10000
namespace Mine

/-- the code object of a class statement -/
theorem wp_classCode {M : Model} {A : Around} {E : Value → Shared → Prop} {s : Shared} {env : Env} {c P : Addr} {ps : Array Value} {pos : Pos} {firstLine : Nat} {name qual : Str} {scope : Scope} {Q : Value → Shared → Prop}
    (hc : env.code = .ref c) (C : CodeHd s.heap c P) (hP : s.heap.get? P = some (tabObj ps)) (ht : TriplesOk ps.toList) (hnf : codeAmong pos ps.toList = none)
    (hQ : ∀ c' P' h' tk, Heap.ExtBut P s.heap h' → s.heap.objs.size ≤ c' → s.heap.objs.size ≤ P' → c' < h'.objs.size → P' < h'.objs.size → h'.CodeRec (.ref c') qual → CodeHd h' c' P' → h'.get? P' = some (tabObj #[]) →
      h'.get? P = some (tabObj (ps ++ #[rawInt pos.line, rawInt pos.col, .ref c'])) → Q (.ref c') { s with heap := h', toks := tk }) :
    wpAny M A (classCode env pos firstLine name qual scope) Q E s := by
  obtain ⟨o, vs, file, tf, flags, tg, inF, text, tt, ho, hcls, hd, h11', h11, h2, h7, h9, h10, hne⟩ := id C
  unfold classCode codeAt
  rw [hc, if_neg (show ¬ ((Value.ref c == Value.none) = true) from Bool.false_ne_true)]
  refine wpAny_bind (wpAny_fieldsOf ho hd ?_)
  rw [h11]
  refine wpAny_bind (wpAny_fieldsOf hP rfl ?_)
  rw [hnf, h2, h7, h9, h10]
  refine wpAny_bind (wpAny_newCodeX fun c' P' h' tk hk hc' hP' hcode' htab' hrec' => ?_)
  have hop' := hk _ _ hP
  refine wpAny_bind (wpAny_updateFieldsOfTheText hop' rfl ?_)
  have hnew : (Obj.mapFields (fun vs => if (codeAmong pos vs.toList).isSome = true then vs else vs ++ #[rawInt pos.line, rawInt pos.col, .ref c']) (tabObj ps)) = tabObj (ps ++ #[rawInt pos.line, rawInt pos.col, .ref c']) := by
    simp only [Obj.mapFields, hnf]; rfl
  have hget := Heap.get?_update_self (h := h') (fun o => Obj.mapFields (fun vs => if (codeAmong pos vs.toList).isSome = true then vs else
    vs ++ #[rawInt pos.line, rawInt pos.col, .ref c']) o) hop' (by rw [hnew]; rfl)
  rw [hnew] at hget
  refine wpAny_bind (wpAny_fieldsOf hget rfl ?_)
  have hl : (ps ++ #[rawInt pos.line, rawInt pos.col, Value.ref c']).toList = ps.toList ++ [rawInt pos.line, rawInt pos.col, .ref c'] := by simp
  rw [hl, codeAmong_snoc _ ht hnf]
  have hPlt := Heap.lt_size hP
  have hcP : c' ≠ P := Nat.ne_of_gt (Nat.lt_of_lt_of_le hPlt hc')
  have hP'P : P' ≠ P := Nat.ne_of_gt (Nat.lt_of_lt_of_le hPlt hP')
  have C' := CodeHd.of hcode' htab'
  obtain ⟨o1, v1, f1, t1, g1, u1, i1, x1, y1, k1, k2, k3, k4, k5, k6, k7, k8, k9, k10⟩ := id C'
  obtain ⟨c2, o2, v2, t2, e2, g2, r2⟩ := hrec'
  cases e2
  have hup : ∀ b ob, b ≠ P → h'.get? b = some ob → (h'.update P (Obj.mapFields fun vs => if (codeAmong pos vs.toList).isSome = true then vs else vs ++ #[rawInt pos.line, rawInt pos.col, .ref c'])).get? b = some ob :=
    fun b ob hb e => (Heap.SameBut.update ..).extBut b ob hb e
  exact wpAny_pure (hQ c' P' _ tk (fun b o' hb e => hup b o' hb (hk b o' e)) hc' hP' (by rw [Heap.size_after_update]; exact Heap.lt_size k1) (by rw [Heap.size_after_update]; exact Heap.lt_size htab'.2)
    ⟨c', o2, v2, t2, rfl, hup _ _ hcP g2, r2⟩ ⟨o1, v1, f1, t1, g1, u1, i1, x1, y1, hup _ _ hcP k1, k2, k3, k4, k5, k6, k7, k8, k9, k10⟩ (hup _ _ hP'P htab'.2) hget)
end Mine
end
section
open PySem PySem.W
set_option Elab.async false
set_option maxRecDepth 100000
namespace Mine
def stAt (i : Nat) : Stmt := PySem.Challenge.rw_dn0048_03.row.prog.main.body.getD i (.Pass default)
/-- the record of a def of the text -/
def mkFd (i : Nat) (dfl kwd pm code : Value) : FuncData := match stAt i with
  | .FunctionDef name args body _ _ _ scope _ _ _ => { name := name, qualname := name, params := args, body := .stmts body, scope := scope, globals := 3, closure := [], defaults := dfl, kwdefaults := kwd, doc := .none, pyModule := pm, annotations := none, code := code, closureTuple := .none, builtins := 0 }
  | _ => default
def fdAt : Nat → FuncData
  | 21 => mkFd 1 (.none) (.none) (.str (Str.ofString "cpy313.heapq") 187) (.ref 20)
  | 28 => mkFd 2 (.none) (.none) (.str (Str.ofString "cpy313.heapq") 187) (.ref 27)
  | 35 => mkFd 3 (.none) (.none) (.str (Str.ofString "cpy313.heapq") 187) (.ref 34)
  | 42 => mkFd 4 (.none) (.none) (.str (Str.ofString "cpy313.heapq") 187) (.ref 41)
  | 51 => mkFd 6 (.ref 43) (.ref 44) (.str (Str.ofString "cpy313.bisect") 230) (.ref 50)
  | 60 => mkFd 7 (.ref 52) (.ref 53) (.str (Str.ofString "cpy313.bisect") 230) (.ref 59)
  | 67 => mkFd 9 (.none) (.none) (.str (Str.ofString "cpy313.functools") 259) (.ref 66)
  | 72 => mkFd 11 (.none) (.none) (.str (Str.ofString "law_dn0048_03") 270) (.ref 71)
  | 77 => mkFd 12 (.none) (.none) (.str (Str.ofString "law_dn0048_03") 270) (.ref 76)
  | 82 => mkFd 13 (.none) (.none) (.str (Str.ofString "law_dn0048_03") 270) (.ref 81)
  | 87 => mkFd 14 (.none) (.none) (.str (Str.ofString "law_dn0048_03") 270) (.ref 86)
  | _ => default
def obAt : Nat → Obj
  | 43 => { cls := .type "tuple", data := .seq #[.int 0 232, .none] }
  | 52 => { cls := .type "tuple", data := .seq #[.int 0 245, .none] }
  | a => { cls := .type "function", data := .func (fdAt a) }
def bdAt (a : Nat) : List Stmt := match (fdAt a).body with | .stmts l => l | _ => []
def esW (p : Params) : Array DictEntry := #[⟨PyData.keyHash p (Str.ofString "__name__"), .str (Str.ofString "__name__") 165, .str (Str.ofString "law_dn0048_03") 270⟩,
  ⟨PyData.keyHash p (Str.ofString "__doc__"), .str (Str.ofString "__doc__") 166, .none⟩,
  ⟨PyData.keyHash p (Str.ofString "__package__"), .str (Str.ofString "__package__") 167, .none⟩,
  ⟨PyData.keyHash p (Str.ofString "__loader__"), .str (Str.ofString "__loader__") 168, .builtin "__main__.__loader__#opaque"⟩,
  ⟨PyData.keyHash p (Str.ofString "__spec__"), .str (Str.ofString "__spec__") 169, .none⟩,
  ⟨PyData.keyHash p (Str.ofString "__annotations__"), .str (Str.ofString "__annotations__") 170, .ref 6⟩,
  ⟨PyData.keyHash p (Str.ofString "__builtins__"), .str (Str.ofString "__builtins__") 171, .ref 4⟩,
  ⟨PyData.keyHash p (Str.ofString "__file__"), .str (Str.ofString "__file__") 173, .str (Str.ofString "/claim/cut.py") 172⟩,
  ⟨PyData.keyHash p (Str.ofString "__cached__"), .str (Str.ofString "__cached__") 174, .none⟩,
  ⟨PyData.keyHash p (Str.ofString "heappush"), .str (Str.ofString "heappush") 196, .ref 21⟩,
  ⟨PyData.keyHash p (Str.ofString "heappushpop"), .str (Str.ofString "heappushpop") 204, .ref 28⟩,
  ⟨PyData.keyHash p (Str.ofString "_siftdown"), .str (Str.ofString "_siftdown") 216, .ref 35⟩,
  ⟨PyData.keyHash p (Str.ofString "_siftup"), .str (Str.ofString "_siftup") 229, .ref 42⟩,
  ⟨PyData.keyHash p (Str.ofString "insort_right"), .str (Str.ofString "insort_right") 244, .ref 51⟩,
  ⟨PyData.keyHash p (Str.ofString "bisect_right"), .str (Str.ofString "bisect_right") 258, .ref 60⟩,
  ⟨PyData.keyHash p (Str.ofString "cmp_to_key"), .str (Str.ofString "cmp_to_key") 269, .ref 67⟩,
  ⟨PyData.keyHash p (Str.ofString "_law_kept"), .str (Str.ofString "_law_kept") 277, .ref 72⟩,
  ⟨PyData.keyHash p (Str.ofString "_law_in_time"), .str (Str.ofString "_law_in_time") 283, .ref 77⟩,
  ⟨PyData.keyHash p (Str.ofString "_law_least"), .str (Str.ofString "_law_least") 289, .ref 82⟩,
  ⟨PyData.keyHash p (Str.ofString "law"), .str (Str.ofString "law") 295, .ref 87⟩]
def mgW (p : Params) (x : Str) : Option Value := nsFind (esW p) x
end Mine
end
section
open PySem PySem.W PyProof.Rows
set_option Elab.async false
set_option linter.unusedVariables false
set_option maxRecDepth 10000
namespace Mine

/-! a dict whose keys are names, by its names and values -/
def EsAre : List DictEntry → List (Str × Value) → Prop
  | [], l => l = []
  | e :: es, l => ∃ n v t r, l = (n, v) :: r ∧ e.key = .str n t ∧ e.val = v ∧ EsAre es r
def putN (n : Str) (v : Value) : List (Str × Value) → List (Str × Value)
  | [] => [(n, v)]
  | (m, w) :: r => if m = n then (m, v) :: r else (m, w) :: putN n v r
def dropN (n : Str) : List (Str × Value) → List (Str × Value)
  | [] => []
  | (m, w) :: r => if m = n then r else (m, w) :: dropN n r
def DictAt (h : Heap) (a : Addr) (l : List (Str × Value)) : Prop := ∃ es n, h.get? a = some { cls := .type "dict", dict := none, data := .dict es n, slots := #[] } ∧ EsAre es.toList l

theorem EsAre.isStr {n m : Str} {t : Tok} : (Value.str m t).isStrByCps n.cps.size n.cps.toList = decide (m = n) := by
  rw [Value.isStrByCps_eq]
  show (m == n) = _
  by_cases h : m = n
  · simp [h]
  · simp [h]
theorem EsAre.find {n : Str} : ∀ {es l}, EsAre es l → ∀ b, nsNameIn n.cps.size n.cps.toList es b = match l.lookup n with
    | some v => (nsNameIn n.cps.size n.cps.toList es false |>.1, b)
    | none => (none, b)
  | [], l, h, b => by rw [show l = [] from h]; rfl
  | e :: es, l, ⟨m, v, t, r, h1, h2, h3, h4⟩, b => by
    subst h1
    unfold nsNameIn
    rw [h2, EsAre.isStr, List.lookup_cons]
    have hr : e.refKey = false := by unfold DictEntry.refKey; rw [h2]
    by_cases hm : m = n
    · subst hm; simp
    · have hb : (n == m) = false := beq_eq_false_iff_ne.mpr (Ne.symm hm)
      simp only [hm, decide_false, Bool.false_eq_true, if_false, hb, hr, Bool.or_false]
      rw [h4.find b]
theorem EsAre.val {n : Str} {v : Value} : ∀ {es l}, EsAre es l → l.lookup n = some v → ∃ e, (nsNameIn n.cps.size n.cps.toList es false).1 = some e ∧ e.val = v
  | [], l, h, e => by rw [show l = [] from h] at e; cases e
  | e :: es, l, ⟨m, w, t, r, h1, h2, h3, h4⟩, q => by
    subst h1
    unfold nsNameIn
    rw [h2, EsAre.isStr]
    rw [List.lookup_cons] at q
    have hr : e.refKey = false := by unfold DictEntry.refKey; rw [h2]
    by_cases hm : m = n
    · subst hm; simp at q; subst q; simp; exact h3
    · have hb : (n == m) = false := beq_eq_false_iff_ne.mpr (Ne.symm hm)
      simp only [hb] at q
      simp only [hm, decide_false, Bool.false_eq_true, if_false, hr, Bool.or_false]
      exact h4.val q
theorem EsAre.look {n : Str} {es l} (h : EsAre es l) {c d ep sl} : nsLook n ⟨c, d, .dict es.toArray ep, sl⟩ = pure (l.lookup n) := by
  unfold nsLook
  simp only
  rw [h.find false]
  cases q : l.lookup n with
  | none => rfl
  | some v => obtain ⟨e, h1, h2⟩ := h.val q; simp only [h1]; rw [h2]
theorem EsAre.put {n : Str} {v : Value} {t : Tok} {hh : Int} {f : Option DictEntry → DictEntry} (f0 : f none = ⟨hh, .str n t, v⟩) (f1 : ∀ e, f (some e) = { e with val := v }) : ∀ {es l}, EsAre es l → EsAre (nsPutIn n.cps.size n.cps.toList f es).1 (putN n v l)
  | [], l, h => by rw [show l = [] from h]; exact ⟨n, v, t, [], rfl, by rw [f0], by rw [f0], rfl⟩
  | e :: es, l, ⟨m, w, t', r, h1, h2, h3, h4⟩ => by
    subst h1
    unfold nsPutIn putN
    rw [h2, EsAre.isStr]
    by_cases hm : m = n
    · simp only [hm, decide_true, if_true]; exact ⟨n, v, t', r, rfl, by rw [f1]; simp only; rw [h2, hm], by rw [f1], h4⟩
    · simp only [hm, decide_false, Bool.false_eq_true, if_false]
      exact ⟨m, w, t', _, rfl, h2, h3, EsAre.put f0 f1 h4⟩
theorem EsAre.drop {n : Str} : ∀ {es l}, EsAre es l → (l.lookup n).isSome = true → ∃ es', nsDropIn n.cps.size n.cps.toList es = some es' ∧ EsAre es' (dropN n l)
  | [], l, h, e => by rw [show l = [] from h] at e; cases e
  | e :: es, l, ⟨m, w, t', r, h1, h2, h3, h4⟩, q => by
    subst h1
    unfold nsDropIn dropN
    rw [h2, EsAre.isStr]
    rw [List.lookup_cons] at q
    by_cases hm : m = n
    · simp only [hm, decide_true, if_true]; exact ⟨es, rfl, h4⟩
    · have hb : (n == m) = false := beq_eq_false_iff_ne.mpr (Ne.symm hm)
      simp only [hb] at q
      obtain ⟨es', h5, h6⟩ := h4.drop q
      simp only [hm, decide_false, Bool.false_eq_true, if_false, h5]
      exact ⟨_, rfl, m, w, t', _, rfl, h2, h3, h6⟩
theorem EsAre.length : ∀ {es l}, EsAre es l → es.length = l.length
  | [], l, h => by rw [show l = [] from h]; rfl
  | e :: es, l, ⟨m, w, t', r, h1, h2, h3, h4⟩ => by subst h1; simp [h4.length]

section
variable {M : Model} {A : Around} {E : Value → Shared → Prop} {s : Shared} {a : Addr} {l : List (Str × Value)} {name : Str} {v : Value}
theorem dn_get {Q : Option Value → Shared → Prop} {r : Option Value} (hd : DictAt s.heap a l) (hr : l.lookup name = r) (h : Q r s) : wpAny M A (nsGet a name) Q E s := by
  obtain ⟨es, n, h1, h2⟩ := hd
  refine wpAny_bind (wpAny_loadPart h1 ?_)
  have e := EsAre.look (n := name) h2 (c := .type "dict") (d := none) (ep := n) (sl := #[])
  rw [Array.toArray_toList] at e
  rw [e, hr]
  exact wpAny_pure h
theorem dn_set {Q : Unit → Shared → Prop} (hd : DictAt s.heap a l) (h : ∀ h', DictAt h' a (putN name v l) → Heap.SameBut a s.heap h' → Q () { s with heap := h', toks := s.toks + 1 }) : wpAny M A (nsSet a name v) Q E s := by
  obtain ⟨es, n, h1, h2⟩ := hd
  unfold nsSet strHash
  refine wpAny_bind (wpAny_bind (nd_ask (wpAny_pure (wpAny_pure (wpAny_bind (wpAny_mkText (wpAny_bind (wpAny_loadPart h1 ?_))))))))
  have hf : aRefKeyMayBeTheName name es = false := by
    unfold aRefKeyMayBeTheName
    rw [h2.find false]
    cases q : l.lookup name with
    | none => rfl
    | some v => obtain ⟨e, h1, h2⟩ := h2.val q; simp only [h1]
  simp only [hf, Bool.false_eq_true, if_false]
  refine wpAny_updatePart h1 (h _ ?_ (Heap.SameBut.update ..))
  obtain ⟨es', b, e⟩ : ∃ es' b, Obj.putName name (if name.cps.isEmpty = true then 0 else reduceHash (M.w.params.strHash name.cps)) (.str name s.toks) v { cls := .type "dict", dict := none, data := .dict es n, slots := #[] } = { cls := .type "dict", dict := none, data := .dict es' b, slots := #[] } ∧ EsAre es'.toList (putN name v l) := by
    have z := EsAre.put (n := name) (v := v) (t := s.toks) (hh := if name.cps.isEmpty = true then 0 else reduceHash (M.w.params.strHash name.cps)) (f := fun | some e => { e with val := v } | none => ⟨_, .str name s.toks, v⟩) rfl (fun _ => rfl) h2
    unfold Obj.putName
    simp only
    revert z
    generalize nsPutIn name.cps.size name.cps.toList _ es.toList = x
    intro z
    obtain ⟨x1, x2⟩ := x
    cases x2
    · exact ⟨_, _, rfl, z⟩
    · exact ⟨_, _, rfl, z⟩
  refine ⟨es', b, ?_, e.2⟩
  rw [Heap.get?_update_self _ h1 (by rw [e.1]; rfl), e.1]
theorem dn_setV {Q : Unit → Shared → Prop} (hd : DictAt s.heap a l) (hz : l.length ≤ 100) (h : ∀ h', DictAt h' a (putN name v l) → Heap.SameBut a s.heap h' → Q () { s with heap := h', toks := s.toks + 1 }) : wpAny M A (nsSetByValue a name v) Q E s := by
  obtain ⟨es, n, h1, h2⟩ := id hd
  unfold nsSetByValue
  refine wpAny_bind (wpAny_loadPart h1 ?_)
  have : ¬ (es.size > sizeLine) := by
    have e := h2.length
    rw [Array.length_toList] at e
    rw [e]
    exact Nat.not_lt.mpr (Nat.le_trans hz (by decide))
  simp only [this, decide_false, Bool.false_and, Bool.false_eq_true, if_false]
  exact dn_set hd h
theorem dn_del {Q : Bool → Shared → Prop} (hd : DictAt s.heap a l) (hs : (l.lookup name).isSome = true) (h : ∀ h', DictAt h' a (dropN name l) → Heap.SameBut a s.heap h' → Q true { s with heap := h' }) : wpAny M A (nsDel a name) Q E s := by
  obtain ⟨es, n, h1, h2⟩ := id hd
  unfold nsDel
  obtain ⟨v, hv⟩ := Option.isSome_iff_exists.mp hs
  obtain ⟨e, e1, e2⟩ := h2.val hv
  obtain ⟨es', d1, d2⟩ := h2.drop hs
  have hh : nsHas name { cls := .type "dict", dict := none, data := .dict es n, slots := #[] } = pure true := by
    unfold nsHas
    simp only
    rw [h2.find false, hv]
    simp only [e1]
  refine wpAny_bind (wpAny_loadPart h1 ?_)
  rw [hh]
  refine wpAny_bind (wpAny_pure ?_)
  rw [if_pos rfl]
  refine wpAny_bind (wpAny_updatePart h1 (wpAny_pure (h _ ?_ (Heap.SameBut.update ..))))
  have hdr : Obj.dropName name { cls := .type "dict", dict := none, data := .dict es n, slots := #[] } = { cls := .type "dict", dict := none, data := .dict es'.toArray (n + 1), slots := #[] } := by
    unfold Obj.dropName
    simp only [d1]
  refine ⟨es'.toArray, n + 1, ?_, by simpa using d2⟩
  rw [Heap.get?_update_self _ h1 (by rw [hdr]; rfl), hdr]
theorem DictAt.same {h h' : Heap} (hd : DictAt h a l) (hk : ∀ ob, h.get? a = some ob → h'.get? a = some ob) : DictAt h' a l := by
  obtain ⟨es, n, h1, h2⟩ := hd
  exact ⟨es, n, hk _ h1, h2⟩
end
end Mine
end
section
open PySem PySem.W PyProof.Rows
set_option Elab.async false
set_option linter.unusedVariables false
set_option maxRecDepth 100000
namespace Mine
open PySem.Builtin
section
variable {α β : Type} {M : Model} {A : Around} {Q : α → Shared → Prop} {E : Value → Shared → Prop} {s : Shared}
theorem w_ff {c : Prop} [Decidable c] {a b : Sem α} (hc : ¬ c) (h : wpAny M A b Q E s) : wpAny M A (if c then a else b) Q E s := by rw [if_neg hc]; exact h
theorem w_tt {c : Prop} [Decidable c] {a b : Sem α} (hc : c) (h : wpAny M A a Q E s) : wpAny M A (if c then a else b) Q E s := by rw [if_pos hc]; exact h
theorem w_eq {t : Sem α} {v : α} (e : t = pure v) (h : Q v s) : wpAny M A t Q E s := by rw [e]; exact wpAny_pure h
theorem w_of {t t' : Sem α} (e : t = t') (h : wpAny M A t' Q E s) : wpAny M A t Q E s := by rw [e]; exact h
theorem w_for {γ : Type} {x : γ} {xs : List γ} {b : β} {f : γ → β → Sem (ForInStep β)} {Q : β → Shared → Prop} (h : wpAny M A (f x b) (fun r s' => match r with | .done b => Q b s' | .yield b => wpAny M A (forIn xs b f) Q E s') E s) : wpAny M A (forIn (x :: xs) b f) Q E s := by
  rw [List.forIn_cons]
  refine wpAny_bind (wpAny_mono h (fun r s' q => ?_) fun _ _ y => y)
  cases r with
  | done b => exact wpAny_pure q
  | yield b => exact q
theorem w_for1 {γ : Type} {x : γ} {b : β} {f : γ → β → Sem (ForInStep β)} {Q : β → Shared → Prop} (h : wpAny M A (f x b) (fun r s' => match r with | .done b => Q b s' | .yield b => Q b s') E s) : wpAny M A (forIn [x] b f) Q E s :=
  w_for (wpAny_mono h (fun r s' q => by
    cases r with
    | done b => exact q
    | yield b => show wpAny M A (forIn [] b f) Q E s'; rw [List.forIn_nil]; exact wpAny_pure q) fun _ _ y => y)
theorem w_forA1 {γ : Type} {x : γ} {b : β} {f : γ → β → Sem (ForInStep β)} {Q : β → Shared → Prop} (h : wpAny M A (f x b) (fun r s' => match r with | .done b => Q b s' | .yield b => Q b s') E s) : wpAny M A (forIn #[x] b f) Q E s := by
  rw [← Array.forIn_toList]; exact w_for1 h
theorem w_setSlot {a : Addr} {i : Nat} {v : Option Value} {o : Obj} {Q : Unit → Shared → Prop} (ho : s.heap.get? a = some o) (hi : ¬ (i ≥ sizeLine)) (h : Q () { s with heap := s.heap.update a fun o => { o with slots := (o.slots ++ Array.replicate (i + 1 - o.slots.size) none).setIfInBounds i v } }) :
    wpAny M A (setSlotAt a i v) Q E s := by
  unfold setSlotAt
  exact w_ff hi (wpAny_updatePart ho h)
theorem w_typeOf {a : Addr} {o : Obj} {Q : Value → Shared → Prop} (ho : s.heap.get? a = some o) (h : Q o.cls s) : wpAny M A (typeOf (.ref a)) Q E s := wpAny_bind (wpAny_loadPart ho (wpAny_pure h))
theorem w_isInst {a : Addr} {o : Obj} {T : Value} {b : Bool} {Q : Bool → Shared → Prop} (ho : s.heap.get? a = some o) (hs : isSubtype o.cls T = pure b) (h : Q b s) : wpAny M A (isInstance (.ref a) T) Q E s := wpAny_bind (w_typeOf ho (w_eq hs h))
theorem w_updateCls {a : Addr} {f : ClassData → ClassData} {c : Value} {d : Option Addr} {cd : ClassData} {sl : Array (Option Value)} {Q : Unit → Shared → Prop} (ho : s.heap.get? a = some ⟨c, d, .cls cd, sl⟩) (hp : (Data.cls (f cd)).pastItsLine = none) (h : Q () { s with heap := s.heap.update a (Obj.mapCls f) }) :
    wpAny M A (updateCls a f) Q E s := by
  unfold updateCls
  refine wpAny_bind (wpAny_load ho ?_)
  exact wpAny_bind (wpAny_update ho (wpAny_lookBehind (o := Obj.mapCls f ⟨c, d, .cls cd, sl⟩) (Heap.get?_update_self _ ho rfl) hp h))
theorem w_classData {a : Addr} {c : Value} {d : Option Addr} {cd : ClassData} {sl : Array (Option Value)} {Q : ClassData → Shared → Prop} (ho : s.heap.get? a = some ⟨c, d, .cls cd, sl⟩) (h : Q cd s) : wpAny M A (classData a) Q E s := by
  unfold classData
  exact wpAny_bind (wpAny_load ho (wpAny_pure h))
end

/-- nothing that stood has changed -/
structure Grew (s s' : Shared) : Prop where
  keep : ∀ b ob, s.heap.get? b = some ob → s'.heap.get? b = some ob
  g : s'.gens = s.gens
  dr : s'.drawn = s.drawn
  os : s'.os = s.os
  tk : s.toks ≤ s'.toks
theorem Grew.trans {a b c : Shared} (x : Grew a b) (y : Grew b c) : Grew a c := ⟨fun _ _ e => y.keep _ _ (x.keep _ _ e), y.g.trans x.g, y.dr.trans x.dr, y.os.trans x.os, Nat.le_trans x.tk y.tk⟩
theorem Grew.fresh {s s' : Shared} (g : Grew s s') : s.heap.get? s'.heap.objs.size = none := by
  cases q : s.heap.get? s'.heap.objs.size with
  | none => rfl
  | some o => exact absurd (Heap.lt_size (g.keep _ _ q)) (Nat.lt_irrefl _)
theorem ne_new {h : Heap} {a b : Addr} {o : Obj} (ha : h.get? a = none) (hb : h.get? b = some o) : b ≠ a := fun e => by rw [e, ha] at hb; cases hb
theorem Grew.heap {s : Shared} {h : Heap} (k : ∀ b ob, s.heap.get? b = some ob → h.get? b = some ob) : Grew s { s with heap := h } := ⟨k, rfl, rfl, rfl, Nat.le_refl _⟩
theorem Grew.tok {s : Shared} {t : Nat} (h : s.toks ≤ t) : Grew s { s with toks := t } := ⟨fun _ _ e => e, rfl, rfl, rfl, h⟩
section
variable {M : Model} {A : Around} {E : Value → Shared → Prop} {s : Shared}
theorem w_new {T : String} {data : Data} {Q : Value → Shared → Prop} (hd : sizeOk data) (hf : ({ cls := .type T, data := data } : Obj).isFreed = false) (h : ∀ a s', Grew s s' → s'.heap.get? a = some { cls := .type T, data := data } → a = s.heap.objs.size → Q (.ref a) s') : wpAny M A (newObj (.type T) data) Q E s :=
  wpAny_newObj_type (h _ _ (.heap fun _ _ e => Heap.get?_push_of_some _ e) (Heap.get?_push_size _ hf) rfl) hd
theorem w_alloc {o : Obj} {Q : Addr → Shared → Prop} (hf : o.isFreed = false) (h : ∀ a s', Grew s s' → s'.heap.get? a = some o → a = s.heap.objs.size → Q a s') : wpAny M A (alloc o) Q E s :=
  wpAny_alloc (h _ _ (.heap fun _ _ e => Heap.get?_push_of_some _ e) (Heap.get?_push_size _ hf) rfl)
theorem w_text {x : Str} {Q : Value → Shared → Prop} (h : ∀ t s', Grew s s' → Q (.str x t) s') : wpAny M A (mkText x) Q E s := wpAny_mkText (h _ _ (.tok (Nat.le_succ _)))
end

theorem tn_check (n : Str) (t : Tok) (b ns : Addr) : checkBuiltinCall "type.__new__" ⟨[.type "type", .str n t, .ref b, .ref ns], []⟩ = pure () := by kernel_rfl
theorem tn_entry : entryFor table "type.__new__" = some Builtin.«type.__new__» := entryFor_of_tree (by kernel_rfl)
theorem tn_quiet : plainId "type.__new__" = true := by decide +kernel
theorem tn_turned : notOverATurnedClass [.type "object"] = pure () := by kernel_rfl
theorem tn_ext : extendedBase [.type "object"] = pure (.type "object") := by kernel_rfl
theorem tn_iter : typeLookup (.type "dict") "__iter__" = pure (some (.builtin "dict.__iter__")) := by kernel_rfl
theorem tn_best : Slots.bestBase [.type "object"] = pure (.type "object") := by kernel_rfl
theorem tn_names : Slots.slotNamesOf (.type "object") = pure [] := by kernel_rfl
theorem tn_gd : Slots.givesDict (.type "object") = pure false := by kernel_rfl
theorem tn_gw : Slots.givesWeak (.type "object") = pure false := by kernel_rfl
theorem tn_var : Slots.varSize (.type "object") = pure false := by kernel_rfl
theorem tn_hook : mroHook? (.type "type") = pure none := by kernel_rfl
theorem tn_lin : linearize [.type "object"] mroOf = pure [.type "object"] := by kernel_rfl
theorem tn_made : Bind.madeBy (.type "object") = pure (some "object.__new__") := by kernel_rfl
theorem tn_sub : isSubtype (.type "type") (.type "type") = pure true := by kernel_rfl
theorem tn_subT : isSubtype (.type "tuple") (.type "tuple") = pure true := by kernel_rfl
theorem tn_subD : isSubtype (.type "dict") (.type "dict") = pure true := by kernel_rfl
theorem sn_none : ∀ T ∈ (["function", "list", "tuple", "str", "int", "NoneType", "member_descriptor"] : List String), typeLookup (.type T) "__set_name__" = pure none := by
  intro T hT
  simp only [List.mem_cons, List.not_mem_nil, or_false] at hT
  rcases hT with rfl | rfl | rfl | rfl | rfl | rfl | rfl <;> kernel_rfl

/-- where a dict's entries have a name -/
theorem EsAre.findE {n : Str} {v : Value} {es : Array DictEntry} {l} (h : EsAre es.toList l) (e : l.lookup n = some v) : ∃ e, es.find? (·.key.isStr n) = some e ∧ e.val = v := by
  obtain ⟨x, h1, h2⟩ := h.val e
  exact ⟨x, by rw [← nsNameIn_fst]; exact h1, h2⟩
theorem EsAre.anyE {n : Str} {es : Array DictEntry} {l} (h : EsAre es.toList l) : es.any (·.key.isStr n) = (l.lookup n).isSome := by
  have h2 := noSuchName_at n es
  unfold noSuchName at h2
  rw [h.find false] at h2
  cases q : l.lookup n with
  | none => rw [q] at h2; simpa using h2
  | some v => rw [q] at h2; obtain ⟨x, h3, _⟩ := h.val q; simp only [h3] at h2; simpa using h2

end Mine
end
section
open PySem PySem.W PyProof.Rows
set_option Elab.async false
set_option linter.unusedVariables false
set_option maxRecDepth 100000
namespace Mine
open PySem.Builtin
theorem mangle_obj (cls : Str) : Slots.mangle cls "obj" = "obj" := by kernel_rfl
section
variable {prog : Program} {w : World} {A : Around} {E : Value → Shared → Prop} {s : Shared}
/-- the slots of a class over object with __slots__ = ['obj'] -/
theorem wp_slotsRead {cls : Str} {es : Array DictEntry} {l : List (Str × Value)} {sl : Addr} {ts : Tok} {n : Nat} {Q : Slots.Plan → Shared → Prop} (hE : EsAre es.toList l) (hl : l.lookup ("__slots__" : Str) = some (.ref sl)) (ho : (l.lookup ("obj" : Str)).isSome = false)
    (hS : s.heap.get? sl = some { cls := .type "list", dict := none, data := .seq #[.str "obj" ts] n, slots := #[] })
    (h : ∀ s', Grew s s' → Q { names := ["obj"], dict := false, weak := false, inherited := [] } s') :
    wpAny (model prog w) A (Slots.read cls [.type "object"] es) Q E s := by
  obtain ⟨e, he, hv⟩ := hE.findE hl
  unfold Slots.read
  refine wpAny_bind (w_eq tn_best (wpAny_bind (w_eq tn_names (wpAny_bind (w_eq tn_gd (wpAny_bind (w_eq tn_gw (wpAny_bind (w_eq tn_var ?_)))))))))
  rw [he]
  refine wpAny_bind (wpAny_rule ?_)
  rw [hv]
  refine wpAny_bind (wpAny_bind (wpAny_load hS (wpAny_pure ?_)))
  refine w_ff (by decide) (wpAny_bind (wpAny_collect_seq sl (.inl rfl) hS rfl rfl (fun h' k => ?_) (Nat.le_trans (by decide : 1 ≤ 100) (by decide))))
  refine w_tt rfl ?_
  refine wpAny_bind (w_eq tn_var ?_)
  refine w_ff (by decide) ?_
  refine wpAny_bind (w_for1 (w_eq (v := .yield (false, false, #["obj"], [])) (by kernel_rfl) ?_))
  refine wpAny_bind (w_forA1 ?_)
  refine w_ff (show ¬ (_ > sizeLine) from Nat.not_lt.mpr (Nat.le_trans (show (3 : Nat) ≤ 100 from by decide) (by decide))) ?_
  refine w_ff ?_ ?_
  · show ¬ ((es.any (·.key.isStr "obj") && _) = true)
    rw [hE.anyE, ho]; exact Bool.false_ne_true
  refine w_ff (by rw [mangle_obj]; decide) ?_
  refine wpAny_pure ?_
  refine wpAny_bind (w_for1 ?_)
  refine w_ff (by decide) (wpAny_pure (wpAny_pure ?_))
  exact h _ (.heap k)
end
end Mine
end
section
open PySem PySem.W PyProof.Rows
set_option Elab.async false
set_option linter.unusedVariables false
set_option maxRecDepth 100000
namespace Mine
open PySem.Builtin
/-- a class in the making: its dict and its object are new -/
structure NC (s0 s : Shared) (D C : Addr) (l : List (Str × Value)) (o : Obj) (ex : List (Addr × Obj)) : Prop where
  up : Grew s0 s
  d : DictAt s.heap D l
  c : s.heap.get? C = some o
  hD : s0.heap.get? D = none
  hC : s0.heap.get? C = none
  ne : D ≠ C
  ex : ∀ q ∈ ex, s.heap.get? q.1 = some q.2 ∧ q.1 ≠ D ∧ q.1 ≠ C
section
variable {s0 s : Shared} {D C : Addr} {l l' : List (Str × Value)} {o o' ob : Obj} {ex : List (Addr × Obj)}
theorem NC.setD (S : NC s0 s D C l o ex) {h' : Heap} {t : Nat} (hd : DictAt h' D l') (hs : Heap.SameBut D s.heap h') (ht : s.toks ≤ t) : NC s0 { s with heap := h', toks := t } D C l' o ex :=
  ⟨⟨fun b ob e => (hs.2 b (ne_new S.hD e)).trans (S.up.keep b ob e), S.up.g, S.up.dr, S.up.os, Nat.le_trans S.up.tk ht⟩, hd, (hs.2 C S.ne.symm).trans S.c, S.hD, S.hC, S.ne,
    fun q hq => ⟨(hs.2 _ (S.ex q hq).2.1).trans (S.ex q hq).1, (S.ex q hq).2⟩⟩
theorem NC.setC (S : NC s0 s D C l o ex) {f : Obj → Obj} (o' : Obj) (e : f o = o') (hf : o'.isFreed = false) : NC s0 { s with heap := s.heap.update C f } D C l o' ex := by
  have hs : Heap.SameBut C s.heap (s.heap.update C f) := Heap.SameBut.update ..
  exact ⟨⟨fun b ob e => (hs.2 b (ne_new S.hC e)).trans (S.up.keep b ob e), S.up.g, S.up.dr, S.up.os, S.up.tk⟩, S.d.same fun ob e => (hs.2 D S.ne).trans e, by rw [Heap.get?_update_self _ S.c (by rw [e]; exact hf), e], S.hD, S.hC, S.ne,
    fun q hq => ⟨(hs.2 _ (S.ex q hq).2.2).trans (S.ex q hq).1, (S.ex q hq).2⟩⟩
theorem NC.grew (S : NC s0 s D C l o ex) {s' : Shared} (g : Grew s s') : NC s0 s' D C l o ex :=
  ⟨S.up.trans g, S.d.same fun ob e => g.keep _ _ e, g.keep _ _ S.c, S.hD, S.hC, S.ne, fun q hq => ⟨g.keep _ _ (S.ex q hq).1, (S.ex q hq).2⟩⟩

variable {α : Type} {M : Model} {A : Around} {E : Value → Shared → Prop} {name : Str} {v : Value}
theorem nc_get {Q : Option Value → Shared → Prop} {r : Option Value} (S : NC s0 s D C l o ex) (hr : l.lookup name = r) (h : Q r s) : wpAny M A (nsGet D name) Q E s := dn_get S.d hr h
theorem nc_set {Q : Unit → Shared → Prop} (S : NC s0 s D C l o ex) (hl : putN name v l = l') (h : ∀ s', NC s0 s' D C l' o ex → Q () s') : wpAny M A (nsSet D name v) Q E s :=
  dn_set S.d fun h' hd hs => h _ (S.setD (hl ▸ hd) hs (Nat.le_succ _))
theorem nc_setV {Q : Unit → Shared → Prop} (S : NC s0 s D C l o ex) (hz : l.length ≤ 100) (hl : putN name v l = l') (h : ∀ s', NC s0 s' D C l' o ex → Q () s') : wpAny M A (nsSetByValue D name v) Q E s :=
  dn_setV S.d hz fun h' hd hs => h _ (S.setD (hl ▸ hd) hs (Nat.le_succ _))
theorem nc_del {Q : Bool → Shared → Prop} (S : NC s0 s D C l o ex) (hs : (l.lookup name).isSome = true) (hl : dropN name l = l') (h : ∀ s', NC s0 s' D C l' o ex → Q true s') : wpAny M A (nsDel D name) Q E s :=
  dn_del S.d hs fun h' hd hs => h _ (S.setD (hl ▸ hd) hs (Nat.le_refl _))
theorem nc_slot {i : Nat} {v : Option Value} {Q : Unit → Shared → Prop} (S : NC s0 s D C l o ex) (o' : Obj) (hi : ¬ (i ≥ sizeLine)) (e : ({ o with slots := (o.slots ++ Array.replicate (i + 1 - o.slots.size) none).setIfInBounds i v } : Obj) = o') (hf : o'.isFreed = false) (h : ∀ s', NC s0 s' D C l o' ex → Q () s') :
    wpAny M A (setSlotAt C i v) Q E s := w_setSlot S.c hi (h _ (S.setC o' e hf))
theorem nc_cls {f : ClassData → ClassData} {c : Value} {d : Option Addr} {cd : ClassData} {sl : Array (Option Value)} {Q : Unit → Shared → Prop} (S : NC s0 s D C l ⟨c, d, .cls cd, sl⟩ ex) (cd' : ClassData) (e : f cd = cd') (hp : (Data.cls cd').pastItsLine = none) (h : ∀ s', NC s0 s' D C l ⟨c, d, .cls cd', sl⟩ ex → Q () s') :
    wpAny M A (updateCls C f) Q E s := w_updateCls S.c (by rw [e]; exact hp) (h _ (S.setC _ (by rw [← e]; rfl) rfl))
theorem nc_new {T : String} {data : Data} {Q : Value → Shared → Prop} (S : NC s0 s D C l o ex) (hd : sizeOk data) (hf : ({ cls := .type T, data := data } : Obj).isFreed = false) (h : ∀ a s', NC s0 s' D C l o ((a, { cls := .type T, data := data }) :: ex) → s0.heap.get? a = none → Q (.ref a) s') : wpAny M A (newObj (.type T) data) Q E s := by
  refine wpAny_newObj_type ?_ hd
  have g : Grew s { s with heap := s.heap.push { cls := .type T, data := data } } := .heap fun _ _ e => Heap.get?_push_of_some _ e
  obtain ⟨es, en, hD1, _⟩ := id S.d
  refine h s.heap.objs.size _ ?_ ?_
  · have S' := S.grew g
    refine ⟨S'.up, S'.d, S'.c, S'.hD, S'.hC, S'.ne, fun q hq => ?_⟩
    rcases List.mem_cons.mp hq with rfl | hq
    · exact ⟨Heap.get?_push_size _ hf, Nat.ne_of_gt (Heap.lt_size hD1), Nat.ne_of_gt (Heap.lt_size S.c)⟩
    · exact S'.ex q hq
  · exact S.up.fresh
theorem nc_mkStr {x : Str} {Q : Value → Shared → Prop} (S : NC s0 s D C l o ex) (hx : x.length ≤ sizeLine) (h : ∀ t s', NC s0 s' D C l o ex → Q (.str x t) s') : wpAny M A (mkStr x) Q E s :=
  wpAny_mkStr (h _ _ (S.grew (.tok (Nat.le_succ _)))) hx
end
def kName : Str := "K"
def kQual : Str := "cmp_to_key.<locals>.K"
def kNs (md fl sl fi f1 f2 f3 f4 f5 st : Value) (tq : Tok) : List (Str × Value) := [("__module__", md), ("__qualname__", .str kQual tq), ("__firstlineno__", fl), ("__slots__", sl), ("__init__", fi), ("__lt__", f1), ("__gt__", f2), ("__eq__", f3), ("__le__", f4), ("__ge__", f5), ("__hash__", .none), ("__static_attributes__", st)]
def kNs1 (md fl sl fi f1 f2 f3 f4 f5 st : Value) : List (Str × Value) := [("__module__", md), ("__firstlineno__", fl), ("__slots__", sl), ("__init__", fi), ("__lt__", f1), ("__gt__", f2), ("__eq__", f3), ("__le__", f4), ("__ge__", f5), ("__hash__", .none), ("__static_attributes__", st)]
def kNs2 (md fl sl fi f1 f2 f3 f4 f5 st : Value) (p : Addr) : List (Str × Value) := [("__module__", md), ("__firstlineno__", fl), ("__slots__", sl), ("__init__", fi), ("__lt__", f1), ("__gt__", f2), ("__eq__", f3), ("__le__", f4), ("__ge__", f5), ("__hash__", .none), ("__static_attributes__", st), ("obj", .ref p), ("__doc__", .none)]
def kCd0 (D : Addr) : ClassData := { name := kName, bases := [.type "object"], mro := [], ns := D, qualname := kQual }
def kCd1 (C D : Addr) : ClassData := { name := kName, bases := [.type "object"], mro := [.ref C, .type "object"], ns := D, qualname := kQual }
def kCd (C D : Addr) : ClassData := { name := kName, bases := [.type "object"], mro := [.ref C, .type "object"], ns := D, qualname := kQual, hasDict := false, slotNames := ["obj"] }
def kObj (cd : ClassData) (sl : Array (Option Value)) : Obj := ⟨.type "type", none, .cls cd, sl⟩
def kMembT (C : Addr) (t : Tok) : Obj := { cls := .type "member_descriptor", data := .fields #[.str "obj" t, .ref C, .builtin "proto.slot", .builtin "proto.slot#set", rawInt 0] }

theorem filt_self (C : Addr) : List.filter (fun x => x != Value.ref C) [.ref C, .type "object"] = [.type "object"] := by
  rw [List.filter_cons_of_neg (by simp), List.filter_cons_of_pos (by rfl)]; rfl
/-- what a class over object bears under a name -/
theorem cls_lookup {M : Model} {h : Heap} {C D : Addr} {cd : ClassData} {sl : Array (Option Value)} {l : List (Str × Value)} {name : Str} {r : Option Value} (hC : h.get? C = some (kObj cd sl)) (hm : cd.mro = [.ref C, .type "object"]) (hn : cd.ns = D) (hD : DictAt h D l)
    (hr : (match l.lookup name with | some v => some v | none => builtinOwn "object" name) = r) : Looks M h (typeLookup (.ref C) name) r := fun A Q E s k q => by
  subst hn
  unfold typeLookup
  refine wpAny_bind (wpAny_bind (w_classData (k _ _ hC) (wpAny_pure ?_)))
  rw [hm]
  cases e : l.lookup name with
  | some v =>
    rw [e] at hr
    refine wpAny_bind (w_for (wpAny_bind (wpAny_bind (w_classData (k _ _ hC) (dn_get (hD.same fun _ => k _ _) e (wpAny_pure ?_))))))
    simp only at hr; subst hr
    exact wpAny_pure q
  | none =>
    rw [e] at hr
    simp only at hr
    refine wpAny_bind (w_for (wpAny_bind (wpAny_bind (w_classData (k _ _ hC) (dn_get (hD.same fun _ => k _ _) e (wpAny_pure (w_for1 (wpAny_bind (wpAny_pure ?_)))))))))
    rw [hr]
    cases r with
    | none => exact wpAny_pure (wpAny_pure q)
    | some v => exact wpAny_pure (wpAny_pure q)
end Mine
end
section
open PySem PySem.W PyProof.Rows
set_option Elab.async false
set_option linter.unusedVariables false
set_option maxRecDepth 100000
namespace Mine
open PySem.Builtin
theorem is_slot_cmd : Slot "classmethod_descriptor" "__get__" "classmethod_descriptor.__get__" := .of (owner := "classmethod_descriptor") (n := "__get__") (by rw [typeLookup_type, builtinLookup_eq_fast]; kernel_rfl) (by decide +kernel) (by decide +kernel) (by decide +kernel) (by decide +kernel) (by kernel_rfl)
theorem cmd_entry : entryFor table "classmethod_descriptor.__get__" = some Builtin.«classmethod_descriptor.__get__» := entryFor_of_tree (by kernel_rfl)
theorem cmd_args (a b c : Value) : argsOk "classmethod_descriptor.__get__" ⟨[a, b, c], []⟩ := by unfold argsOk; kernel_rfl
theorem ois_type : typeOf (.builtin "object.__init_subclass__") = pure (.type "classmethod_descriptor") := by kernel_rfl
theorem ois_own : classOwn (.type "object") "__init_subclass__" = pure (some (.builtin "object.__init_subclass__")) := by kernel_rfl
theorem ois_entry : entryFor table "object.__init_subclass__" = some Builtin.«object.__init_subclass__» := entryFor_of_tree (by kernel_rfl)
theorem ois_plain : plainId "object.__init_subclass__" = true := by decide +kernel
theorem ois_sig : Manifest.signature? "object.__init_subclass__" = some ⟨.noArgs, "object.__init_subclass__", "__init_subclass__", .cls, []⟩ := by kernel_rfl
theorem ois_kind : builtinKind "object.__init_subclass__" = some .classMethod := by kernel_rfl
section
variable {prog : Program} {w : World} {A : Around} {E : Value → Shared → Prop} {s : Shared} {C : Addr} {cd : ClassData} {sl : Array (Option Value)}
/-- super(C, C) -/
theorem super_call {Q : Value → Shared → Prop} (hC : s.heap.get? C = some (kObj cd sl)) (hm : cd.mro = [.ref C, .type "object"])
    (hq : ∀ so s', Grew s s' → s'.heap.get? so = some { cls := .type "super", dict := none, data := .fields #[.ref C, .ref C, .ref C], slots := #[] } → Q (.ref so) s') : wpAny (model prog w) A (call (.type "super") [.ref C, .ref C]) Q E s := by
  obtain ⟨h, g, d, t, os⟩ := s
  refine ks_callType_codesW (Q₁ := fun obj s₁ => obj = .ref h.objs.size ∧ s₁ = ⟨h.push { cls := .type "super", data := .fields #[.none, .none, .none] }, g, d, t, os⟩) F.ks_called_super (ks_wpAny_checkTypeCall_super hC rfl) F.ks_entry_super_init
    (ks_code_super_new _ _ ⟨rfl, rfl⟩) fun obj s₁ h₁ => ?_
  obtain ⟨rfl, rfl⟩ := h₁
  have up : ∀ y o, h.get? y = some o → (h.push { cls := .type "super", data := .fields #[.none, .none, .none] }).get? y = some o := fun y o e => Heap.get?_push_of_some _ e
  have hso : (h.push { cls := .type "super", data := .fields #[.none, .none, .none] }).get? h.objs.size = some { cls := .type "super", dict := none, data := .fields #[.none, .none, .none], slots := #[] } := Heap.get?_push_at rfl rfl
  have hC' := up _ _ hC
  refine ⟨⟨_, hso, rfl⟩, F.ks_initArgs_super _ _ _, ?_⟩
  unfold Builtin.«super.__init__»
  refine wpAny_bind (w_eq (v := ()) (by kernel_rfl) ?_)
  refine wpAny_bind (wpAny_pure ?_)
  refine wpAny_bind (ks_wpAny_isType_cls hC' rfl ?_)
  refine w_ff (by decide) (w_ff (show ¬ (false = true) from Bool.false_ne_true) ?_)
  refine wpAny_bind (wpAny_bind (ks_wpAny_isType_cls hC' rfl ?_))
  refine w_tt rfl ?_
  refine wpAny_bind (wpAny_bind (wpAny_bind (w_classData hC' (wpAny_pure ?_))))
  refine w_ff (by rw [hm]; exact Bool.false_ne_true) (wpAny_pure ?_)
  refine w_tt (by rw [hm]; simp) ?_
  refine wpAny_pure ?_
  refine ks_wpAny_super_set3 hso fun h' e k => ⟨rfl, ?_⟩
  exact hq _ _ ⟨fun y o ey => k y o (Nat.ne_of_lt (Heap.lt_size ey)) (up y o ey), rfl, rfl, rfl, Nat.le_refl _⟩ e
/-- the descriptor of object.__init_subclass__, bound to the class -/
theorem cmd_get {Q : Fin → Shared → Prop} (hC : s.heap.get? C = some (kObj cd sl)) (hm : cd.mro = [.ref C, .type "object"])
    (hq : ∀ b s', Grew s s' → s'.heap.get? b = some { cls := .type "builtin_function_or_method", data := .fields #[.builtin "object.__init_subclass__", .ref C] } → Q (.done (.ret (.ref b))) s') :
    wpAny (model prog w) A (Builtin.«classmethod_descriptor.__get__» ⟨[.builtin "object.__init_subclass__", .none, .ref C], []⟩) Q E s := by
  obtain ⟨h, g, d, t, os⟩ := s
  unfold Builtin.«classmethod_descriptor.__get__»
  refine wpAny_bind (w_eq (v := (.builtin "object.__init_subclass__", none, some (.ref C))) (by kernel_rfl) ?_)
  refine wpAny_bind (wpAny_pure ?_)
  refine wpAny_bind (ks_wpAny_isType_cls hC rfl ?_)
  refine w_ff (by decide) ?_
  refine wpAny_bind (wpAny_bind (wpAny_bind (w_classData hC (wpAny_pure ?_))))
  refine w_ff (by rw [hm]; exact Bool.false_ne_true) (wpAny_pure ?_)
  refine w_ff (by rw [hm]; exact Bool.false_ne_true) ?_
  refine wpAny_bind (w_new (show (2 : Nat) ≤ sizeLine + 2 by decide) rfl fun b s' g' hb _ => wpAny_pure (hq b s' g' hb))
theorem super_get {so : Addr} {Q : Value → Shared → Prop} (hso : s.heap.get? so = some { cls := .type "super", dict := none, data := .fields #[.ref C, .ref C, .ref C], slots := #[] }) (hC : s.heap.get? C = some (kObj cd sl)) (hm : cd.mro = [.ref C, .type "object"])
    (hno : Looks (model prog w) s.heap (opaqueClassAbove (.ref C)) none)
    (hq : ∀ b s', Grew s s' → s'.heap.get? b = some { cls := .type "builtin_function_or_method", data := .fields #[.builtin "object.__init_subclass__", .ref C] } → Q (.ref b) s') :
    wpAny (model prog w) A (getAttr (.ref so) "__init_subclass__") Q E s := by
  obtain ⟨h, g, d, t, os⟩ := s
  have hT : ∀ t', (⟨h, g, d, t', os⟩ : Shared).TypeIs (.ref so) "super" := fun _ => ⟨_, hso, rfl⟩
  unfold getAttr getAttrBy
  refine wpAny_bind (wpAny_mkText (wpAny_holding (wpAny_bind (wpAny_typeOf (hT _) (wpAny_bind (w_eq F.ks_slot_super_ga.lookup ?_))))))
  show wpAny _ _ (getAttrByItsOwn (.ref so) (.str "__init_subclass__" t) (.type "super") (.builtin "super.__getattribute__") true false) _ _ _
  unfold getAttrByItsOwn hookBefore callGetattribute boundAndCalled
  refine wpAny_bind (w_eq (show (if onTheHeap (.type "super") then typeLookup (.type "super") "__getattr__" else pure none) = pure none from rfl) ?_)
  refine wpAny_bind (wpAny_attempt (wpAny_holding ?_))
  show wpAny _ _ (bindSpecial (.builtin "super.__getattribute__") (.ref so) >>= _) _ _ _
  refine wpAny_bind (w_eq (F.ks_slot_super_ga.bind _) ?_)
  refine wpAny_mono (Q := fun v s' => ∃ b, v = .ref b ∧ Grew ⟨h, g, d, t + 1, os⟩ s' ∧ s'.heap.get? b = some { cls := .type "builtin_function_or_method", data := .fields #[.builtin "object.__init_subclass__", .ref C] }) (E := fun _ _ => False)
    (wpAny_call_entry F.ks_slot_super_ga (hT _) F.ks_entry_super_ga ?_ (F.ks_gaArgs_super _ _)) (fun v s' hv => ?_) fun _ _ z => z.elim
  · unfold Builtin.«super.__getattribute__»
    refine wpAny_bind (wpAny_pure (w_ff (by decide) (wpAny_bind (wpAny_pure ?_))))
    refine wpAny_bind (wpAny_field hso rfl (x := .ref C) rfl (wpAny_bind (wpAny_field hso rfl (x := .ref C) rfl (wpAny_bind (wpAny_field hso rfl (x := .ref C) rfl ?_)))))
    refine w_ff (show ¬ ((false || (Str.ofString "__init_subclass__" == Str.ofString "__class__")) = true) by decide) ?_
    refine wpAny_bind (ks_wpAny_notOpaque hno ?_)
    refine w_ff (show ¬ (false = true) from Bool.false_ne_true) ?_
    refine wpAny_bind (wpAny_bind (w_classData hC (wpAny_pure ?_)))
    rw [hm, show List.drop 1 (List.dropWhile (fun x => x != Value.ref C) [.ref C, .type "object"]) = [.type "object"] by simp]
    refine wpAny_bind (w_for1 (wpAny_bind (w_eq ois_own ?_)))
    refine wpAny_bind (w_eq ois_type (wpAny_bind (w_eq is_slot_cmd.lookup ?_)))
    rw [if_pos (by simp)]
    refine wpAny_bind (wpAny_holding ?_)
    refine wpAny_call_entry is_slot_cmd ?_ cmd_entry (cmd_get hC hm fun b s' g' hb => ?_) (cmd_args _ _ _)
    · exact ois_type
    refine ⟨_, rfl, wpAny_bind (wpAny_pure (wpAny_pure (wpAny_pure ⟨_, rfl, b, rfl, g', hb⟩)))⟩
  · obtain ⟨b, rfl, g', hb⟩ := hv
    exact wpAny_pure (hq b s' ((Grew.tok (s := ⟨h, g, d, t, os⟩) (Nat.le_succ _)).trans g') hb)
/-- __init_subclass__ of object, bound -/
theorem ois_call {b : Addr} {Q : Value → Shared → Prop} (hb : s.heap.get? b = some { cls := .type "builtin_function_or_method", data := .fields #[.builtin "object.__init_subclass__", .ref C] }) (hC : s.heap.get? C = some (kObj cd sl)) (hm : cd.mro = [.ref C, .type "object"]) (hqn : cd.qualname = kQual)
    (hq : Q .none s) : wpAny (model prog w) A (call (.ref b) [] []) Q E s := by
  obtain ⟨h, g, d, t, os⟩ := s
  refine wpAny_call (codeAny_of_tree ?_)
  show wpAny _ _ (callAny (.ref b) _) _ _ _
  unfold callAny
  refine wpAny_bind (wpAny_load hb ?_)
  refine w_tt (show (true = true) from rfl) ?_
  refine w_tt (show (true = true) from rfl) ?_
  refine wpAny_bind ?_
  unfold checkBoundCall
  rw [ois_sig, ois_kind]
  refine w_ff (by decide) ?_
  refine wpAny_bind (w_isInst hC (b := false) (by kernel_rfl) ?_)
  refine w_ff (by decide +kernel) ?_
  refine wpAny_bind (ks_wpAny_isType_cls hC rfl ?_)
  refine w_tt rfl (wpAny_bind (wpAny_pure ?_))
  refine wpAny_bind (w_classData hC (wpAny_bind (w_typeOf hC ?_)))
  refine w_tt (show (true = true) from rfl) ?_
  rw [hqn]
  refine w_eq (v := ()) (by kernel_rfl) ?_
  refine wpAny_pure ⟨plainId_quiet ois_plain _, codeAny_builtin ois_entry ?_⟩
  unfold Builtin.«object.__init_subclass__»
  refine w_tt (show (true = true) from rfl) (wpAny_pure ?_)
  exact hq
end
end Mine
end
section
open PySem PySem.W PyProof.Rows
set_option Elab.async false
set_option linter.unusedVariables false
set_option maxRecDepth 100000
namespace Mine
open PySem.Builtin
theorem w_forEs {β : Type} {M : Model} {A : Around} {E : Value → Shared → Prop} {s : Shared} {b : β} {f : DictEntry → β → Sem (ForInStep β)} {Q : β → Shared → Prop} {es : Array DictEntry} {l : List (Str × Value)} (h : EsAre es.toList l)
    (hf : ∀ e n v t, e.key = .str n t → e.val = v → (n, v) ∈ l → ∀ Q E, Q (.yield b) s → wpAny M A (f e b) Q E s) (hq : Q b s) : wpAny M A (forIn es b f) Q E s := by
  rw [← Array.forIn_toList]
  revert h hf
  generalize es.toList = es
  intro h hf
  induction es generalizing l with
  | nil => rw [List.forIn_nil]; exact wpAny_pure hq
  | cons e es ih =>
    obtain ⟨n, v, t, r, rfl, h2, h3, h4⟩ := h
    refine w_for (hf e n v t h2 h3 (List.mem_cons_self ..) _ _ ?_)
    exact ih h4 fun e n v t a b c => hf e n v t a b (List.mem_cons_of_mem _ c)
def kSl (bT : Addr) (tn tq : Tok) : Array (Option Value) := #[some (.ref bT), none, some (.str kName tn), some (.str kQual tq), some (.builtin "object.__new__"), some (.bool false)]
section
variable {prog : Program} {w : World} {A : Around} {E : Value → Shared → Prop} {s : Shared}
theorem wp_typeNew {tn tq : Tok} {bT nsA sl : Addr} {md fl fi f1 f2 f3 f4 f5 st : Value} {ts : Tok} {n : Nat} {Q : Fin → Shared → Prop} (hns : nsA ≠ sysModules)
    (hT : s.heap.get? bT = some { cls := .type "tuple", data := .seq #[.type "object"] })
    (hD : DictAt s.heap nsA (kNs md fl (.ref sl) fi f1 f2 f3 f4 f5 st tq))
    (hS : s.heap.get? sl = some { cls := .type "list", dict := none, data := .seq #[.str "obj" ts] n, slots := #[] })
    (hv : ∀ v ∈ [md, fl, .ref sl, fi, f1, f2, f3, f4, f5, st], Looks (model prog w) s.heap (specialOf v "__set_name__") none ∧ ∀ n, heldUnderItsOwnName n v = false)
    (hno : ∀ C : Addr, Looks (model prog w) s.heap (opaqueClassAbove (.ref C)) none)
    (hq : ∀ C D p tm s', NC s s' D C (kNs2 md fl (.ref sl) fi f1 f2 f3 f4 f5 st p) (kObj (kCd C D) (kSl bT tn tq)) [(p, kMembT C tm)] → s.heap.get? p = none → Q (.done (.ret (.ref C))) s') :
    wpAny (model prog w) A (Builtin.«type.__new__» ⟨[.type "type", .str kName tn, .ref bT, .ref nsA], []⟩) Q E s := by
  obtain ⟨es, en, hN, hE⟩ := id hD
  have l1 : Looks (model prog w) s.heap (isInstance (.ref bT) (.type "tuple")) true := (Looks.ld hT).andThen (Looks.of_pure tn_subT)
  have l2 : Looks (model prog w) s.heap (isInstance (.ref nsA) (.type "dict")) true := (Looks.ld hN).andThen (Looks.of_pure tn_subD)
  have l3 : Looks (model prog w) s.heap (specialOf (.ref nsA) "__iter__") (some (.builtin "dict.__iter__")) := (Looks.ld hN).andThen (Looks.of_pure tn_iter)
  unfold Builtin.«type.__new__»
  refine wpAny_bind (wpAny_pure (wpAny_bind (l1.here (w_ff (by decide) (wpAny_bind (l2.here (w_ff (by decide) ?_)))))))
  refine wpAny_bind (wpAny_bind (wpAny_load hT (wpAny_pure ?_)))
  refine w_ff (show ¬ (1 > 2 ^ 20) from by decide) ?_
  refine wpAny_bind (w_for1 (wpAny_bind (wpAny_pure (w_ff (by decide) (wpAny_pure ?_)))))
  refine wpAny_bind (w_for1 (wpAny_bind (w_eq (v := .type "type") (by kernel_rfl) (wpAny_bind (w_eq tn_sub (w_tt rfl (wpAny_pure ?_)))))))
  refine w_ff (by decide) ?_
  refine wpAny_bind (w_eq tn_turned (wpAny_bind (w_eq tn_ext ?_)))
  refine w_ff (by simpa using hns) ?_
  refine wpAny_bind (wpAny_dictEntries hN rfl (wpAny_bind (l3.here ?_)))
  refine w_tt (by simp) ?_
  refine wpAny_bind (wpAny_pure ?_)
  refine wpAny_bind (wpAny_holding (wp_slotsRead hE rfl rfl hS fun s1 g1 => ?_))
  have hlen : es.size = 12 := by have e := hE.length; rw [Array.length_toList] at e; exact e
  refine wpAny_bind (w_new (show es.size ≤ _ by rw [hlen]; decide) rfl fun D s2 g2 hD2 eD => ?_)
  have S0 : DictAt s2.heap D (kNs md fl (.ref sl) fi f1 f2 f3 f4 f5 st tq) := ⟨es, 0, hD2, hE⟩
  refine w_ff (show ¬ ((!(es.any fun x => x.key.isStr "__module__")) = true) by rw [hE.anyE]; exact Bool.false_ne_true) ?_
  refine wpAny_bind (w_eq (v := ()) (by kernel_rfl) ?_)
  refine w_ff (by decide +kernel) ?_
  refine wpAny_bind (dn_get S0 (r := some (.str kQual tq)) (by kernel_rfl) (wpAny_bind (dn_get S0 (r := some (.str kQual tq)) (by kernel_rfl) (wpAny_bind (wpAny_pure (wpAny_bind (wpAny_pure ?_)))))))
  refine wpAny_bind (dn_get S0 (r := none) (by kernel_rfl) ?_)
  refine wpAny_bind (w_alloc rfl fun C s3 g3 hC3 eC => ?_)
  have hlt : D < C := by rw [eC]; exact Heap.lt_size hD2
  have S : NC s s3 D C (kNs md fl (.ref sl) fi f1 f2 f3 f4 f5 st tq) (kObj (kCd0 D) #[]) [] := ⟨g1.trans (g2.trans g3), S0.same fun _ e => g3.keep _ _ e, hC3, eD ▸ g1.fresh, eC ▸ (g1.trans g2).fresh, Nat.ne_of_lt hlt, by simp⟩
  refine w_tt rfl ?_
  refine wpAny_bind (nc_slot S (kObj (kCd0 D) #[some (.ref bT)]) (by decide) rfl rfl fun s4 S => ?_)
  refine wpAny_bind (nc_slot S (kObj (kCd0 D) #[some (.ref bT), none, some (.str kName tn)]) (by decide) rfl rfl fun s5 S => ?_)
  refine wpAny_bind (nc_slot S (kObj (kCd0 D) #[some (.ref bT), none, some (.str kName tn), some (.str kQual tq)]) (by decide) rfl rfl fun s6 S => ?_)
  refine wpAny_bind (nc_del S (l' := kNs1 md fl (.ref sl) fi f1 f2 f3 f4 f5 st) (by kernel_rfl) (by kernel_rfl) fun s7 S => ?_)
  refine wpAny_bind (nc_get S (r := none) (by kernel_rfl) ?_)
  refine wpAny_bind (w_for (wpAny_bind (nc_get S (r := none) (by kernel_rfl) (wpAny_pure (w_for1 (wpAny_bind (nc_get S (r := none) (by kernel_rfl) (wpAny_pure ?_))))))))
  refine wpAny_bind (nc_get S (r := none) (by kernel_rfl) (wpAny_bind (nc_get S (r := none) (by kernel_rfl) ?_)))
  refine wpAny_bind (w_eq tn_hook (wpAny_bind (w_eq tn_lin (wpAny_bind (wpAny_pure ?_)))))
  refine wpAny_bind (w_eq (v := false) (by rw [filt_self]; kernel_rfl) ?_)
  refine wpAny_bind (nc_cls S (kCd1 C D) (by rw [show (fun n => es.any fun x => x.key.isStr n) (Str.ofString "__del__") = false from hE.anyE]; rfl) (by kernel_rfl) fun s8 S => ?_)
  refine wpAny_bind (w_eq tn_made ?_)
  refine wpAny_bind (nc_slot S (kObj (kCd1 C D) #[some (.ref bT), none, some (.str kName tn), some (.str kQual tq), some (.builtin "object.__new__")]) (by decide) rfl rfl fun s9 S => ?_)
  have nl : Looks (model prog w) s9.heap (typeLookup (.ref C) "__new__") (some (.builtin "object.__new__")) := cls_lookup S.c rfl rfl S.d (by kernel_rfl)
  refine wpAny_bind (wpAny_bind (wpAny_bind (wpAny_loadPart S.c (wpAny_pure ?_))))
  refine w_ff (show ¬ (false = true) from Bool.false_ne_true) ?_
  refine wpAny_bind (nl.here (w_ff (by decide +kernel) (wpAny_pure ?_)))
  refine wpAny_bind ?_
  unfold Slots.install
  refine wpAny_bind (w_for1 (wpAny_bind (nc_get S (r := none) (by kernel_rfl) (w_tt rfl (wpAny_bind (nc_mkStr S (by decide) fun tm s10 S => ?_))))))
  refine wpAny_bind (nc_new S (show (5 : Nat) ≤ sizeLine + 2 by decide) rfl fun p s11 S hp => ?_)
  refine wpAny_bind (nc_setV S (show (11 : Nat) ≤ 100 by decide) (l' := kNs1 md fl (.ref sl) fi f1 f2 f3 f4 f5 st ++ [(("obj" : Str), .ref p)]) (by kernel_rfl) fun s12 S => wpAny_pure ?_)
  refine wpAny_bind (w_for1 (wpAny_bind (w_eq tn_gd (w_ff (by decide) (wpAny_pure ?_)))))
  refine w_ff (by decide) ?_
  refine nc_cls S (kCd C D) rfl (by kernel_rfl) fun s13 S => ?_
  refine wpAny_bind (w_eq tn_gw ?_)
  refine wpAny_bind (nc_slot S (kObj (kCd C D) (kSl bT tn tq)) (by decide) rfl rfl fun s14 S => ?_)
  refine w_ff (by decide) (w_ff (by decide) ?_)
  refine wpAny_bind (nc_get S (r := none) (by kernel_rfl) (w_tt rfl (wpAny_bind (nc_set S (l' := kNs2 md fl (.ref sl) fi f1 f2 f3 f4 f5 st p) (by kernel_rfl) fun s15 S => ?_))))
  refine wpAny_bind (nc_get S (r := some f3) (by kernel_rfl) (w_tt rfl (wpAny_bind (nc_get S (r := some .none) (by kernel_rfl) (w_ff (by simp) ?_)))))
  refine wpAny_bind (w_for1 (wpAny_bind (w_eq (v := ()) (by kernel_rfl) (wpAny_pure ?_))))
  refine wpAny_bind (wpAny_tryCatch (wpAny_holding ?_))
  obtain ⟨es2, en2, hN2, hE2⟩ := id S.d
  refine wpAny_bind (wpAny_dictEntries hN2 rfl (wpAny_bind (w_forEs hE2 (fun e m v t hk hv hm Q E q => ?_) ?_)))
  · rw [hk]
    exact wpAny_bind (wpAny_pure (w_ff (by simp) (wpAny_pure q)))
  refine w_ff Bool.false_ne_true ?_
  refine wpAny_bind (wpAny_dictEntries hN2 rfl (wpAny_bind (w_forEs hE2 (fun e m v t hk hvv hm Q E q => ?_) ?_)))
  · rw [hk, hvv]
    have hx : Looks (model prog w) s15.heap (specialOf v "__set_name__") none ∧ heldUnderItsOwnName m v = false := by
      have old : ∀ v ∈ [md, fl, .ref sl, fi, f1, f2, f3, f4, f5, st], Looks (model prog w) s15.heap (specialOf v "__set_name__") none ∧ heldUnderItsOwnName m v = false := fun v h => ⟨(hv v h).1.keeps S.up.keep, (hv v h).2 m⟩
      have nn : Looks (model prog w) s15.heap (specialOf .none "__set_name__") none ∧ heldUnderItsOwnName m .none = false := ⟨Looks.of_pure (sn_none "NoneType" (by simp)), rfl⟩
      simp only [kNs2, List.mem_cons, List.not_mem_nil, or_false, Prod.mk.injEq] at hm
      rcases hm with ⟨_, rfl⟩ | ⟨_, rfl⟩ | ⟨_, rfl⟩ | ⟨_, rfl⟩ | ⟨_, rfl⟩ | ⟨_, rfl⟩ | ⟨_, rfl⟩ | ⟨_, rfl⟩ | ⟨_, rfl⟩ | ⟨_, rfl⟩ | ⟨_, rfl⟩ | ⟨_, rfl⟩ | ⟨_, rfl⟩
      all_goals first | exact nn | (refine old _ ?_; simp; done) | skip
      exact ⟨(Looks.ld (S.ex _ (List.mem_cons_self ..)).1).andThen (Looks.of_pure (sn_none "member_descriptor" (by simp))), rfl⟩
    refine w_ff (show ¬ (heldUnderItsOwnName m v = true) by rw [hx.2]; exact Bool.false_ne_true) (wpAny_bind (hx.1.here (wpAny_pure q)))
  refine wpAny_bind (super_call S.c rfl fun so s16 g16 hso => ?_)
  refine wpAny_bind (wpAny_holding (super_get hso (g16.keep _ _ S.c) rfl ((hno C).keeps (S.up.trans g16).keep) fun b s17 g17 hb => ?_))
  refine wpAny_bind (ois_call hb ((g16.trans g17).keep _ _ S.c) rfl rfl (wpAny_pure ?_))
  exact wpAny_pure (hq C D p tm s17 (S.grew (g16.trans g17)) hp)
end
end Mine
end
section
open PySem PySem.W PyProof.Rows
set_option Elab.async false
set_option linter.unusedVariables false
set_option maxRecDepth 100000
namespace Mine
open PySem.Builtin
theorem tc_ck (n : Str) (t : Tok) (b ns : Addr) : checkTypeCall "type" ⟨[.str n t, .ref b, .ref ns], []⟩ = pure () := by kernel_rfl
theorem tc_mroT : (mroOf (.type "type") : Sem (List Value)) = pure [.type "type", .type "object"] := by kernel_rfl
theorem tc_madeT : Bind.madeBy (.type "type") = pure (some "type.__new__") := by kernel_rfl
theorem ti_slot : Slot "type" "__init__" "type.__init__" := .of (owner := "type") (n := "__init__") (by rw [typeLookup_type, builtinLookup_eq_fast]; kernel_rfl) (by decide +kernel) (by decide +kernel) (by decide +kernel) (by decide +kernel) (by kernel_rfl)
theorem ti_entry : entryFor table "type.__init__" = some Builtin.«type.__init__» := entryFor_of_tree (by kernel_rfl)
theorem ti_args (a b c d : Value) : argsOk "type.__init__" ⟨[a, b, c, d], []⟩ := by unfold argsOk; kernel_rfl
theorem ti_run (a b c d : Value) : Builtin.«type.__init__» ⟨[a, b, c, d], []⟩ = pure (.done (.ret .none)) := by kernel_rfl
section
variable {prog : Program} {w : World} {A : Around} {E : Value → Shared → Prop} {s : Shared}
theorem wp_typeCall {tn tq : Tok} {bT nsA sl : Addr} {md fl fi f1 f2 f3 f4 f5 st : Value} {ts : Tok} {n : Nat} {Q : Value → Shared → Prop} (hns : nsA ≠ sysModules)
    (hT : s.heap.get? bT = some { cls := .type "tuple", data := .seq #[.type "object"] })
    (hD : DictAt s.heap nsA (kNs md fl (.ref sl) fi f1 f2 f3 f4 f5 st tq))
    (hS : s.heap.get? sl = some { cls := .type "list", dict := none, data := .seq #[.str "obj" ts] n, slots := #[] })
    (hv : ∀ v ∈ [md, fl, .ref sl, fi, f1, f2, f3, f4, f5, st], Looks (model prog w) s.heap (specialOf v "__set_name__") none ∧ ∀ n, heldUnderItsOwnName n v = false)
    (hno : ∀ C : Addr, Looks (model prog w) s.heap (opaqueClassAbove (.ref C)) none)
    (hq : ∀ C D p tm s', NC s s' D C (kNs2 md fl (.ref sl) fi f1 f2 f3 f4 f5 st p) (kObj (kCd C D) (kSl bT tn tq)) [(p, kMembT C tm)] → s.heap.get? p = none → Q (.ref C) s') :
    wpAny (model prog w) A (call (.type "type") [.str kName tn, .ref bT, .ref nsA] []) Q E s := by
  refine wpAny_call (codeAny_of_tree ?_)
  show wpAny _ _ (callAny (.type "type") _) _ _ _
  refine wpAny_pure ⟨Code.quiet_builtin _ (by decide +kernel), codeAny_builtin F.entry_type_call ?_⟩
  unfold Builtin.«type.__call__»
  refine w_tt (by decide) (w_ff (show ¬ (false = true) from Bool.false_ne_true) (w_ff (show ¬ (false = true) from Bool.false_ne_true) ?_))
  refine w_ff (by decide +kernel) (wpAny_bind (w_eq (tc_ck _ _ _ _) (wpAny_bind (w_eq tc_mroT (w_ff (by decide) (wpAny_bind (w_eq tc_madeT (wpAny_bind (wpAny_pure ?_)))))))))
  refine wpAny_bind (wpAny_holding (wpAny_call (codeAny_of_tree ?_)))
  show wpAny _ _ (do checkBuiltinCall "type.__new__" _; again (.builtin "type.__new__" _)) _ _ _
  refine wpAny_bind (w_eq (tn_check _ _ _ _) (wpAny_pure ⟨plainId_quiet tn_quiet _, codeAny_builtin tn_entry ?_⟩))
  refine wp_typeNew hns hT hD hS hv hno fun C D p tm s' S hp => ?_
  refine wpAny_bind (w_isInst S.c tn_sub (w_ff (by decide) ?_))
  refine wpAny_bind (wpAny_holding ?_)
  unfold callSpecial?
  refine wpAny_bind (wpAny_bind (w_typeOf S.c (w_eq ti_slot.lookup ?_)))
  refine wpAny_holding (wpAny_bind (w_eq (ti_slot.bind _) (wpAny_bind ?_)))
  refine wpAny_call_entry ti_slot ⟨_, S.c, rfl⟩ ti_entry (w_eq (ti_run _ _ _ _) ⟨_, rfl, ?_⟩) (ti_args _ _ _ _)
  refine wpAny_pure (w_ff (by decide) (wpAny_pure ?_))
  exact hq C D p tm s' S hp
end
end Mine
end
section
open PySem PySem.W PyProof.Rows
set_option Elab.async false
set_option linter.unusedVariables false
set_option maxRecDepth 100000
namespace Mine
open PySem.Builtin
/-- a class's body under way: its dict and its code's table change, nothing else that stood -/
structure BK (s0 s : Shared) (N P : Addr) (l : List (Str × Value)) (ps : Array Value) (ex : List (Addr × Obj)) : Prop where
  keep : ∀ b ob, b ≠ N → b ≠ P → s0.heap.get? b = some ob → s.heap.get? b = some ob
  g : s.gens = s0.gens
  dr : s.drawn = s0.drawn
  os : s.os = s0.os
  d : DictAt s.heap N l
  t : s.heap.get? P = some (tabObj ps)
  ne : N ≠ P
  ex : ∀ q ∈ ex, s.heap.get? q.1 = some q.2 ∧ q.1 ≠ N ∧ q.1 ≠ P ∧ s0.heap.get? q.1 = none
section
variable {s0 s : Shared} {N P : Addr} {l l' : List (Str × Value)} {ps ps' : Array Value} {ex : List (Addr × Obj)}
theorem BK.setD (S : BK s0 s N P l ps ex) {h' : Heap} {t : Nat} (hd : DictAt h' N l') (hs : Heap.SameBut N s.heap h') : BK s0 { s with heap := h', toks := t } N P l' ps ex :=
  ⟨fun b ob h1 h2 e => (hs.2 b h1).trans (S.keep b ob h1 h2 e), S.g, S.dr, S.os, hd, (hs.2 P S.ne.symm).trans S.t, S.ne, fun q hq => ⟨(hs.2 _ (S.ex q hq).2.1).trans (S.ex q hq).1, (S.ex q hq).2⟩⟩
theorem BK.setT (S : BK s0 s N P l ps ex) {h' : Heap} {t : Nat} (hs : Heap.ExtBut P s.heap h') (ht : h'.get? P = some (tabObj ps')) : BK s0 { s with heap := h', toks := t } N P l ps' ex :=
  ⟨fun b ob h1 h2 e => hs b _ h2 (S.keep b ob h1 h2 e), S.g, S.dr, S.os, S.d.same fun ob e => hs N _ S.ne e, ht, S.ne, fun q hq => ⟨hs _ _ (S.ex q hq).2.2.1 (S.ex q hq).1, (S.ex q hq).2⟩⟩
theorem BK.grew (S : BK s0 s N P l ps ex) {s' : Shared} (g : Grew s s') : BK s0 s' N P l ps ex :=
  ⟨fun b ob h1 h2 e => g.keep _ _ (S.keep b ob h1 h2 e), g.g.trans S.g, g.dr.trans S.dr, g.os.trans S.os, S.d.same fun _ e => g.keep _ _ e, g.keep _ _ S.t, S.ne, fun q hq => ⟨g.keep _ _ (S.ex q hq).1, (S.ex q hq).2⟩⟩
theorem BK.fresh (S : BK s0 s N P l ps ex) {a : Addr} (h : s.heap.get? a = none) : s0.heap.get? a = none ∧ a ≠ N ∧ a ≠ P := by
  have hN : a ≠ N := fun e => by obtain ⟨_, _, h1, _⟩ := S.d; rw [← e, h] at h1; cases h1
  have hP : a ≠ P := fun e => by have h1 := S.t; rw [← e, h] at h1; cases h1
  refine ⟨?_, hN, hP⟩
  cases q : s0.heap.get? a with
  | none => rfl
  | some o => rw [S.keep a o hN hP q] at h; cases h
theorem BK.add (S : BK s0 s N P l ps ex) {a : Addr} {o : Obj} (ha : s.heap.get? a = some o) (h0 : s0.heap.get? a = none ∧ a ≠ N ∧ a ≠ P) : BK s0 s N P l ps ((a, o) :: ex) :=
  ⟨S.keep, S.g, S.dr, S.os, S.d, S.t, S.ne, fun q hq => by
    rcases List.mem_cons.mp hq with rfl | hq
    · exact ⟨ha, h0.2.1, h0.2.2, h0.1⟩
    · exact S.ex q hq⟩
theorem get_size_none (h : Heap) : h.get? h.objs.size = none := by
  cases q : h.get? h.objs.size with
  | none => rfl
  | some o => exact absurd (Heap.lt_size q) (Nat.lt_irrefl _)
theorem get_ge_none {h : Heap} {a : Addr} (ha : h.objs.size ≤ a) : h.get? a = none := by
  cases q : h.get? a with
  | none => rfl
  | some o => exact absurd (Heap.lt_size q) (Nat.not_lt.mpr ha)

variable {M : Model} {A : Around} {E : Value → Shared → Prop} {name : Str} {v : Value} {env : Env}
/-- a name stored in a class's block -/
theorem bk_store {Q : Unit → Shared → Prop} (S : BK s0 s N P l ps ex) (hs : storeName env name v = localSet env name v) (hl : env.locals = N) (hp : putN name v l = l') (h : ∀ s', BK s0 s' N P l' ps ex → Q () s') : wpAny M A (storeName env name v) Q E s := by
  obtain ⟨es, n, h1, h2⟩ := id S.d
  rw [hs]
  unfold localSet
  rw [hl]
  refine wpAny_bind (wpAny_load h1 (w_tt (show (true = true) from rfl) ?_))
  exact dn_set S.d fun h' hd hs => h _ (S.setD (hp ▸ hd) hs)
theorem bk_def {mg : Str → Option Value} {args : Arguments} {body : List Stmt} {scope : Scope} {bind : Str} {pos : Pos} {c : Addr} {clos : List (Str × Addr)} {Q : Flow → Shared → Prop} {qual : Str} (S : BK s0 s N P l ps ex)
    (hdef : defaultsOf args env = ([], [])) (hann : annotationsOf (args.args ++ args.posonlyargs ++ args.vararg.toList ++ args.kwonlyargs ++ args.kwarg.toList) env = []) (hqual : qualnameIn env name bind = qual)
    (hcl : closureFor scope env = pure clos) (hg : env.globals = mainGlobals) (hcode : env.code = .ref c) (C : CodeHd s0.heap c P) (hcN : c ≠ N) (ht : TriplesOk ps.toList) (hnf : codeAmong pos ps.toList = none) (hgP : mainGlobals ≠ P) (hgN : mainGlobals ≠ N)
    (hG : s0.heap.Ns mainGlobals mg) (hb : s0.heap.BuiltinsAt mg P) (hbN : ∀ b, mg "__builtins__" = some (.ref b) → b ≠ N)
    (hs : ∀ v, storeName env bind v = localSet env bind v) (hl : env.locals = N)
    (h : ∀ f c' oc vs t ctv doc s', BK s0 s' N P (putN bind (.ref f) l) (ps ++ #[rawInt pos.line, rawInt pos.col, .ref c']) ((f, fnMade name qual args body scope clos doc ((mg "__name__").getD .none) c' ctv) :: (c', oc) :: ex) → oc.data = .fields vs → vs[1]? = some (.str qual t) → f ≠ c' → (∀ q ∈ ex, q.1 ≠ f ∧ q.1 ≠ c') → Q .next s') :
    wpAny M A (exec (.FunctionDef name args body [] none [] scope none bind pos) env) Q E s := by
  obtain ⟨po, ar, va, ko, kd, kwa, df⟩ := args
  rw [arm_exec_FunctionDef]
  unfold defStmt
  refine w_ff (by simp) ?_
  refine wpAny_bind (wpAny_pure (wpAny_bind (wpAny_standAt ?_)))
  rw [hdef]
  refine wpAny_bind (wpAny_holding (wpAny_bind (wpAny_pure (wpAny_bind (wpAny_holding (wpAny_pure (wpAny_holding ?_)))))))
  refine wpAny_bind (w_eq (v := []) (show evalNamed (annotationsOf (ar ++ po ++ va.toList ++ ko ++ kwa.toList) env ++ (Option.map (fun x => (Str.ofString "return", x)) (evalOpt none env)).toList) = pure [] by rw [hann, show evalOpt none env = none from rfl]; rfl) ?_)
  rw [hqual]
  have hG' : s.heap.Ns mainGlobals mg := by
    obtain ⟨ob, es, ep, e, r⟩ := hG
    exact ⟨ob, es, ep, S.keep _ _ hgN hgP e, r⟩
  have C' : CodeHd s.heap c P := by
    obtain ⟨o, vs, file, tf, flags, tg, inF, text, tt, h1, h2, h3, h4, h5, h6, h7, h8, h9, h10⟩ := C
    exact ⟨o, vs, file, tf, flags, tg, inF, text, tt, S.keep _ _ hcN h10 h1, h2, h3, h4, h5, h6, h7, h8, h9, h10⟩
  have hb' : s.heap.BuiltinsAt mg P := by
    obtain ⟨bm, o, b1, b2, b3, b4, b5, b6⟩ := hb
    exact ⟨bm, o, b1, b2, b3, b4, S.keep _ _ (hbN _ b1) b4 b5, b6⟩
  refine makeFunction_K hcl hg hG' hcode C' S.t ht hnf hgP hb' fun c' ctv doc h' tk a1 a2 a3 a4 a5 => ?_
  refine wpAny_bind (wpAny_pure (wpAny_bind (wpAny_standAt (wpAny_bind (wpAny_bind (wpAny_holding (wpAny_point (wpAny_bind ?_))))))))
  have S1 := S.setT (t := tk) a1 a5
  have S2 := S1.grew (s' := { s with heap := h'.push (fnMade name qual ⟨po, ar, va, ko, kd, kwa, df⟩ body scope clos doc ((mg "__name__").getD .none) c' ctv), toks := tk }) ⟨fun _ _ e => Heap.get?_push_of_some _ e, rfl, rfl, rfl, Nat.le_refl _⟩
  obtain ⟨c2, oc, vs, t2, e0, e1, e2, e3⟩ := a4
  cases e0
  have S3 := S2.add (a := c') (o := oc) (Heap.get?_push_of_some _ e1) (S.fresh (get_ge_none a2))
  have S4 := S3.add (a := h'.objs.size) (o := fnMade name qual ⟨po, ar, va, ko, kd, kwa, df⟩ body scope clos doc ((mg "__name__").getD .none) c' ctv) (Heap.get?_push_size _ rfl) (S1.fresh (get_size_none h'))
  refine bk_store S4 (hs _) hl rfl fun s' S5 => ?_
  exact wpAny_point (wpAny_pure (h _ c' oc vs t2 ctv doc s' S5 e2 e3 (Nat.ne_of_gt a3) fun q hq => by
    have hl := Nat.lt_of_lt_of_le (Heap.lt_size (S.ex q hq).1) a2
    exact ⟨Nat.ne_of_lt (Nat.lt_trans hl a3), Nat.ne_of_lt hl⟩))
end
end Mine
end
section
open PySem PySem.W PyProof.Rows
set_option Elab.async false
set_option linter.unusedVariables false
set_option maxRecDepth 100000
namespace Mine
open PySem.Builtin
def stName : Stmt → Str | .FunctionDef n .. => n | .ClassDef n .. => n | _ => default
def stArgs : Stmt → Arguments | .FunctionDef _ a .. => a | _ => default
def stBody : Stmt → List Stmt | .FunctionDef _ _ b .. => b | .ClassDef _ _ _ b .. => b | _ => []
def stScope : Stmt → Scope | .FunctionDef _ _ _ _ _ _ s .. => s | .ClassDef _ _ _ _ _ _ s .. => s | _ => default
def stPos : Stmt → Pos | .FunctionDef _ _ _ _ _ _ _ _ _ p => p | .ClassDef _ _ _ _ _ _ _ _ _ _ p => p | _ => default
def kDef : Stmt := (bdAt 67).getD 0 (.Pass default)
def kSt (i : Nat) : Stmt := (stBody kDef).getD i (.Pass default)
def kEnv (N c fr mc : Addr) : Env := { scope := stScope kDef, locals := N, globals := mainGlobals, qual := kQual ++ ".", code := .ref c, frame := some fr, builtins := builtinsNs, cells := [("mycmp", mc)] }
theorem kBody_eq : stBody kDef = [kSt 0, kSt 1, kSt 2, kSt 3, kSt 4, kSt 5, kSt 6, kSt 7, kSt 8] := by kernel_rfl
def fdSt (i : Nat) : Stmt := .FunctionDef (stName (kSt i)) (stArgs (kSt i)) (stBody (kSt i)) [] none [] (stScope (kSt i)) none (stName (kSt i)) (stPos (kSt i))
theorem kSt_def : ∀ i ∈ [2, 3, 4, 5, 6, 7], kSt i = fdSt i := by
  intro i hi
  simp only [List.mem_cons, List.not_mem_nil, or_false] at hi
  rcases hi with rfl | rfl | rfl | rfl | rfl | rfl <;> kernel_rfl
theorem kSt_dfl (N c fr mc : Addr) : ∀ i ∈ [2, 3, 4, 5, 6, 7], defaultsOf (stArgs (kSt i)) (kEnv N c fr mc) = ([], []) := by
  intro i hi
  simp only [List.mem_cons, List.not_mem_nil, or_false] at hi
  rcases hi with rfl | rfl | rfl | rfl | rfl | rfl <;> kernel_rfl
theorem kSt_ann (N c fr mc : Addr) : ∀ i ∈ [2, 3, 4, 5, 6, 7], annotationsOf ((stArgs (kSt i)).args ++ (stArgs (kSt i)).posonlyargs ++ (stArgs (kSt i)).vararg.toList ++ (stArgs (kSt i)).kwonlyargs ++ (stArgs (kSt i)).kwarg.toList) (kEnv N c fr mc) = [] := by
  intro i hi
  simp only [List.mem_cons, List.not_mem_nil, or_false] at hi
  rcases hi with rfl | rfl | rfl | rfl | rfl | rfl <;> kernel_rfl
def kClos (i : Nat) (mc : Addr) : List (Str × Addr) := if i = 2 then [] else [("mycmp", mc)]
theorem kSt_clos (N c fr mc : Addr) : ∀ i ∈ [2, 3, 4, 5, 6, 7], closureFor (stScope (kSt i)) (kEnv N c fr mc) = pure (kClos i mc) := by
  intro i hi
  simp only [List.mem_cons, List.not_mem_nil, or_false] at hi
  rcases hi with rfl | rfl | rfl | rfl | rfl | rfl <;> kernel_rfl
theorem kSt_store (N c fr mc : Addr) (v : Value) : ∀ i ∈ [2, 3, 4, 5, 6, 7], storeName (kEnv N c fr mc) (stName (kSt i)) v = localSet (kEnv N c fr mc) (stName (kSt i)) v := by
  intro i hi
  simp only [List.mem_cons, List.not_mem_nil, or_false] at hi
  rcases hi with rfl | rfl | rfl | rfl | rfl | rfl <;> kernel_rfl
def kQ (i : Nat) : Str := kQual ++ "." ++ stName (kSt i)
theorem kSt_qual (N c fr mc : Addr) : ∀ i ∈ [2, 3, 4, 5, 6, 7], qualnameIn (kEnv N c fr mc) (stName (kSt i)) (stName (kSt i)) = kQ i := by
  intro i hi
  simp only [List.mem_cons, List.not_mem_nil, or_false] at hi
  rcases hi with rfl | rfl | rfl | rfl | rfl | rfl <;> kernel_rfl
def kFn (i : Nat) (mc : Addr) (doc pm : Value) (c' : Addr) (ctv : Value) : Obj := fnMade (stName (kSt i)) (kQ i) (stArgs (kSt i)) (stBody (kSt i)) (stScope (kSt i)) (kClos i mc) doc pm c' ctv
def kT : List (Nat × Addr) → List Value
  | [] => []
  | (i, c) :: r => rawInt (stPos (kSt i)).line :: rawInt (stPos (kSt i)).col :: .ref c :: kT r
theorem kT_ok : ∀ l, TriplesOk (kT l)
  | [] => trivial
  | (i, c) :: r => kT_ok r
theorem kT_snoc (i : Nat) (c : Addr) : ∀ l, kT l ++ [rawInt (stPos (kSt i)).line, rawInt (stPos (kSt i)).col, .ref c] = kT (l ++ [(i, c)])
  | [] => rfl
  | (j, d) :: r => by show _ :: _ :: _ :: (kT r ++ _) = _; rw [kT_snoc i c r]; rfl
/-- what the class's block asks of the state -/
structure KB (mg : Str → Option Value) (s0 : Shared) (N P c : Addr) : Prop where
  C : CodeHd s0.heap c P
  cN : c ≠ N
  gP : mainGlobals ≠ P
  gN : mainGlobals ≠ N
  G : s0.heap.Ns mainGlobals mg
  b : s0.heap.BuiltinsAt mg P
  bN : ∀ b, mg "__builtins__" = some (.ref b) → b ≠ N
section
variable {s0 s : Shared} {N P c fr mc : Addr} {l l' : List (Str × Value)} {tl : List (Nat × Addr)} {ex : List (Addr × Obj)} {M : Model} {A : Around} {E : Value → Shared → Prop} {mg : Str → Option Value}
theorem k_def (i : Nat) (hi : i ∈ [2, 3, 4, 5, 6, 7]) {Q : Flow → Shared → Prop} (B : KB mg s0 N P c) (S : BK s0 s N P l (kT tl).toArray ex) (hnf : codeAmong (stPos (kSt i)) (kT tl) = none)
    (h : ∀ f c' oc vs t ctv doc s', BK s0 s' N P (putN (stName (kSt i)) (.ref f) l) (kT (tl ++ [(i, c')])).toArray ((f, kFn i mc doc ((mg "__name__").getD .none) c' ctv) :: (c', oc) :: ex) → oc.data = .fields vs → vs[1]? = some (.str (kQ i) t) → f ≠ c' → (∀ q ∈ ex, q.1 ≠ f ∧ q.1 ≠ c') → Q .next s') :
    wpAny M A (exec (kSt i) (kEnv N c fr mc)) Q E s := by
  rw [kSt_def i hi]
  refine bk_def S (kSt_dfl _ _ _ _ i hi) (kSt_ann _ _ _ _ i hi) (kSt_qual _ _ _ _ i hi) (kSt_clos _ _ _ _ i hi) rfl rfl B.C B.cN (kT_ok _) hnf B.gP B.gN B.G B.b B.bN (fun v => kSt_store _ _ _ _ v i hi) rfl fun f c' oc vs t ctv doc s' S' a1 a2 a3 a4 => h f c' oc vs t ctv doc s' ?_ a1 a2 a3 a4
  rw [show (kT (tl ++ [(i, c')])).toArray = (kT tl).toArray ++ #[rawInt (stPos (kSt i)).line, rawInt (stPos (kSt i)).col, .ref c'] by rw [← kT_snoc]; simp]
  exact S'
theorem kSt0 : kSt 0 = .Assign [.Name "__module__" ⟨66, 8, 66, 18⟩] (.Constant (.str "cpy313.functools") 0 ⟨66, 21, 66, 39⟩) ⟨66, 8, 66, 39⟩ := by kernel_rfl
theorem kSt1 : kSt 1 = .Assign [.Name "__slots__" ⟨67, 8, 67, 17⟩] (.List [.Constant (.str "obj") 0 ⟨67, 21, 67, 26⟩] ⟨67, 20, 67, 27⟩) ⟨67, 8, 67, 27⟩ := by kernel_rfl
theorem kSt8 : kSt 8 = .Assign [.Name "__hash__" ⟨86, 8, 86, 16⟩] (.Constant .none 0 ⟨86, 19, 86, 23⟩) ⟨86, 8, 86, 23⟩ := by kernel_rfl
def kNs0 (md0 fl : Value) (tq : Tok) : List (Str × Value) := [("__module__", md0), ("__qualname__", .str kQual tq), ("__firstlineno__", fl)]
/-- what stands when the block has run -/
structure KDone (mc : Addr) (pm : Value) (sl fi f1 f2 f3 f4 f5 ci c1 : Addr) (ex : List (Addr × Obj)) : Prop where
  hsl : ∃ t, (sl, ({ cls := .type "list", data := .seq #[.str "obj" t] } : Obj)) ∈ ex
  hfi : ∃ doc ctv, (fi, kFn 2 mc doc pm ci ctv) ∈ ex
  hf1 : ∃ doc ctv, (f1, kFn 3 mc doc pm c1 ctv) ∈ ex
  hci : ∃ oc vs t, (ci, oc) ∈ ex ∧ oc.data = .fields vs ∧ vs[1]? = some (.str (kQ 2) t)
  hc1 : ∃ oc vs t, (c1, oc) ∈ ex ∧ oc.data = .fields vs ∧ vs[1]? = some (.str (kQ 3) t)
  hfn : ∀ f ∈ [fi, f1, f2, f3, f4, f5], ∃ o, (f, o) ∈ ex ∧ o.cls = .type "function"
  nd : [fi, f1, ci, c1].Nodup
def kNsB (md fl sl fi f1 f2 f3 f4 f5 : Value) (tq : Tok) : List (Str × Value) := [("__module__", md), ("__qualname__", .str kQual tq), ("__firstlineno__", fl), ("__slots__", sl), ("__init__", fi), ("__lt__", f1), ("__gt__", f2), ("__eq__", f3), ("__le__", f4), ("__ge__", f5), ("__hash__", .none)]
theorem wp_kBody {md0 fl : Value} {tq : Tok} {Q : Flow → Shared → Prop} (B : KB mg s0 N P c) (S : BK s0 s N P (kNs0 md0 fl tq) #[] [])
    (h : ∀ tm sl fi f1 f2 f3 f4 f5 ci c1 ps ex s', BK s0 s' N P (kNsB (.str "cpy313.functools" tm) fl (.ref sl) (.ref fi) (.ref f1) (.ref f2) (.ref f3) (.ref f4) (.ref f5) tq) ps ex → KDone mc ((mg "__name__").getD .none) sl fi f1 f2 f3 f4 f5 ci c1 ex → Q .next s') :
    wpAny M A (execs (stBody kDef) (kEnv N c fr mc)) Q E s := by
  rw [kBody_eq]
  rw [kSt0, kSt1, kSt8]
  refine wpAny_execs_cons (wpAny_Assign_Name (wpAny_Constant_str ?_) (by kernel_rfl))
  have S := S.grew (.tok (t := s.toks + 1) (Nat.le_succ _))
  generalize s.toks = tm at S ⊢
  refine bk_store S (by kernel_rfl) rfl (l' := [("__module__", .str "cpy313.functools" tm), ("__qualname__", .str kQual tq), ("__firstlineno__", fl)]) (by kernel_rfl) fun s1 S => ?_
  refine wpAny_execs_cons (wpAny_Assign_Name (wpAny_List (wpAny_items_cons (wpAny_Constant_str (wpAny_items_nil ⟨show (1 : Nat) ≤ sizeLine by decide, ?_⟩)))) (by kernel_rfl))
  have f0 := S.fresh (get_size_none s1.heap)
  have S := S.grew (s' := { s1 with toks := s1.toks + 1, heap := s1.heap.push { cls := .type "list", data := .seq [Value.str "obj" s1.toks].toArray } }) ⟨fun _ _ e => Heap.get?_push_of_some _ e, rfl, rfl, rfl, Nat.le_succ _⟩
  have S := S.add (a := s1.heap.objs.size) (Heap.get?_push_size _ rfl) f0
  generalize s1.heap.objs.size = sl at S ⊢
  generalize s1.toks = tsl at S ⊢
  refine bk_store S (by kernel_rfl) rfl (l' := [("__module__", .str "cpy313.functools" tm), ("__qualname__", .str kQual tq), ("__firstlineno__", fl), ("__slots__", .ref sl)]) (by kernel_rfl) fun s2 S => ?_
  refine wpAny_execs_cons (k_def 2 (by simp) (tl := []) B S (by kernel_rfl) fun fi ci oi vi ti ctvi doci s3 S i1 i2 i3 _ => ?_)
  refine wpAny_execs_cons (k_def 3 (by simp) B S (by kernel_rfl) fun f1 c1 o1 v1 t1 ctv1 doc1 s4 S j1 j2 j3 j4 => ?_)
  refine wpAny_execs_cons (k_def 4 (by simp) B S (by kernel_rfl) fun f2 c2 o2 v2 t2 ctv2 doc2 s5 S _ _ _ _ => ?_)
  refine wpAny_execs_cons (k_def 5 (by simp) B S (by kernel_rfl) fun f3 c3 o3 v3 t3 ctv3 doc3 s6 S _ _ _ _ => ?_)
  refine wpAny_execs_cons (k_def 6 (by simp) B S (by kernel_rfl) fun f4 c4 o4 v4 t4 ctv4 doc4 s7 S _ _ _ _ => ?_)
  refine wpAny_execs_cons (k_def 7 (by simp) B S (by kernel_rfl) fun f5 c5 o5 v5 t5 ctv5 doc5 s8 S _ _ _ _ => ?_)
  refine wpAny_execs_cons (wpAny_Assign_Name (fun _ _ _ => ?_) (by kernel_rfl))
  refine bk_store S (by kernel_rfl) rfl (l' := kNsB (.str "cpy313.functools" tm) fl (.ref sl) (.ref fi) (.ref f1) (.ref f2) (.ref f3) (.ref f4) (.ref f5) tq) (by kernel_rfl) (fun s9 S => ?_)
  refine wpAny_execs_nil (h tm sl fi f1 f2 f3 f4 f5 ci c1 _ _ s9 S ?_)
  have a1 := j4 (fi, _) (List.mem_cons_self ..)
  have a2 := j4 (ci, _) (List.mem_cons_of_mem _ (List.mem_cons_self ..))
  refine ⟨⟨tsl, by simp only [List.mem_cons, true_or, or_true]⟩, ⟨doci, ctvi, by simp only [List.mem_cons, true_or, or_true]⟩, ⟨doc1, ctv1, by simp only [List.mem_cons, true_or, or_true]⟩, ⟨oi, vi, ti, by simp only [List.mem_cons, true_or, or_true], i1, i2⟩, ⟨o1, v1, t1, by simp only [List.mem_cons, true_or, or_true], j1, j2⟩, fun f hf => ?_, ?_⟩
  · simp only [List.mem_cons, List.not_mem_nil, or_false] at hf
    rcases hf with rfl | rfl | rfl | rfl | rfl | rfl
    · exact ⟨kFn 2 mc doci ((mg "__name__").getD .none) ci ctvi, by simp only [List.mem_cons, true_or, or_true], rfl⟩
    · exact ⟨kFn 3 mc doc1 ((mg "__name__").getD .none) c1 ctv1, by simp only [List.mem_cons, true_or, or_true], rfl⟩
    · exact ⟨kFn 4 mc doc2 ((mg "__name__").getD .none) c2 ctv2, by simp only [List.mem_cons, true_or, or_true], rfl⟩
    · exact ⟨kFn 5 mc doc3 ((mg "__name__").getD .none) c3 ctv3, by simp only [List.mem_cons, true_or, or_true], rfl⟩
    · exact ⟨kFn 6 mc doc4 ((mg "__name__").getD .none) c4 ctv4, by simp only [List.mem_cons, true_or, or_true], rfl⟩
    · exact ⟨kFn 7 mc doc5 ((mg "__name__").getD .none) c5 ctv5, by simp only [List.mem_cons, true_or, or_true], rfl⟩
  · simp [a1.1, a1.2, a2.1, a2.2, i3, j3, Ne.symm a2.1]
end
end Mine
end
section
open PySem PySem.W PyProof.Rows
set_option Elab.async false
set_option linter.unusedVariables false
set_option maxRecDepth 100000
namespace Mine
open PySem.Builtin
theorem tga_prep (t : Tok) : Builtin.«type.__getattribute__» ⟨[.type "type", .str "__prepare__" t], []⟩ = (do let v ← holding [.builtin "type.__prepare__"] (call (.builtin "classmethod_descriptor.__get__") [.builtin "type.__prepare__", .none, .type "type"]); ret v) := by kernel_rfl
theorem cmd_prep : Builtin.«classmethod_descriptor.__get__» ⟨[.builtin "type.__prepare__", .none, .type "type"], []⟩ = (do let v ← newFields "builtin_function_or_method" [.builtin "type.__prepare__", .type "type"]; ret v) := by kernel_rfl
theorem prep_type : typeOf (.builtin "type.__prepare__") = pure (.type "classmethod_descriptor") := by kernel_rfl
theorem type_type : typeOf (.type "type") = pure (.type "type") := by kernel_rfl
theorem prep_check (n : Str) (t : Tok) (b : Addr) : checkBoundCall "type.__prepare__" ⟨[.type "type", .str n t, .ref b], []⟩ = pure () := by kernel_rfl
theorem prep_entry : entryFor table "type.__prepare__" = some Builtin.«type.__prepare__» := entryFor_of_tree (by kernel_rfl)
theorem prep_plain : plainId "type.__prepare__" = true := by decide +kernel
theorem dict_getitem : (typeLookup (.type "dict") "__getitem__" : Sem (Option Value)) = pure (some (.builtin "dict.__getitem__")) := by kernel_rfl
section
variable {prog : Program} {w : World} {A : Around} {E : Value → Shared → Prop} {s : Shared}
theorem prep_get {Q : Option Value → Shared → Prop} (hq : ∀ b s', Grew s s' → s'.heap.get? b = some { cls := .type "builtin_function_or_method", data := .fields #[.builtin "type.__prepare__", .type "type"] } → Q (some (.ref b)) s') :
    wpAny (model prog w) A (getAttr? (.type "type") "__prepare__") Q E s := by
  unfold getAttr? getAttrBy? getAttrBy
  refine wpAny_bind (w_text fun t s1 g1 => ?_)
  refine wpAny_bind (wpAny_attempt (wpAny_holding (wpAny_bind (w_eq type_type (wpAny_bind (w_eq KF.slot_tga.lookup ?_))))))
  show wpAny _ _ (getAttrByItsOwn (.type "type") (.str "__prepare__" t) (.type "type") (.builtin "type.__getattribute__") false false) _ _ _
  unfold getAttrByItsOwn hookBefore callGetattribute boundAndCalled
  refine wpAny_bind (w_eq (show (if onTheHeap (.type "type") then typeLookup (.type "type") "__getattr__" else pure none) = pure none from rfl) ?_)
  refine wpAny_bind (wpAny_attempt (wpAny_holding ?_))
  show wpAny _ _ (bindSpecial (.builtin "type.__getattribute__") (.type "type") >>= _) _ _ _
  refine wpAny_bind (w_eq (KF.slot_tga.bind _) ?_)
  refine wpAny_call_entry KF.slot_tga (show s1.TypeIs (.type "type") "type" from type_type) KF.entry_tga ?_ (KF.args_tga _ _)
  refine w_of (tga_prep t) ?_
  refine wpAny_bind (wpAny_holding ?_)
  refine wpAny_call_entry is_slot_cmd (show s1.TypeIs (.builtin "type.__prepare__") "classmethod_descriptor" from prep_type) cmd_entry ?_ (cmd_args _ _ _)
  refine w_of cmd_prep ?_
  refine wpAny_bind (w_new (show (2 : Nat) ≤ sizeLine + 2 by decide) rfl fun b s2 g2 hb _ => wpAny_pure ⟨_, rfl, wpAny_pure ⟨_, rfl, wpAny_pure (wpAny_pure (hq b s2 (g1.trans g2) hb))⟩⟩)
theorem prep_call {b bT : Addr} {n : Str} {t : Tok} {Q : Value → Shared → Prop} (hb : s.heap.get? b = some { cls := .type "builtin_function_or_method", data := .fields #[.builtin "type.__prepare__", .type "type"] })
    (hq : ∀ d s', Grew s s' → s'.heap.get? d = some { cls := .type "dict", data := .dict #[] } → d = s.heap.objs.size → Q (.ref d) s') : wpAny (model prog w) A (call (.ref b) [.str n t, .ref bT] []) Q E s := by
  refine wpAny_call (codeAny_of_tree ?_)
  show wpAny _ _ (callAny (.ref b) _) _ _ _
  unfold callAny
  refine wpAny_bind (wpAny_load hb (w_tt (show (true = true) from rfl) (w_tt (show (true = true) from rfl) ?_)))
  refine wpAny_bind (w_eq (prep_check n t bT) ?_)
  refine wpAny_pure ⟨plainId_quiet prep_plain _, codeAny_builtin prep_entry ?_⟩
  unfold Builtin.«type.__prepare__»
  exact wpAny_bind (w_new (show (0 : Nat) ≤ sizeLine + 1 by decide) rfl fun d s2 g2 hd e => wpAny_pure (hq d s2 g2 hd e))
end
end Mine
end
section
open PySem PySem.W PyProof.Rows
set_option Elab.async false
set_option linter.unusedVariables false
set_option maxRecDepth 100000
namespace Mine
open PySem.Builtin
/-- what a class statement asks of the heap, but for a table -/
structure KS (mg : Str → Option Value) (h : Heap) (P : Addr) : Prop where
  G : h.Ns mainGlobals mg
  b : h.BuiltinsAt mg P
  st : ∃ m, h.Ns cStatics m ∧ m "sys.recursionlimit" = none ∧ m "thirdparty.any" = none
  gP : mainGlobals ≠ P
  sP : cStatics ≠ P
theorem KS.ext {mg h h' P} (K : KS mg h P) (k : ∀ b o, b ≠ P → h.get? b = some o → h'.get? b = some o) : KS mg h' P := by
  obtain ⟨⟨o, es, ep, e, r⟩, ⟨bm, ob, b1, b2, b3, b4, b5, b6⟩, ⟨m, ⟨o', es', ep', e', r'⟩, m1, m2⟩, g, sp⟩ := K
  exact ⟨⟨o, es, ep, k _ _ g e, r⟩, ⟨bm, ob, b1, b2, b3, b4, k _ _ b4 b5, b6⟩, ⟨m, ⟨o', es', ep', k _ _ sp e', r'⟩, m1, m2⟩, g, sp⟩
theorem KS.nolimit {mg h P} (K : KS mg h P) : h.NoLimit := let ⟨m, a, b, _⟩ := K.st; ⟨m, a, b⟩
theorem KS.no {mg h P} (K : KS mg h P) {M : Model} (C : Addr) : Looks M h (opaqueClassAbove (.ref C)) none := fun A Q E s k q => by
  obtain ⟨m, a, _, b⟩ := K.st
  unfold opaqueClassAbove anyOpaqueLoaded
  refine wpAny_bind (wpAny_bind (wpAny_nsGet (a.keeps k) ?_))
  rw [b]
  exact wpAny_pure (w_tt rfl (wpAny_pure q))
theorem ne_old {h : Heap} {a b : Addr} {o : Obj} (ha : h.get? a = some o) (hb : h.get? b = none) : a ≠ b := fun e => by rw [e, hb] at ha; cases ha
theorem Ns_some {h : Heap} {a : Addr} {m} (x : h.Ns a m) : ∃ o, h.get? a = some o := let ⟨o, _, _, e, _⟩ := x; ⟨o, e⟩
theorem k_loadName {M : Model} {A : Around} {E : Value → Shared → Prop} {s : Shared} {mg : Str → Option Value} {N c fr mc : Addr} {v : Value} {Q : Value → Shared → Prop} (hD : DictAt s.heap N []) (hG : s.heap.Ns mainGlobals mg) (hv : mg "__name__" = some v) (h : Q v s) : wpAny M A (loadName (kEnv N c fr mc) "__name__") Q E s := by
  obtain ⟨es, n, h1, h2⟩ := id hD
  unfold loadName
  have hbk : (kEnv N c fr mc).blockKind = .class := by kernel_rfl
  have hko : (kEnv N c fr mc).kindOf "__name__" = none := by kernel_rfl
  have han : (kEnv N c fr mc).scope.kind.isAnnotationScope = false := by kernel_rfl
  refine w_ff (by rw [han]; exact Bool.false_ne_true) ?_
  show wpAny M A (match (kEnv N c fr mc).blockKind, (kEnv N c fr mc).kindOf "__name__" with | _, _ => _) Q E s
  rw [hbk, hko]
  refine w_ff (by decide +kernel) ?_
  refine wpAny_bind ?_
  unfold localGet
  refine wpAny_bind (wpAny_load h1 (w_tt (show (true = true) from rfl) (dn_get hD (r := none) rfl ?_)))
  unfold loadGlobal
  refine wpAny_bind (wpAny_nsGet hG ?_)
  rw [hv]
  exact wpAny_pure h
/-- the class is made -/
structure KMade (mg : Str → Option Value) (s s' : Shared) (P : Addr) (ps : Array Value) (mc C D p fi f1 ci c1 cc : Addr) : Prop where
  keep : ∀ b ob, b ≠ P → s.heap.get? b = some ob → s'.heap.get? b = some ob
  g : s'.gens = s.gens
  os : s'.os = s.os
  tab : s'.heap.get? P = some (tabObj (ps ++ #[rawInt (stPos kDef).line, rawInt (stPos kDef).col, .ref cc]))
  cls : ∃ bT tn tq, s'.heap.get? C = some (kObj (kCd C D) (kSl bT tn tq))
  dict : ∃ md fl sl f2 f3 f4 f5 st, DictAt s'.heap D (kNs2 md fl sl (.ref fi) (.ref f1) f2 f3 f4 f5 st p)
  memb : ∃ tm, s'.heap.get? p = some (kMembT C tm)
  hfi : ∃ doc ctv, s'.heap.get? fi = some (kFn 2 mc doc ((mg "__name__").getD .none) ci ctv)
  hf1 : ∃ doc ctv, s'.heap.get? f1 = some (kFn 3 mc doc ((mg "__name__").getD .none) c1 ctv)
  hci : s'.heap.CodeRec (.ref ci) (kQ 2)
  hc1 : s'.heap.CodeRec (.ref c1) (kQ 3)
  new : ∀ a ∈ [C, D, p, fi, f1, ci, c1], s.heap.get? a = none
  nd : [C, D, p, fi, f1, ci, c1].Nodup
section
variable {prog : Program} {w : World} {A : Around} {E : Value → Shared → Prop} {s : Shared} {mg : Str → Option Value} {env : Env} {c0 P mc : Addr} {ps : Array Value}
theorem wp_buildK {Q : Value → Shared → Prop} {fl : Nat} (hg : env.globals = mainGlobals) (hcode : env.code = .ref c0) (K : KS mg s.heap P) (C0 : CodeHd s.heap c0 P) (hP : s.heap.get? P = some (tabObj ps)) (ht : TriplesOk ps.toList) (hnf : codeAmong (stPos kDef) ps.toList = none)
    (hcl : closureFor (stScope kDef) env = pure [(("mycmp" : Str), mc)]) (hd : A.depth < recursionLimit) {nm : Value} (hnm : mg "__name__" = some nm)
    (hq : ∀ C D p fi f1 ci c1 cc s', KMade mg s s' P ps mc C D p fi f1 ci c1 cc → Q (.ref C) s') :
    wpAny (model prog w) A (buildClass kName kQual [.type "object"] [] (stBody kDef) (stScope kDef) ["obj"] fl env (stPos kDef) none) Q E s := by
  unfold buildClass
  refine wpAny_bind (w_new (show (1 : Nat) ≤ sizeLine by decide) rfl fun bT s1 g1 hT eT => ?_)
  refine wpAny_bind (w_for1 (w_eq (v := .yield ([.type "object"], false)) (by kernel_rfl) ?_))
  refine wpAny_bind (w_eq (v := .type "type") (by kernel_rfl) ?_)
  refine wpAny_bind (wpAny_pure (w_tt rfl (wpAny_bind (w_for1 (w_eq (v := .yield (.type "type")) (by kernel_rfl) ?_)))))
  refine wpAny_bind (w_text fun tn s2 g2 => ?_)
  refine w_ff (by decide) (wpAny_bind (wpAny_pure (wpAny_holding ?_)))
  refine wpAny_bind (prep_get fun b s3 g3 hb => ?_)
  refine wpAny_bind (prep_call hb fun N s4 g4 hN eN => ?_)
  have gg : Grew s s4 := g1.trans (g2.trans (g3.trans g4))
  have hNs : s.heap.get? N = none := by rw [eN]; exact (g1.trans (g2.trans g3)).fresh
  have hN1 : N ≠ sysModules := by
    obtain ⟨o, ho⟩ := Ns_some (K.G.keeps (g1.trans (g2.trans g3)).keep)
    have h3 : (3 : Nat) < s3.heap.objs.size := Heap.lt_size ho
    rw [eN]
    exact fun e => absurd (e ▸ h3) (by decide)
  refine wpAny_bind (w_ff (by simpa using hN1) (wpAny_pure (wpAny_bind (wpAny_bind (w_typeOf hN (w_eq dict_getitem ?_))))))
  refine w_ff (by simp) (wpAny_holding ?_)
  refine w_ff (by decide +kernel) (wpAny_bind (wpAny_pure (w_ff (by decide +kernel) (wpAny_bind (wpAny_pure ?_)))))
  have K4 := K.ext fun b o _ e => gg.keep b o e
  have hP4 := gg.keep _ _ hP
  refine wpAny_bind (wp_classCode hcode (C0.keeps gg.keep) hP4 ht hnf fun cc P2 h5 tk a1 a2 a3 a4 a5 a6 a7 a8 a9 => ?_)
  have K5 : KS mg h5 P := K4.ext fun b o hb e => a1 b o hb e
  obtain ⟨bm, ob, b1, b2, b3, b4, b5, b6, b7, b8⟩ := id K5.b
  rw [hg]
  refine wpAny_bind (wpAny_builtinsFor K5.G b1 b2 b5 b6 b7 b8 ?_)
  refine wpAny_bind (wpAny_bind (wpAny_nsGet K5.G (w_alloc rfl fun fr s6 g6 hfr efr => ?_)))
  refine wpAny_bind (w_eq hcl (wpAny_holding ?_))
  have K6 : KS mg s6.heap P := K5.ext fun b o _ e => g6.keep b o e
  refine wpAny_bind (wpAny_enterFrame K6.nolimit hd ?_)
  -- where the things of the block stand
  have hlt := Heap.lt_size hN
  have hNP : N ≠ P := Ne.symm (ne_old hP hNs)
  have hccN : cc ≠ N := Nat.ne_of_gt (Nat.lt_of_lt_of_le hlt a2)
  have hNP2 : N ≠ P2 := Nat.ne_of_lt (Nat.lt_of_lt_of_le hlt a3)
  have up6 : ∀ b o, b ≠ P → s.heap.get? b = some o → s6.heap.get? b = some o := fun b o hb e => g6.keep _ _ (a1 b o hb (gg.keep _ _ e))
  have old2 : ∀ b o, s.heap.get? b = some o → b ≠ N ∧ b ≠ P2 := fun b o e => ⟨ne_old e hNs, Nat.ne_of_lt (Nat.lt_of_lt_of_le (Heap.lt_size (gg.keep _ _ e)) a3)⟩
  obtain ⟨og, hog⟩ := Ns_some K.G
  obtain ⟨bm0, ob0, c1, c2, c3, c4, c5, c6, c7, c8⟩ := id K.b
  have B : KB mg s6 N P2 cc := ⟨a7.keeps g6.keep, hccN, (old2 _ _ hog).2, (old2 _ _ hog).1, K6.G, ⟨bm0, ob0, c1, c2, c3, (old2 _ _ c5).2, up6 _ _ c4 c5, c6, c7, c8⟩, fun b hb => by rw [c1] at hb; cases hb; exact (old2 _ _ c5).1⟩
  have hN6 : DictAt s6.heap N [] := ⟨#[], 0, g6.keep _ _ (a1 _ _ hNP hN), rfl⟩
  have S : BK s6 s6 N P2 [] #[] [] := ⟨fun _ _ _ _ e => e, rfl, rfl, rfl, hN6, g6.keep _ _ a8, hNP2, by simp⟩
  refine wpAny_bind (wpAny_onRaise (wpAny_bind (k_loadName (c := cc) (fr := fr) (mc := mc) hN6 K6.G hnm (wpAny_bind ?_))))
  refine bk_store (env := kEnv N cc fr mc) S (by kernel_rfl) rfl (l' := [("__module__", nm)]) rfl fun s7 S => ?_
  refine wpAny_bind (w_text fun tq s8 g8 => wpAny_bind ?_)
  refine bk_store (env := kEnv N cc fr mc) (S.grew g8) (by kernel_rfl) rfl (l' := [("__module__", nm), ("__qualname__", .str kQual tq)]) (by kernel_rfl) fun s9 S => ?_
  refine wpAny_bind (wpAny_mkInt (wpAny_bind ?_))
  refine bk_store (env := kEnv N cc fr mc) (S.grew (.tok (Nat.le_succ _))) (by kernel_rfl) rfl (l' := kNs0 nm (.int fl s9.toks) tq) (by kernel_rfl) fun s10 S => wpAny_pure ?_
  refine wpAny_bind (wpAny_run (codeAny_body (env := kEnv N cc fr mc) (by kernel_rfl) (by kernel_rfl) (wp_kBody B S fun tm sl fi f1 f2 f3 f4 f5 ci c1 ps' ex s11 S KD => ?_)))
  refine wpAny_bind (wpAny_onRaise (wpAny_bind (wpAny_mkStrs fun vs => wpAny_bind (wpAny_newTextTuple (wpAny_bind ?_)))))
  have f0 := S.fresh (get_size_none s11.heap)
  have S := (S.grew (s' := { s11 with toks := s11.toks + [("obj" : Str)].length, heap := s11.heap.push { cls := .type "tuple", data := .seq vs.toArray } }) ⟨fun _ _ e => Heap.get?_push_of_some _ e, rfl, rfl, rfl, Nat.le_add_right _ _⟩).add (a := s11.heap.objs.size) (Heap.get?_push_size _ rfl) f0
  refine bk_store (env := kEnv N cc fr mc) S (by kernel_rfl) rfl (l' := kNs (.str "cpy313.functools" tm) (.int fl s9.toks) (.ref sl) (.ref fi) (.ref f1) (.ref f2) (.ref f3) (.ref f4) (.ref f5) (.ref s11.heap.objs.size) tq) (by kernel_rfl) fun s13 S => wpAny_pure ?_
  refine w_ff (by decide) ?_
  generalize s11.heap.objs.size = st at S f0 ⊢
  have hbs : s.heap.get? bT = none := by rw [eT]; exact get_size_none _
  have hT4 := (g2.trans (g3.trans g4)).keep _ _ hT
  have hT13 : s13.heap.get? bT = some { cls := .type "tuple", data := .seq #[.type "object"] } :=
    S.keep _ _ (Nat.ne_of_lt (by rw [eN]; exact Heap.lt_size ((g2.trans g3).keep _ _ hT))) (Nat.ne_of_lt (Nat.lt_of_lt_of_le (Heap.lt_size hT4) a3)) (g6.keep _ _ (a1 _ _ (Ne.symm (ne_old hP hbs)) hT4))
  have K13 : KS mg s13.heap P := K.ext fun b o hb e => S.keep _ _ (old2 _ _ e).1 (old2 _ _ e).2 (up6 _ _ hb e)
  have exs : ∀ a o, (a, o) ∈ ex → s13.heap.get? a = some o ∧ s6.heap.get? a = none := fun a o h => ⟨(S.ex _ (List.mem_cons_of_mem _ h)).1, (S.ex _ (List.mem_cons_of_mem _ h)).2.2.2⟩
  obtain ⟨tsl, hsl⟩ := KD.hsl
  refine wpAny_bind (wp_typeCall (n := 0) hN1 hT13 S.d (exs _ _ hsl).1 (fun v hv => ?_) (fun C => K13.no C) fun C D p tm' s14 S' hp => ?_)
  · have fn : ∀ f ∈ [fi, f1, f2, f3, f4, f5], Looks (model prog w) s13.heap (specialOf (.ref f) "__set_name__") none ∧ ∀ n, heldUnderItsOwnName n (.ref f) = false := fun f hf => by
      obtain ⟨o, h1, h2⟩ := KD.hfn f hf
      refine ⟨(Looks.ld (exs _ _ h1).1).andThen (Looks.of_pure ?_), fun _ => rfl⟩
      rw [h2]; exact sn_none "function" (by simp)
    simp only [List.mem_cons, List.not_mem_nil, or_false] at hv
    rcases hv with rfl | rfl | rfl | rfl | rfl | rfl | rfl | rfl | rfl | rfl
    · exact ⟨Looks.of_pure (sn_none "str" (by simp)), fun _ => rfl⟩
    · exact ⟨Looks.of_pure (sn_none "int" (by simp)), fun _ => rfl⟩
    · exact ⟨(Looks.ld (exs _ _ hsl).1).andThen (Looks.of_pure (sn_none "list" (by simp))), fun _ => rfl⟩
    · exact fn _ (by simp)
    · exact fn _ (by simp)
    · exact fn _ (by simp)
    · exact fn _ (by simp)
    · exact fn _ (by simp)
    · exact fn _ (by simp)
    · exact ⟨(Looks.ld (S.ex _ (List.mem_cons_self ..)).1).andThen (Looks.of_pure (sn_none "tuple" (by simp))), fun _ => rfl⟩
  obtain ⟨di, cti, hfi⟩ := KD.hfi
  obtain ⟨d1, ct1, hf1⟩ := KD.hf1
  obtain ⟨oi, vi, ti, hci, hci1, hci2⟩ := KD.hci
  obtain ⟨o1, v1, t1, hc1, hc11, hc12⟩ := KD.hc1
  have up14 := S'.up.keep
  have hPn : P ≠ N ∧ P ≠ P2 := old2 _ _ hP
  have hP6 : s6.heap.get? P = some (tabObj (ps ++ #[rawInt (stPos kDef).line, rawInt (stPos kDef).col, .ref cc])) := g6.keep _ _ a9
  have new13 : ∀ b, s13.heap.get? b = none → s.heap.get? b = none := fun b hb => by
    cases q : s.heap.get? b with
    | none => rfl
    | some o =>
      by_cases e : b = P
      · subst e; rw [S.keep _ _ hPn.1 hPn.2 hP6] at hb; cases hb
      · rw [S.keep _ _ (old2 _ _ q).1 (old2 _ _ q).2 (up6 _ _ e q)] at hb; cases hb
  have new6 : ∀ b, s6.heap.get? b = none → s.heap.get? b = none := fun b hb => by
    cases q : s.heap.get? b with
    | none => rfl
    | some o =>
      by_cases e : b = P
      · subst e; rw [hP6] at hb; cases hb
      · rw [up6 _ _ e q] at hb; cases hb
  have dC : ∀ a o, (a, o) ∈ ex → a ≠ C ∧ a ≠ D ∧ a ≠ p := fun a o h => ⟨ne_old (exs _ _ h).1 S'.hC, ne_old (exs _ _ h).1 S'.hD, ne_old (exs _ _ h).1 hp⟩
  have hpx := S'.ex _ (List.mem_cons_self ..)
  refine wpAny_pure (hq C D p fi f1 ci c1 cc s14 ⟨fun b ob hb e => up14 _ _ (S.keep _ _ (old2 _ _ e).1 (old2 _ _ e).2 (up6 _ _ hb e)), ?_, ?_, up14 _ _ (S.keep _ _ hPn.1 hPn.2 hP6), ⟨bT, tn, tq, S'.c⟩, ⟨_, _, _, _, _, _, _, _, S'.d⟩, ⟨tm', hpx.1⟩, ⟨di, cti, up14 _ _ (exs _ _ hfi).1⟩, ⟨d1, ct1, up14 _ _ (exs _ _ hf1).1⟩,
    ⟨ci, oi, vi, ti, rfl, up14 _ _ (exs _ _ hci).1, hci1, hci2⟩, ⟨c1, o1, v1, t1, rfl, up14 _ _ (exs _ _ hc1).1, hc11, hc12⟩, fun a ha => ?_, ?_⟩)
  · rw [S'.up.g, S.g, g6.g, gg.g]
  · rw [S'.up.os, S.os, g6.os, gg.os]
  · simp only [List.mem_cons, List.not_mem_nil, or_false] at ha
    rcases ha with rfl | rfl | rfl | rfl | rfl | rfl | rfl
    · exact new13 _ S'.hC
    · exact new13 _ S'.hD
    · exact new13 _ hp
    · exact new6 _ (exs _ _ hfi).2
    · exact new6 _ (exs _ _ hf1).2
    · exact new6 _ (exs _ _ hci).2
    · exact new6 _ (exs _ _ hc1).2
  · have nd := KD.nd
    have q1 := dC _ _ hfi
    have q2 := dC _ _ hf1
    have q3 := dC _ _ hci
    have q4 := dC _ _ hc1
    simp only [List.nodup_cons, List.mem_cons, List.not_mem_nil, or_false, not_or, not_false_eq_true, List.nodup_nil, and_true] at nd ⊢
    exact ⟨⟨S'.ne.symm, hpx.2.2.symm, q1.1.symm, q2.1.symm, q3.1.symm, q4.1.symm⟩, ⟨hpx.2.1.symm, q1.2.1.symm, q2.2.1.symm, q3.2.1.symm, q4.2.1.symm⟩, ⟨q1.2.2.symm, q2.2.2.symm, q3.2.2.symm, q4.2.2.symm⟩, nd⟩
end
end Mine
end
section
open PySem PySem.W PyProof.Rows
set_option Elab.async false
set_option linter.unusedVariables false
set_option maxRecDepth 100000
namespace Mine
open PySem.Builtin
theorem EsAre.nofind {n : Str} : ∀ {es l}, EsAre es l → l.lookup n = none → es.find? (·.key.isStr n) = none
  | [], l, h, e => rfl
  | e :: es, l, ⟨m, w, t', r, h1, h2, h3, h4⟩, q => by
    subst h1
    rw [List.lookup_cons] at q
    by_cases hm : m = n
    · subst hm; simp at q
    · have hb : (n == m) = false := beq_eq_false_iff_ne.mpr (Ne.symm hm)
      simp only [hb] at q
      rw [List.find?_cons_of_neg (by rw [h2]; show ¬ ((m == n) = true); simpa using hm)]
      exact h4.nofind q
theorem EsAre.norefs : ∀ {es l}, EsAre es l → es.any (·.refKey) = false
  | [], l, h => rfl
  | e :: es, l, ⟨m, w, t', r, h1, h2, h3, h4⟩ => by
    rw [List.any_cons, h4.norefs, Bool.or_false]
    unfold DictEntry.refKey; rw [h2]
/-- the class's own things, as a written part of the heap -/
structure KFr (h : Heap) (C p fi f1 : Addr) (K : Frag) : Prop where
  X : K.In h
  hga : findIn K (.ref C) "__getattribute__" = some (some (.builtin "object.__getattribute__"))
  hk : findIn K (.ref C) "__getattr__" = some none
  hsa : findIn K (.ref C) "__setattr__" = some (some (.builtin "object.__setattr__"))
  hlt : findIn K (.ref C) "__lt__" = some (some (.ref f1))
  hin : findIn K (.ref C) "__init__" = some (some (.ref fi))
  tp : typeIn K (.ref p) = some (.type "member_descriptor")
  sl : slotIn K p C = some 0
  po : plainOver K C = true
  tk : takerIn K C "obj" = some (some (.ref p))
  fo : ∀ od, findObj K C od "obj" = some (.bind (.builtin "member_descriptor.__get__") (.ref p))
theorem kfr {h : Heap} {C D p fi f1 bT : Addr} {tn tq tm : Tok} {md fl sl f2 f3 f4 f5 st : Value} (hC : h.get? C = some (kObj (kCd C D) (kSl bT tn tq))) (hD : DictAt h D (kNs2 md fl sl (.ref fi) (.ref f1) f2 f3 f4 f5 st p))
    (hp : h.get? p = some (kMembT C tm)) : ∃ K, KFr h C p fi f1 K := by
  obtain ⟨es, n, h1, h2⟩ := hD
  have cD : C ≠ D := fun e => by rw [e, h1] at hC; exact absurd (congrArg Obj.cls (Option.some.inj hC)) (show ¬ (Value.type "dict" = Value.type "type") by decide)
  have cp : C ≠ p := fun e => by rw [e, hp] at hC; exact absurd (congrArg Obj.cls (Option.some.inj hC)) (show ¬ (Value.type "member_descriptor" = Value.type "type") by decide)
  have dp : D ≠ p := fun e => by rw [e, hp] at h1; exact absurd (congrArg Obj.cls (Option.some.inj h1)) (show ¬ (Value.type "member_descriptor" = Value.type "dict") by decide)
  refine ⟨[(C, kObj (kCd C D) (kSl bT tn tq)), (D, { cls := .type "dict", dict := none, data := .dict es n, slots := #[] }), (p, kMembT C tm)], ?_⟩
  generalize hK : ([(C, kObj (kCd C D) (kSl bT tn tq)), (D, { cls := .type "dict", dict := none, data := .dict es n, slots := #[] }), (p, kMembT C tm)] : Frag) = K
  have e1 : K.lookup C = some (kObj (kCd C D) (kSl bT tn tq)) := by rw [← hK]; simp
  have e2 : K.lookup D = some { cls := .type "dict", dict := none, data := .dict es n, slots := #[] } := by
    rw [← hK, List.lookup_cons, beq_eq_false_iff_ne.mpr cD.symm]; simp
  have e3 : K.lookup p = some (kMembT C tm) := by
    rw [← hK, List.lookup_cons, beq_eq_false_iff_ne.mpr cp.symm]; simp only
    rw [List.lookup_cons, beq_eq_false_iff_ne.mpr dp.symm]; simp
  have X : Frag.In K h := by
    rw [← hK]
    intro a o e
    simp only [List.lookup_cons] at e
    split at e
    · rename_i q; cases e; rw [beq_iff_eq.mp q]; exact hC
    · split at e
      · rename_i q; cases e; rw [beq_iff_eq.mp q]; exact h1
      · split at e
        · rename_i q; cases e; rw [beq_iff_eq.mp q]; exact hp
        · cases e
  have ns : ∀ name : Str, nsIn K D name = some ((kNs2 md fl sl (.ref fi) (.ref f1) f2 f3 f4 f5 st p).lookup name) := fun name => by
    unfold nsIn
    rw [e2]
    simp only
    cases q : (kNs2 md fl sl (.ref fi) (.ref f1) f2 f3 f4 f5 st p).lookup name with
    | none => rw [h2.nofind q, h2.norefs]; rfl
    | some v =>
      obtain ⟨e, a, b⟩ := h2.findE q
      rw [← Array.find?_toList] at a
      rw [a]
      simp only [b]
  have fd : ∀ (name : Str) (r : Option Value), (match (kNs2 md fl sl (.ref fi) (.ref f1) f2 f3 f4 f5 st p).lookup name with | some v => some (some v) | none => some (fastBuiltinOwn "object" name)) = some r → findIn K (.ref C) name = some r := fun name r hr => by
    unfold findIn
    dsimp only
    rw [e1]
    show alongIn K name [.ref C, .type "object"] = _
    unfold alongIn ownIn
    dsimp only
    rw [e1]
    show (match nsIn K D name with | some (some v) => some (some v) | some none => alongIn K name [.type "object"] | none => none) = _
    rw [ns]
    cases q : (kNs2 md fl sl (.ref fi) (.ref f1) f2 f3 f4 f5 st p).lookup name with
    | some v => rw [q] at hr; exact hr
    | none =>
      rw [q] at hr
      simp only at hr ⊢
      unfold alongIn ownIn
      dsimp only
      injection hr with hr
      rw [hr]
      cases r <;> rfl
  have cl : clsIn K C = some (kCd C D) := by unfold clsIn; rw [e1]; rfl
  have tp : typeIn K (.ref p) = some (.type "member_descriptor") := by unfold typeIn; dsimp only; rw [e3]; rfl
  have ob := fd "obj" (some (.ref p)) (by kernel_rfl)
  have tks : takesIn K (.ref p) = some true := by
    unfold takesIn specialIn
    rw [tp]; kernel_rfl
  have gt : specialIn K (.ref p) "__get__" = some (some (.builtin "member_descriptor.__get__")) := by
    unfold specialIn
    rw [tp]; kernel_rfl
  refine ⟨X, fd _ _ (by kernel_rfl), fd _ _ (by kernel_rfl), fd _ _ (by kernel_rfl), fd _ _ (by kernel_rfl), fd _ _ (by kernel_rfl), tp, ?_, ?_, ?_, fun od => ?_⟩
  · unfold slotIn recIn
    rw [e3, cl]
    show (if (("proto.slot" == "proto.slot" && "proto.slot#set" == "proto.slot#set" && !false && [Value.ref C, Value.type "object"].contains (Value.ref C) && decide ((0 : Int).toNat < 1)) = true) then some (1 - 1 - (0 : Int).toNat) else none) = some 0
    rw [if_pos (by simp)]
    rfl
  · unfold plainOver; rw [cl]; rfl
  · unfold takerIn; rw [ob]; show (takesIn K (.ref p)).map _ = _; rw [tks]; rfl
  · unfold findObj
    rw [cl, ob]
    simp only [Option.bind_some, gt, tks]
end Mine
end
section
open PySem PySem.W PyProof.Rows
set_option Elab.async false
set_option linter.unusedVariables false
set_option maxRecDepth 100000
namespace Mine
open PySem.Builtin PySem.Builtin.Getset_descriptor
/-- an instance of the class, its slot filled -/
def instO (C dx : Addr) (sl : Array (Option Value)) : Obj := { cls := .ref C, dict := some dx, data := .plain, slots := sl }
theorem fn_bind {M : Model} {h : Heap} {f : Addr} {o : Obj} (hf : h.get? f = some o) (hc : o.cls = .type "function") (self : Value) : Looks M h (bindSpecial (.ref f) self) (.ref f, [self]) := fun A Q E s k q => by
  unfold bindSpecial
  refine wpAny_bind (w_typeOf (k _ _ hf) ?_)
  rw [hc]
  exact w_tt (by decide) (wpAny_pure q)
section
variable {prog : Program} {w : World} {A : Around} {E : Value → Shared → Prop} {s : Shared} {C D p bT : Addr} {tn tq tm : Tok} {R : Result → Shared → Prop}
theorem k_mro {M : Model} {h : Heap} (hC : h.get? C = some (kObj (kCd C D) (kSl bT tn tq))) (t : Value) (ht : [Value.ref C, Value.type "object"].contains t = true) : Looks M h (isSubtype (.ref C) t) true := fun A Q E s k q => by
  unfold isSubtype
  refine wpAny_bind (wpAny_bind (w_classData (k _ _ hC) (wpAny_pure ?_)))
  refine w_ff (show ¬ (false = true) from Bool.false_ne_true) (wpAny_pure ?_)
  show Q ([Value.ref C, Value.type "object"].contains t) s
  rw [ht]; exact q
theorem k_makes {M : Model} {h : Heap} (hC : h.get? C = some (kObj (kCd C D) (kSl bT tn tq))) : Makes M h C := by
  have made : Looks M h (Bind.madeBy (.ref C)) (some "object.__new__") := fun A Q E s k q => by
    unfold Bind.madeBy
    refine wpAny_bind (wpAny_bind (w_classData (k _ _ hC) (wpAny_pure ?_)))
    refine wpAny_bind (w_for (wpAny_bind (wpAny_bind (wpAny_loadPart (k _ _ hC) (wpAny_pure ?_)))))
    exact wpAny_pure (wpAny_pure q)
  refine ⟨⟨_, _, _, _, hC, rfl, rfl, rfl⟩, made, fun A Q E s k q => ?_, k_mro hC _ (by simp), k_mro hC _ (by simp), ?_, ?_⟩
  · unfold Bind.staticBase
    refine wpAny_bind (wpAny_bind (w_classData (k _ _ hC) (wpAny_pure ?_)))
    exact wpAny_bind (w_for (wpAny_bind (made A _ E s k (w_tt rfl (wpAny_pure (wpAny_pure q))))))
  · exact (Looks.ld hC).andThen (Looks.of_pure (by kernel_rfl))
  · exact (Looks.ld hC).andThen (Looks.of_pure tn_sub)
/-- the slot set -/
theorem k_slotset {x dx : Addr} {sl : Array (Option Value)} {v : Value} (hC : s.heap.get? C = some (kObj (kCd C D) (kSl bT tn tq))) (hp : s.heap.get? p = some (kMembT C tm)) (hx : s.heap.get? x = some (instO C dx #[]))
    (h : R (.ok (.ret .none)) { s with heap := s.heap.update x fun o => { o with slots := (o.slots ++ Array.replicate (0 + 1 - o.slots.size) none).setIfInBounds 0 (some v) } }) :
    codeAny (model prog w) A (.call (.builtin "member_descriptor.__set__") ⟨[.ref p, .ref x, v], []⟩) R s := by
  have cf : ∀ i v, (#[.str "obj" tm, .ref C, .builtin "proto.slot", .builtin "proto.slot#set", rawInt 0] : Array Value)[i]? = some v → ∀ {A : Around} {E : Value → Shared → Prop} {Q : Value → Shared → Prop}, Q v s → wpAny (model prog w) A (field (.ref p) i) Q E s := fun i v e A E Q q => wpAny_field hp rfl e q
  refine codeAny_call_builtin KF.slot_mset.plain KF.entry_mset (KF.slot_mset.check _ _ _ _ _ _ _ _ ⟨_, hp, rfl⟩ (KF.args_mset _ _ _) ?_)
  unfold Builtin.«member_descriptor.__set__» descrSet
  refine w_ff (show ¬ (false = true) from Bool.false_ne_true) ?_
  unfold descrStoreThrough descrCheckInstance descrNameAndClass
  refine wpAny_bind (wpAny_bind (wpAny_bind (cf 0 _ rfl (wpAny_bind (cf 1 _ rfl (wpAny_pure ?_))))))
  refine wpAny_bind (wpAny_bind (w_typeOf hx ((k_mro hC (.ref C) (by simp)).here ?_)))
  refine w_ff (by decide) (wpAny_pure ?_)
  unfold descrItself fieldsOf
  refine wpAny_bind (wpAny_bind (wpAny_bind (wpAny_load hp (wpAny_pure (wpAny_pure ?_)))))
  refine wpAny_bind (cf 3 _ rfl (wpAny_bind (wpAny_rule ?_)))
  refine wpAny_pure ⟨Code.quiet_builtin _ (by decide +kernel), codeAny_builtin KF.entry_slotset ?_⟩
  unfold Builtin.«proto.slot#set» Slots.target
  refine wpAny_bind (wpAny_bind (cf 4 _ rfl (wpAny_bind (cf 0 _ rfl ?_))))
  refine wpAny_bind (w_typeOf hx (wpAny_bind (wpAny_bind (w_classData hC (wpAny_pure ?_)))))
  refine w_ff (show ¬ ((1 : Nat) ≤ 0) by decide) (wpAny_pure ?_)
  exact wpAny_bind (w_setSlot (i := 0) hx (by decide) (wpAny_pure h))
/-- self.obj = v -/
theorem k_setattr {K : Frag} {fi f1 x dx : Addr} {v : Value} {Q : Unit → Shared → Prop} (F : KFr s.heap C p fi f1 K) (hC : s.heap.get? C = some (kObj (kCd C D) (kSl bT tn tq))) (hp : s.heap.get? p = some (kMembT C tm)) (hx : s.heap.get? x = some (instO C dx #[])) (hdx : s.heap.get? dx = some emptyDict)
    (h : ∀ s', s'.heap = s.heap.update x (fun o => { o with slots := (o.slots ++ Array.replicate (0 + 1 - o.slots.size) none).setIfInBounds 0 (some v) }) → s'.gens = s.gens → s'.os = s.os → s.toks ≤ s'.toks → Q () s') :
    wpAny (model prog w) A (setAttr (.ref x) "obj" v) Q E s := by
  have I : InstAt s.heap x (instO C dx #[]) C (some emptyDict) := ⟨hx, rfl, rfl, hdx⟩
  refine set_plain F.X I F.hsa ?_
  refine osa_descr (s := { s with toks := s.toks + 1 }) KF.slot_mset F.X I F.po F.tk F.tp ?_
  exact k_slotset (s := { s with toks := s.toks + 1 }) (sl := #[]) hC hp hx (h _ rfl rfl rfl (Nat.le_succ _))
/-- x.obj -/
theorem k_getattr {K : Frag} {fi f1 x dx : Addr} {v : Value} {expr : Bool} {Q : Value → Shared → Prop} (F : KFr s.heap C p fi f1 K) (hx : s.heap.get? x = some (instO C dx #[some v])) (hdx : s.heap.get? dx = some emptyDict) (hh : handedIn v = true)
    (h : Q v { s with toks := s.toks + 1 }) : wpAny (model prog w) A (getAttr (.ref x) "obj" expr) Q E s := by
  have I : InstAt s.heap x (instO C dx #[some v]) C (some emptyDict) := ⟨hx, rfl, rfl, hdx⟩
  refine get_bind F.X I F.hga (F.fo _) F.hk (wpAny_call (slot_get (s := { s with toks := s.toks + 1 }) F.X I F.sl rfl ?_))
  exact PySem.W.handed_on hh h
/-- x < y, both of the class -/
theorem k_lt {K : Frag} {fi f1 x y dx : Addr} {ox oy of : Obj} {Q : Value → Shared → Prop} (hu : A.units < cLine) (F : KFr s.heap C p fi f1 K) (hx : s.heap.get? x = some ox) (hxc : ox.cls = .ref C) (hy : s.heap.get? y = some oy) (hyc : oy.cls = .ref C)
    (hf : s.heap.get? f1 = some of) (hfc : of.cls = .type "function")
    (h : wpAny (model prog w) A (call (.ref f1) [.ref x, .ref y]) (fun v s' => ∃ b, v = .bool b ∧ Q v s') E s) : wpAny (model prog w) A (compareOp .Lt (.ref x) (.ref y)) Q E s := by
  show wpAny _ _ (richCompare .Lt (.ref x) (.ref y)) _ _ _
  unfold richCompare
  refine wpAny_holding (wpAny_bind (wpAny_cRoomFor hu ?_))
  refine wpAny_bind (w_typeOf hx (wpAny_bind (w_typeOf hy ?_)))
  rw [hxc, hyc]
  refine w_ff (by simp) (wpAny_bind (wpAny_pure (w_ff (by decide) (wpAny_bind ?_))))
  unfold tryCompare callSpecialIfBound? bindSpecialIfBound?
  refine wpAny_bind (wpAny_holding (wpAny_bind (wpAny_bind (wpAny_bind (w_typeOf hx ?_)))))
  rw [hxc]
  refine (looks_findIn F.X F.hlt).here (wpAny_bind (wpAny_askSetting (wpAny_ite ?_)))
  have fin : ∀ (Q' : Option Value → Shared → Prop), (∀ v s', (∃ b, v = .bool b ∧ Q v s') → Q' (some v) s') → wpAny (model prog w) A (call (.ref f1) ([.ref x] ++ [.ref y]) >>= fun v => pure (some v)) Q' E s := fun Q' hQ' => wpAny_bind (wpAny_mono h (fun v s' z => wpAny_pure (hQ' v s' z)) fun _ _ z => z)
  split
  · refine wpAny_bind ((fn_bind hf hfc _).here (wpAny_pure (fin _ fun v s' z => ?_)))
    obtain ⟨b, rfl, q⟩ := z
    exact wpAny_pure (wpAny_pure q)
  · refine wpAny_tryCatch (wpAny_bind ((fn_bind hf hfc _).here (wpAny_pure (fin _ fun v s' z => ?_))))
    obtain ⟨b, rfl, q⟩ := z
    exact wpAny_pure (wpAny_pure q)
end
end Mine
end
section
open PySem PySem.W PyProof.Rows
set_option Elab.async false
set_option linter.unusedVariables false
set_option maxRecDepth 100000
namespace Mine
open PySem.Builtin
def dictR (l : List (Str × Value)) : ORel where
  R _ o := ∃ es n, o = { cls := .type "dict", dict := none, data := .dict es n, slots := #[] } ∧ EsAre es.toList l
  mono _ _ _ _ h := h
  nt _ o h vs n e := by
    obtain ⟨es, n', h1, _⟩ := h
    rw [h1] at e
    exact absurd (congrArg Obj.cls e) (show ¬ (Value.type "dict" = Value.type "tuple") by decide)
def instR (C dx : Addr) (j : Int) : ORel where
  R _ o := ∃ t, o = instO C dx #[some (.int j t)]
  mono _ _ _ _ h := h
  nt _ o h vs n e := by
    obtain ⟨t, h1⟩ := h
    rw [h1] at e
    exact absurd (congrArg Obj.cls e) (fun q => by cases q)
/-- the class stands -/
structure KIn (pm : Value) (σ : AHeap) (mc C D p fi f1 ci c1 : Addr) : Prop where
  cls : ∃ bT tn tq, σ C = some (.raw (kObj (kCd C D) (kSl bT tn tq)))
  dict : ∃ md fl sl f2 f3 f4 f5 st, σ D = some (.own (dictR (kNs2 md fl sl (.ref fi) (.ref f1) f2 f3 f4 f5 st p)))
  memb : ∃ tm, σ p = some (.raw (kMembT C tm))
  hfi : ∃ doc ctv, σ fi = some (.raw (kFn 2 mc doc pm ci ctv))
  hf1 : ∃ doc ctv, σ f1 = some (.raw (kFn 3 mc doc pm c1 ctv))
  hci : σ ci = some (.own (codeR (kQ 2)))
  hc1 : σ c1 = some (.own (codeR (kQ 3)))
theorem KIn.sub {pm σ σ' mc C D p fi f1 ci c1} (K : KIn pm σ mc C D p fi f1 ci c1) (h : σ.Sub σ') : KIn pm σ' mc C D p fi f1 ci c1 := by
  obtain ⟨⟨a, b, c, h1⟩, ⟨d1, d2, d3, d4, d5, d6, d7, d8, h2⟩, ⟨tm, h3⟩, ⟨e1, e2, h4⟩, ⟨g1, g2, h5⟩, h6, h7⟩ := K
  exact ⟨⟨a, b, c, h _ _ h1⟩, ⟨d1, d2, d3, d4, d5, d6, d7, d8, h _ _ h2⟩, ⟨tm, h _ _ h3⟩, ⟨e1, e2, h _ _ h4⟩, ⟨g1, g2, h _ _ h5⟩, h _ _ h6, h _ _ h7⟩
theorem Rep.adopt {base os₀ hid stk σ} {s : Shared} (R : Rep base os₀ hid stk σ s) {a : Addr} {o : AObj} (hnt : ∀ vs, ¬ TU s.heap a vs) (hb : base.get? a = none) (hh : ∀ p ∈ hid, p.1 ≠ a) (hs : ∀ f ∈ stk, f.1 ≠ a) (hn : ORep base s.heap a o) : Rep base os₀ hid stk (σ.set a o) s :=
  R.put (s' := s) (fun _ _ _ e => e) hnt hb hh hs hn rfl rfl
theorem nt_raw {h : Heap} {a : Addr} {o : Obj} (ho : h.get? a = some o) (hc : o.cls ≠ .type "tuple") : ∀ vs, ¬ TU h a vs := fun vs ⟨n, e⟩ => by rw [ho] at e; cases e; exact hc rfl

/-- the class's things come to the state -/
theorem Rep.klass {base os₀ hid stk σ} {s s' : Shared} {mg : Str → Option Value} {P mc C D p fi f1 ci c1 cc : Addr} {ps : Array Value} (R : Rep base os₀ hid stk σ s) (hP : σ P = some (.raw (tabObj ps))) (K : KMade mg s s' P ps mc C D p fi f1 ci c1 cc) (ht : s.toks ≤ s'.toks) :
    ∃ σ', Rep base os₀ hid stk σ' s' ∧ (∀ a o, a ≠ P → σ a = some o → σ' a = some o) ∧ (∃ tb, σ' P = some (.raw (tabObj tb))) ∧ KIn ((mg "__name__").getD .none) σ' mc C D p fi f1 ci c1 ∧ σ C = none := by
  obtain ⟨hb, hp0, hc0⟩ := R.heap _ _ hP
  obtain ⟨bT, tn, tq, hC⟩ := K.cls
  obtain ⟨md, fl, sl, f2, f3, f4, f5, st, hD⟩ := K.dict
  obtain ⟨tm, hp⟩ := K.memb
  obtain ⟨d1, t1, hfi⟩ := K.hfi
  obtain ⟨d2, t2, hf1⟩ := K.hf1
  obtain ⟨es, en, hD1, hD2⟩ := hD
  obtain ⟨ci', oi, vi, ti, e0, hci, hci1, hci2⟩ := K.hci
  cases e0
  obtain ⟨c1', o1, v1, t1', e0, hc1, hc11, hc12⟩ := K.hc1
  cases e0
  have R1 := R.put (s' := s') (a := P) (o := .raw (tabObj (ps ++ #[rawInt (stPos kDef).line, rawInt (stPos kDef).col, .ref cc]))) (fun b ob hb e => K.keep b ob hb e) (nt_raw hp0 hc0) hb (R.hid_ne hP) (R.stk_ne hP) ⟨hb, K.tab, by show Value.none ≠ Value.type "tuple"; decide⟩ K.g K.os ht
  have new : ∀ a, s.heap.get? a = none → base.get? a = none ∧ (∀ p ∈ hid, p.1 ≠ a) ∧ (∀ f ∈ stk, f.1 ≠ a) ∧ σ a = none := fun a ha => by
    refine ⟨?_, fun p hp e => ?_, fun f hf e => ?_, ?_⟩
    · cases q : base.get? a with
      | none => rfl
      | some o => rw [R.stays _ _ q] at ha; cases ha
    · rw [← e, (R.hid p hp).1] at ha; cases ha
    · obtain ⟨⟨_, m, ⟨ob, _, _, h1, _⟩, _⟩, _⟩ := R.frames f hf
      rw [← e, h1] at ha; cases ha
    · cases q : σ a with
      | none => rfl
      | some o =>
        obtain ⟨ob, h1 | ⟨v, ob, h1, _⟩⟩ := (R.heap _ _ q).there
        · rw [h1.1] at ha; cases ha
        · rw [h1] at ha; cases ha
  have nC := new C (K.new _ (by simp))
  have nD := new D (K.new _ (by simp))
  have np := new p (K.new _ (by simp))
  have nfi := new fi (K.new _ (by simp))
  have nf1 := new f1 (K.new _ (by simp))
  have nci := new ci (K.new _ (by simp))
  have nc1 := new c1 (K.new _ (by simp))
  have R2 := R1.adopt (a := C) (o := .raw (kObj (kCd C D) (kSl bT tn tq))) (nt_raw hC (by show Value.type "type" ≠ _; decide)) nC.1 nC.2.1 nC.2.2.1 ⟨nC.1, hC, by show Value.type "type" ≠ _; decide⟩
  have R3 := R2.adopt (a := D) (o := .own (dictR _)) (nt_raw hD1 (by show Value.type "dict" ≠ _; decide)) nD.1 nD.2.1 nD.2.2.1 ⟨nD.1, _, hD1, es, en, rfl, hD2⟩
  have R4 := R3.adopt (a := p) (o := .raw (kMembT C tm)) (nt_raw hp (by show Value.type "member_descriptor" ≠ _; decide)) np.1 np.2.1 np.2.2.1 ⟨np.1, hp, by show Value.type "member_descriptor" ≠ _; decide⟩
  have R5 := R4.adopt (a := fi) (o := .raw (kFn 2 mc d1 ((mg "__name__").getD .none) ci t1)) (nt_raw hfi (by show Value.type "function" ≠ _; decide)) nfi.1 nfi.2.1 nfi.2.2.1 ⟨nfi.1, hfi, by show Value.type "function" ≠ _; decide⟩
  have R6 := R5.adopt (a := f1) (o := .raw (kFn 3 mc d2 ((mg "__name__").getD .none) c1 t2)) (nt_raw hf1 (by show Value.type "function" ≠ _; decide)) nf1.1 nf1.2.1 nf1.2.2.1 ⟨nf1.1, hf1, by show Value.type "function" ≠ _; decide⟩
  have R7 := R6.adopt (a := ci) (o := .own (codeR (kQ 2))) (fun vs ⟨n, e⟩ => by rw [hci] at e; cases e; cases hci1) nci.1 nci.2.1 nci.2.2.1 ⟨nci.1, oi, hci, vi, ti, hci1, hci2⟩
  have R8 := R7.adopt (a := c1) (o := .own (codeR (kQ 3))) (fun vs ⟨n, e⟩ => by rw [hc1] at e; cases e; cases hc11) nc1.1 nc1.2.1 nc1.2.2.1 ⟨nc1.1, o1, hc1, v1, t1', hc11, hc12⟩
  have nd := K.nd
  simp only [List.nodup_cons, List.mem_cons, List.not_mem_nil, or_false, not_or, not_false_eq_true, List.nodup_nil, and_true] at nd
  obtain ⟨⟨n1, n2, n3, n4, n5, n6⟩, ⟨m1, m2, m3, m4, m5⟩, ⟨k1, k2, k3, k4⟩, ⟨j1, j2, j3⟩, ⟨i1, i2⟩, g1⟩ := nd
  have neP : ∀ a, σ a = none → P ≠ a := fun a ha e => by rw [← e, hP] at ha; cases ha
  have off : ∀ a, a ≠ C → a ≠ D → a ≠ p → a ≠ fi → a ≠ f1 → a ≠ ci → a ≠ c1 → ∀ (τ : AHeap) x1 x2 x3 x4 x5 x6 x7, (((((((τ.set C x1).set D x2).set p x3).set fi x4).set f1 x5).set ci x6).set c1 x7) a = τ a := fun a a1 a2 a3 a4 a5 a6 a7 τ x1 x2 x3 x4 x5 x6 x7 => by
    rw [AHeap.set_ne _ _ a7, AHeap.set_ne _ _ a6, AHeap.set_ne _ _ a5, AHeap.set_ne _ _ a4, AHeap.set_ne _ _ a3, AHeap.set_ne _ _ a2, AHeap.set_ne _ _ a1]
  refine ⟨_, R8, fun a o ha e => ?_, ⟨ps ++ #[rawInt (stPos kDef).line, rawInt (stPos kDef).col, .ref cc], ?_⟩, ⟨⟨bT, tn, tq, ?_⟩, ⟨md, fl, sl, f2, f3, f4, f5, st, ?_⟩, ⟨tm, ?_⟩, ⟨d1, t1, ?_⟩, ⟨d2, t2, ?_⟩, ?_, ?_⟩, nC.2.2.2⟩
  · have z : ∀ b, σ b = none → a ≠ b := fun b hb q => by rw [← q, e] at hb; cases hb
    rw [off a (z _ nC.2.2.2) (z _ nD.2.2.2) (z _ np.2.2.2) (z _ nfi.2.2.2) (z _ nf1.2.2.2) (z _ nci.2.2.2) (z _ nc1.2.2.2), AHeap.set_ne _ _ ha]; exact e
  · rw [off P (neP _ nC.2.2.2) (neP _ nD.2.2.2) (neP _ np.2.2.2) (neP _ nfi.2.2.2) (neP _ nf1.2.2.2) (neP _ nci.2.2.2) (neP _ nc1.2.2.2)]; exact AHeap.set_same ..
  · rw [AHeap.set_ne _ _ n6, AHeap.set_ne _ _ n5, AHeap.set_ne _ _ n4, AHeap.set_ne _ _ n3, AHeap.set_ne _ _ n2, AHeap.set_ne _ _ n1]; exact AHeap.set_same ..
  · rw [AHeap.set_ne _ _ m5, AHeap.set_ne _ _ m4, AHeap.set_ne _ _ m3, AHeap.set_ne _ _ m2, AHeap.set_ne _ _ m1]; exact AHeap.set_same ..
  · rw [AHeap.set_ne _ _ k4, AHeap.set_ne _ _ k3, AHeap.set_ne _ _ k2, AHeap.set_ne _ _ k1]; exact AHeap.set_same ..
  · rw [AHeap.set_ne _ _ j3, AHeap.set_ne _ _ j2, AHeap.set_ne _ _ j1]; exact AHeap.set_same ..
  · rw [AHeap.set_ne _ _ i2, AHeap.set_ne _ _ i1]; exact AHeap.set_same ..
  · rw [AHeap.set_ne _ _ g1]; exact AHeap.set_same ..
  · exact AHeap.set_same ..
end Mine
end
section
open PySem PySem.W PyProof.Rows
set_option Elab.async false
set_option linter.unusedVariables false
set_option maxRecDepth 100000
namespace Mine
open PySem.Builtin
theorem kDef_eq : kDef = .ClassDef kName [.Name "object" ⟨65, 12, 65, 18⟩] [] (stBody kDef) [] [] (stScope kDef) none kName ["obj"] (stPos kDef) := by kernel_rfl
/-- what the class statement asks of the base -/
structure KBase (G : Gx) (c0 P : Addr) : Prop where
  maker : Maker G c0 P
  st : ∃ m, G.base.Ns cStatics m ∧ m "sys.recursionlimit" = none ∧ m "thirdparty.any" = none
  sP : cStatics ≠ P
  nm : ∃ nm, G.mg "__name__" = some nm
  ob : G.mg "object" = none
theorem qual_of {env : Env} {S : Scope} {name bind qual : Str} (h : env.scope = S) (hb : ((S.names.lookup bind == some .globalExplicit) = false)) (hq : env.qual ++ name = qual) : qualnameIn env name bind = qual := by
  unfold qualnameIn Env.kindOf
  rw [h, hb]
  exact hq
section
variable {c : Cx} {μ : Locals} {σ : AHeap}
theorem S_ClassK {c0 P mc : Addr} {ps : Array Value} {Q : AFlow → St → Prop} (hG : Gd c.toGx) (B : KBase c.toGx c0 P) (hcode : c.env.code = .ref c0) (hcells : c.env.cells = [(("mycmp" : Str), mc)]) (hsc : c.env.scope = stScope (stAt 9)) (hqu : c.env.qual = "cmp_to_key.<locals>.")
    (hP : σ P = some (.raw (tabObj ps))) (ht : TriplesOk ps.toList) (hnf : codeAmong (stPos kDef) ps.toList = none)
    (h : ∀ C D p fi f1 ci c1 σ', (∀ a o, a ≠ P → σ a = some o → σ' a = some o) → (∃ tb, σ' P = some (.raw (tabObj tb))) → KIn ((c.mg "__name__").getD .none) σ' mc C D p fi f1 ci c1 → σ C = none → Q .next (setL kName (.ref C) μ, σ')) :
    WX c kDef  Q (μ, σ) := fun hid stk s ok R => by
  rw [kDef_eq, arm_exec_ClassDef]
  refine wpAny_bind (wpAny_pure (wpAny_bind (wpAny_standAt (wpAny_bind ?_))))
  unfold buildClassGuard
  rw [ok.builtins]
  refine wpAny_bind (wpAny_nsGet (hG.b.keeps R.stays) ?_)
  rw [hG.builtins _ (by decide +kernel), show bootBuiltins "__build_class__" = some (.builtin "__build_class__") by kernel_rfl]
  refine wpAny_pure (wpAny_bind (wpAny_holding (wpAny_bind ?_)))
  unfold evalArgs
  refine wpAny_bind ?_
  refine wpAny_items_cons ?_
  have ao := ok.ok
  obtain ⟨nm, hnm⟩ := B.nm
  obtain ⟨hbP, hp0, hc0⟩ := R.heap _ _ hP
  have Ks : KS c.mg s.heap P := by
    obtain ⟨m, m1, m2, m3⟩ := B.st
    obtain ⟨bm, o, b1, b2, b3, b4, b5, b6⟩ := B.maker.bm
    exact ⟨hG.g.keeps R.stays, ⟨bm, o, b1, b2, b3, b4, R.stays _ _ b5, b6⟩, ⟨m, m1.keeps R.stays, m2, m3⟩, B.maker.ne, B.sP⟩
  refine Calls.Name_function_global ok.kind (by rw [Env.kindOf, hsc]; kernel_rfl) (Calls.loadGlobal_builtin (by rw [ok.globals]; exact hG.g.keeps R.stays) B.ob (by rw [ok.builtins]; exact hG.b.keeps R.stays) (show c.mb "object" = some (.type "object") from (hG.builtins "object" (by decide +kernel)).trans (by kernel_rfl)) ?_) (by decide +kernel)
  refine wpAny_items_nil (wpAny_bind (wpAny_pure (wpAny_holding ?_)))
  refine w_tt (show (true = true) from rfl) (wpAny_bind (wpAny_pure (wpAny_bind (wpAny_pure (wpAny_pure (wpAny_bind (wpAny_standAt (wpAny_holding ?_))))))))
  rw [qual_of (qual := kQual) hsc (by kernel_rfl) (by rw [hqu]; kernel_rfl)]
  refine wpAny_mono (wpAny_toks (wp_buildK (Q := fun v s' => ∃ C D p fi f1 ci c1 cc, v = .ref C ∧ KMade c.mg s s' P ps mc C D p fi f1 ci c1 cc) (E := fun _ _ => False) ok.globals hcode Ks (B.maker.code.keeps R.stays) hp0 ht hnf (closure_of hcells (by kernel_rfl)) ?_ hnm fun C D p fi f1 ci c1 cc s' K => ⟨C, D, p, fi, f1, ci, c1, cc, rfl, K⟩)) (fun v s' hv => ?_) fun _ _ z => z.1.elim
  · have := ao.depth; exact Nat.lt_of_le_of_lt (Nat.le_trans (Nat.le_add_right _ _) this) (by decide)
  · obtain ⟨⟨C, D, p, fi, f1, ci, c1, cc, rfl, K⟩, htk⟩ := hv
    obtain ⟨σ', R', a1, a2, a3, a4⟩ := R.klass hP K htk
    have kk : Keeps s.heap s'.heap := fun b vs ⟨n, e⟩ => ⟨n, K.keep _ _ (fun q => by rw [q, hp0] at e; cases e) e⟩
    refine wpAny_bind (wpAny_pure (wpAny_bind (wpAny_standAt (wpAny_bind (wpAny_bind (wpAny_holding (wpAny_point (wpAny_bind ?_))))))))
    refine wpAny_mono (W1_store (c := c) (Q := fun _ st => Q .next st) (p := .ref C) (by rw [hsc]; kernel_rfl) (h C D p fi f1 ci c1 σ' a1 a2 a3 a4) _ hid stk s' ok R' rfl) (fun _ s2 hy => ?_) fun _ _ y => y
    obtain ⟨_, st2, R2, _, k2, q⟩ := hy
    exact wpAny_point (wpAny_pure ⟨.next, st2, R2, rfl, kk.trans k2, q⟩)
end
end Mine
end
section
open PySem PySem.W PyProof.Rows
set_option Elab.async false
set_option linter.unusedVariables false
set_option maxRecDepth 100000
namespace Mine
open PySem.Builtin
section
variable {c : Cx} {st : St} {μ : Locals} {σ : AHeap}
theorem S_AssignAttr {o attr pos' value pos} {Q : AFlow → St → Prop} (h : WE c value  (fun p st₁ => WE c o  (fun po st₂ => W2 c UnitRep po p (fun ov v => setAttr ov attr v)  (fun _ st₃ => Q .next st₃) st₂) st₁) st)
    (hs : swapsWith value (some (.Attribute o attr pos')) pos.line c.env = pure false) : WX c (.Assign [.Attribute o attr pos'] value pos)  Q st := fun hid stk s ok R =>
  plainObj_wpAny_Assign_Attribute (wpAny_mono (h hid stk s ok R) (fun v s₁ ⟨p, st₁, R₁, hv, k₁, h₁⟩ =>
    wpAny_mono (h₁ hid stk s₁ ok R₁) (fun u s₂ ⟨po, st₂, R₂, hu, k₂, h₂⟩ =>
      wpAny_mono (h₂ u v hid stk s₂ ok R₂ hu (hv.mono k₂)) (fun _ _ ⟨_, st₃, R₃, _, k₃, q⟩ => ⟨.next, st₃, R₃, rfl, (k₁.trans k₂).trans k₃, q⟩) fun _ _ y => y) fun _ _ y => y) fun _ _ y => y) hs
theorem E_AttrName {n attr : Str} {np pos : Pos} {Q : PV → St → Prop} (h : WE c (.Name n np)  (fun p st₁ => W1 c VRep p (fun v => getAttr v attr true)  Q st₁) st) : WE c (.Attribute (.Name n np) attr pos)  Q st := fun hid stk s ok R =>
  Attribute_name (wpAny_mono (h hid stk s ok R) (fun v s₁ ⟨p, st₁, R₁, hv, k₁, h₁⟩ => wpAny_mono (h₁ v hid stk s₁ ok R₁ hv) (fun _ _ y => y.keeps k₁) fun _ _ y => y) fun _ _ y => y)

/-- the class's things in a heap -/
theorem KIn.raw {base os₀ hid stk} {s : Shared} {pm mc C D p fi f1 ci c1} (R : Rep base os₀ hid stk σ s) (K : KIn pm σ mc C D p fi f1 ci c1) :
    ∃ bT tn tq tm K', s.heap.get? C = some (kObj (kCd C D) (kSl bT tn tq)) ∧ s.heap.get? p = some (kMembT C tm) ∧ KFr s.heap C p fi f1 K' := by
  obtain ⟨bT, tn, tq, h1⟩ := K.cls
  obtain ⟨md, fl, sl, f2, f3, f4, f5, st, h2⟩ := K.dict
  obtain ⟨tm, h3⟩ := K.memb
  obtain ⟨_, hC, _⟩ := R.heap _ _ h1
  obtain ⟨_, oD, hD, es, en, rfl, hE⟩ := R.heap _ _ h2
  obtain ⟨_, hp, _⟩ := R.heap _ _ h3
  obtain ⟨K', F⟩ := kfr hC ⟨es, en, hD, hE⟩ hp
  exact ⟨bT, tn, tq, tm, K', hC, hp, F⟩
theorem set_obj {mc C D p fi f1 ci c1 x dx : Addr} {pm : Value} {j : Int} {Q : Unit → St → Prop} (K : KIn pm σ mc C D p fi f1 ci c1) (hx : σ x = some (.raw (instO C dx #[]))) (hdx : σ dx = some (.raw emptyDict))
    (h : Q () (μ, σ.set x (.own (instR C dx j)))) : W2 c UnitRep (.ref x) (.int j) (fun o v => setAttr o "obj" v)  Q (μ, σ) := fun v u hid stk s ok R hv hu => by
  obtain ⟨t, rfl⟩ := hu
  cases hv
  obtain ⟨bT, tn, tq, tm, K', hC, hp, F⟩ := K.raw R
  obtain ⟨hb, hx', hxc⟩ := R.heap _ _ hx
  obtain ⟨_, hd', _⟩ := R.heap _ _ hdx
  refine k_setattr F hC hp hx' hd' fun s' e1 e2 e3 e4 => ?_
  have hs : Heap.SameBut x s.heap s'.heap := by rw [e1]; exact Heap.SameBut.update ..
  have hnew : s'.heap.get? x = some (instO C dx #[some (.int j t)]) := by rw [e1]; exact Heap.get?_update_self _ hx' rfl
  have k : Keeps s.heap s'.heap := fun b vs ⟨n, h1⟩ => ⟨n, (hs.2 b (fun e => by rw [e, hx'] at h1; cases h1)).trans h1⟩
  exact ⟨(), _, R.put (s' := s') (o := .own (instR C dx j)) (fun b ob hne e => (hs.2 b hne).trans e) (nt_raw hx' hxc) hb (R.hid_ne hx) (R.stk_ne hx) ⟨hb, _, hnew, t, rfl⟩ e2 e3 e4, trivial, k, h⟩
theorem get_obj {mc C D p fi f1 ci c1 x dx : Addr} {pm : Value} {j : Int} {Q : PV → St → Prop} (K : KIn pm σ mc C D p fi f1 ci c1) (hx : σ x = some (.own (instR C dx j))) (hdx : σ dx = some (.raw emptyDict))
    (h : Q (.int j) (μ, σ)) : W1 c VRep (.ref x) (fun v => getAttr v "obj" true)  Q (μ, σ) := fun v hid stk s ok R hv => by
  cases hv
  obtain ⟨bT, tn, tq, tm, K', hC, hp, F⟩ := K.raw R
  obtain ⟨_, o, hx', t, rfl⟩ := R.heap _ _ hx
  obtain ⟨_, hd', _⟩ := R.heap _ _ hdx
  exact k_getattr F hx' hd' rfl ⟨.int j, (μ, σ), R.toks _, ⟨t, rfl⟩, .refl _, h⟩
theorem lt_obj {mc C D p fi f1 ci c1 x dx y dy : Addr} {pm : Value} {i j : Int} {Q : PV → St → Prop} (K : KIn pm σ mc C D p fi f1 ci c1) (hx : σ x = some (.own (instR C dx i))) (hy : σ y = some (.own (instR C dy j)))
    (h : CallS c.toGx c.lv (.ref f1) [.ref x, .ref y] (fun p σ' => ∃ b, p = .bool b ∧ Q (.bool b) (μ, σ')) σ) : W2 c VRep (.ref x) (.ref y) (compareOp .Lt)  Q (μ, σ) := fun v u hid stk s ok R hv hu => by
  cases hv
  cases hu
  obtain ⟨bT, tn, tq, tm, K', hC, hp, F⟩ := K.raw R
  obtain ⟨_, ox, hx', t, rfl⟩ := R.heap _ _ hx
  obtain ⟨_, oy, hy', t', rfl⟩ := R.heap _ _ hy
  obtain ⟨doc, ctv, hf1⟩ := K.hf1
  obtain ⟨_, hf', _⟩ := R.heap _ _ hf1
  refine k_lt (dx := dx) ok.room F hx' rfl hy' rfl hf' rfl ?_
  refine wpAny_mono (WN_call (Q := fun p st => ∃ b, p = .bool b ∧ Q (.bool b) st) h [.ref x, .ref y] hid stk s ok R (.cons rfl (.cons rfl .nil))) (fun v s' hp => ?_) fun _ _ y => y
  obtain ⟨p', st', R', hv', k', b, rfl, q⟩ := hp
  cases hv'
  exact ⟨b, rfl, .bool b, st', R', rfl, k', q⟩
end

/-! calls of what the state holds -/
theorem callWith_cls {M : Model} {A : Around} {E : Value → Shared → Prop} {s : Shared} {pos : Pos} {a : Addr} {args : List (Bool × Sem Value)} {Q : Value → Shared → Prop} (hplain : args.any (·.1) = false)
    (h : wpAny M A (evalArgs (.ref a) true args []) (fun x s₁ => (∃ o cd, s₁.heap.get? a = some o ∧ o.data = .cls cd ∧ o.cls = .type "type") ∧ wpAny M A (call (.ref a) x.pos x.kw) Q E s₁) E s) :
    wpAny M A (callWith pos (.ref a) [] args []) Q E s := by
  unfold callWith
  refine wpAny_bind (wpAny_holding (wpAny_mono h (fun x s₁ h₁ => wpAny_bind (wpAny_standAt ?_)) fun _ _ x => x))
  obtain ⟨⟨o, cd, h1, h2, h3⟩, h4⟩ := h₁
  rw [hplain]
  refine wpAny_bind (m := keeperOf (.ref a)) ?_
  unfold keeperOf
  refine wpAny_bind (wpAny_load h1 ?_)
  rw [h2]
  refine wpAny_bind (wpAny_bind (w_typeOf h1 ?_))
  rw [h3]
  refine w_eq (v := some (.builtin "type.__call__")) (by kernel_rfl) (wpAny_pure ?_)
  exact wpAny_bind (wpAny_mono h4 (fun r s₂ hr => wpAny_bind (wpAny_holding (wpAny_point (wpAny_pure hr)))) fun _ _ x => x)
section
variable {c : Cx} {st : St}
/-- a function of the state, called -/
theorem E_CallFn {func e rest pos} {Q : PV → St → Prop} (h : WE c func  (fun fv st₁ => ∃ a o fd, fv = .ref a ∧ o.data = .func fd ∧ WA c pos (e :: rest)  (fun ps st₂ => st₂.2 a = some (.raw o) ∧ WN c VRep ps (fun vs => call (.ref a) vs)  Q st₂) st₁) st)
    (hev : eval (.Call func (e :: rest) [] pos) c.env = (do callWith pos (← eval func c.env) [] (backTo pos (starEach (e :: rest) c.env)) (backToKw pos (keywordEach [] c.env))))
    (he : starEach (e :: rest) c.env = (false, eval e c.env) :: starEach rest c.env) : WE c (.Call func (e :: rest) [] pos)  Q st := fun hid stk s ok R => by
  rw [hev]
  refine wpAny_bind (wpAny_mono (h hid stk s ok R) (fun v s₁ hp => ?_) fun _ _ y => y)
  obtain ⟨fv, st₁, R₁, hv, k₁, a, o, fd, rfl, hfd, h₁⟩ := hp
  cases hv
  show wpAny _ _ (callWith pos (.ref a) [] (backTo pos (starEach (e :: rest) c.env)) []) _ _ s₁
  refine callWith_def hfd (wpAny_mono (h₁ hid stk s₁ ok R₁) (fun vs s₂ hq => ?_) fun _ _ y => y) he
  obtain ⟨ps, st₂, R₂, hvs, k₂, hat, q⟩ := hq
  exact ⟨(R₂.heap _ _ hat).2.1, wpAny_mono (q vs hid stk s₂ ok R₂ hvs) (fun _ _ y => y.keeps (k₁.trans k₂)) fun _ _ y => y⟩
/-- a class of the state, called -/
theorem E_CallCl {func e rest pos} {Q : PV → St → Prop} (h : WE c func  (fun fv st₁ => ∃ a, fv = .ref a ∧ WA c pos (e :: rest)  (fun ps st₂ => (∃ o cd, st₂.2 a = some (.raw o) ∧ o.data = .cls cd ∧ o.cls = .type "type") ∧ WN c VRep ps (fun vs => call (.ref a) vs)  Q st₂) st₁) st)
    (hev : eval (.Call func (e :: rest) [] pos) c.env = (do callWith pos (← eval func c.env) [] (backTo pos (starEach (e :: rest) c.env)) (backToKw pos (keywordEach [] c.env))))
    (he : starEach (e :: rest) c.env = (false, eval e c.env) :: starEach rest c.env)
    (hplain : (backTo pos (starEach rest c.env)).any (·.1) = false) : WE c (.Call func (e :: rest) [] pos)  Q st := fun hid stk s ok R => by
  rw [hev]
  refine wpAny_bind (wpAny_mono (h hid stk s ok R) (fun v s₁ hp => ?_) fun _ _ y => y)
  obtain ⟨fv, st₁, R₁, hv, k₁, a, rfl, h₁⟩ := hp
  cases hv
  show wpAny _ _ (callWith pos (.ref a) [] (backTo pos (starEach (e :: rest) c.env)) []) _ _ s₁
  have h₂ := h₁ hid stk s₁ ok R₁
  rw [he] at h₂ ⊢
  refine callWith_cls (by show (false || (backTo pos (starEach rest c.env)).any (·.1)) = false; rw [hplain]; rfl) (Calls.evalArgs_plain (wpAny_mono h₂ (fun vs s₂ hq => ?_) fun _ _ y => y))
  obtain ⟨ps, st₂, R₂, hvs, k₂, ⟨o, cd, hat, hd, hc⟩, q⟩ := hq
  exact ⟨⟨o, cd, (R₂.heap _ _ hat).2.1, hd, hc⟩, wpAny_mono (q vs hid stk s₂ ok R₂ hvs) (fun _ _ y => y.keeps (k₁.trans k₂)) fun _ _ y => y⟩
/-- a def of the text, called with one keyword -/
theorem E_CallGK {x : Str} {pos' e rest k ke kp pos} {Q : PV → St → Prop} {a : Addr} {o : Obj} {fd : FuncData} (hG : Gd c.toGx) (hl : c.env.scope.names.lookup x = some .globalImplicit) (hv : c.mg x = some (.ref a)) (ho : c.base.get? a = some o) (hf : o.data = .func fd)
    (h : WA c pos (e :: rest)  (fun ps st₂ => WE c ke  (fun kv st₃ => CallK c.toGx c.lv (.ref a) ps [(k, kv)] (fun p σ' => Q p (st₃.1, σ')) st₃.2) st₂) st) (hd : (x == ("__debug__" : Str)) = false)
    (he : starEach (e :: rest) c.env = (false, eval e c.env) :: starEach rest c.env) : WE c (.Call (.Name x pos') (e :: rest) [⟨some k, ke, kp⟩] pos)  Q st := fun hid stk s ok R => by
  refine wpAny_Call_Name_kw (wpAny_mono (E_global (Q := fun p st' => p = .ref a ∧ st' = st) hG hl hv rfl ⟨rfl, rfl⟩ hd hid stk s ok R) (fun v s₁ hp => ?_) fun _ _ y => y)
  · obtain ⟨fv, st₁, R₁, hv', k₁, rfl, rfl⟩ := hp
    cases hv'
    have h₂ := h hid stk s₁ ok R₁
    rw [he] at h₂ ⊢
    refine callWith_function_kw (o := o) (fd := fd) (evalArgs_kwB (by rfl) (wpAny_mono h₂ (fun vs s₂ hq => ?_) fun _ _ y => y))
    obtain ⟨ps, st₂, R₂, hvs, k₂, h₃⟩ := hq
    refine wpAny_bind (wpAny_bind (wpAny_mono (h₃ hid stk s₂ ok R₂) (fun u s₃ hq => wpAny_bind (wpAny_standAt (wpAny_pure (wpAny_bind (wpAny_holding (wpAny_pure (wpAny_pure ?_))))))) fun _ _ y => y))
    obtain ⟨kv, st₃, R₃, hu, k₃, q⟩ := hq
    refine ⟨⟨R₃.stays _ _ ho, hf⟩, ?_⟩
    have ao := ok.ok
    refine wpAny_call (codeAny_mono (q c.A hid ((c.env.locals, st₃.1) :: stk) s₃ vs [u] ao R₃ (hvs.mono k₃) (.cons hu .nil)) fun r s' x => ?_)
    match r, x with
    | .ok (.ret v), ⟨p, σ', a, b, k, q⟩ => exact ⟨p, (st₃.1, σ'), a, b, (k₁.trans k₂).trans (k₃.trans k), q⟩
    | .error e, x => exact x.elim
end
end Mine
end
section
open PySem PySem.W PyProof.Rows
set_option Elab.async false
set_option linter.unusedVariables false
set_option maxRecDepth 100000
namespace Mine
open PySem.Builtin
def kFd (i : Nat) (mc : Addr) (doc pm : Value) (c' : Addr) (ctv : Value) : FuncData := fnX (stName (kSt i)) (kQ i) (stArgs (kSt i)) (stBody (kSt i)) (stScope (kSt i)) (kClos i mc) .none .none doc pm none (.ref c') ctv
theorem fnIn_k {G : Gx} {σ : AHeap} {a c' mc : Addr} {i : Nat} {doc pm ctv : Value} (h : σ a = some (.raw (kFn i mc doc pm c' ctv))) (hc : σ c' = some (.own (codeR (kQ i)))) : FnIn G σ a (kFd i mc doc pm c' ctv) := fun hid stk s R =>
  ⟨⟨_, (R.heap _ _ h).2.1, rfl⟩, R.codeRec hc⟩
theorem k_body2 : stBody (kSt 2) = [.Assign [.Attribute (.Name "self" ⟨70, 12, 70, 16⟩) "obj" ⟨70, 12, 70, 20⟩] (.Name "obj" ⟨70, 23, 70, 26⟩) ⟨70, 12, 70, 26⟩] := by kernel_rfl
theorem fresh_sub' {σ τ : AHeap} {a : Addr} (h : σ.Sub τ) (ha : τ a = none) : σ a = none := by
  cases q : σ a with
  | none => rfl
  | some o => rw [h _ _ q] at ha; cases ha
section
variable {G : Gx} {n : Nat} {calm : Bool} {mc C D p fi f1 ci c1 : Addr} {pm : Value} {σ : AHeap} {Q : PV → AHeap → Prop}
theorem init_call {x dx : Addr} {j : Int} (hG : Gd G) (K : KIn pm σ mc C D p fi f1 ci c1) (hx : σ x = some (.raw (instO C dx #[]))) (hdx : σ dx = some (.raw emptyDict)) (h : Q .none (σ.set x (.own (instR C dx j)))) :
    CallS G ⟨n + 1, calm⟩ (.ref fi) [.ref x, .int j]  Q σ := by
  obtain ⟨doc, ctv, hfi⟩ := K.hfi
  refine call_freeS (fd := kFd 2 mc doc pm ci ctv) (body := stBody (kSt 2)) [("self" : Str), ("obj" : Str)] hG (fnIn_k hfi K.hci) rfl rfl rfl (by kernel_rfl) (by kernel_rfl) (by kernel_rfl) (by decide +kernel) rfl (Binds.plain (fun vs hv => ?_) rfl) (by kernel_rfl) (show ∀ x ∈ (stScope (kSt 2)).names, x.2 ≠ .cell by decide +kernel) ?_
  · obtain ⟨v1, v2, rfl⟩ := len2 hv; kernel_rfl
  intro c hc hlv hsc hce hq hco
  subst hc
  rw [k_body2]
  refine S_cons (S_AssignAttr ?_ (by rfl))
  refine E_local (p := .int j) (by rw [hsc]; kernel_rfl) (by kernel_rfl) ?_ (by decide +kernel)
  refine E_local (p := .ref x) (by rw [hsc]; kernel_rfl) (by kernel_rfl) ?_ (by decide +kernel)
  exact set_obj K hx hdx (S_nil h)
theorem AOk.create {lv : Lv} {A : Around} (ok : AOk ⟨n + 1, calm⟩ A) {C : Addr} {rest : List Value} : AOk ⟨n, calm⟩ (A.under (.builtin "type.__call__" ⟨.ref C :: rest, []⟩)) := by
  have hw : (Code.builtin "type.__call__" ⟨.ref C :: rest, []⟩).weight = 1 := rfl
  have hu : (Code.builtin "type.__call__" ⟨.ref C :: rest, []⟩).cUnits = 1 := rfl
  refine ⟨fun hc => ok.calm hc, ?_, ?_⟩
  · show A.depth + _ + n ≤ 900
    rw [hw]; have := ok.depth; simp only at this; omega
  · show A.units + _ + 20 * n ≤ 9000
    rw [hu]; have := ok.units; simp only at this; omega
/-- an instance made -/
theorem call_K {j : Int} (hG : Gd G) (K : KIn pm σ mc C D p fi f1 ci c1) (h : ∀ x dx, σ x = none → σ dx = none → x ≠ dx → Q (.ref x) ((σ.set dx (.raw emptyDict)).set x (.own (instR C dx j)))) : CallS G ⟨n + 2, calm⟩ (.ref C) [.int j]  Q σ :=
  fun A hid stk s vs ks ok R hv hks => by
  obtain ⟨v, r, rfl, ⟨t, rfl⟩, hr⟩ := hv.cons_inv
  cases hr.nil_inv
  obtain ⟨bT, tn, tq, tm, K', hC, hp, F⟩ := K.raw R
  obtain ⟨md, fl, sl, f2, f3, f4, f5, st, hDσ⟩ := K.dict
  obtain ⟨_, oD, hD, es, en, rfl, hE⟩ := R.heap _ _ hDσ
  obtain ⟨doc, ctv, hfi⟩ := K.hfi
  have hfi' := (R.heap _ _ hfi).2.1
  have hdn := R.fresh_σ
  have R1 := R.alloc (ob := emptyDict) (o := .raw emptyDict) ⟨R.fresh_base, Heap.get?_push_size _ rfl, by show Value.type "dict" ≠ _; decide⟩
  have hxn := R1.fresh_σ
  have R2 := R1.alloc (ob := instObj C s.heap.objs.size) (o := .raw (instO C s.heap.objs.size #[])) ⟨R1.fresh_base, Heap.get?_push_size _ rfl, by show Value.ref C ≠ _; intro q; cases q⟩
  have hsz : (s.heap.push emptyDict).objs.size = s.heap.objs.size + 1 := Heap.size_push ..
  have I := init_call (G := G) (n := n) (calm := calm) (Q := fun v σ' => v = .none ∧ Q (.ref (s.heap.objs.size + 1)) σ') (x := s.heap.objs.size + 1) (dx := s.heap.objs.size) (j := j) hG (σ := (σ.set s.heap.objs.size (.raw emptyDict)).set (s.heap.objs.size + 1) (.raw (instO C s.heap.objs.size #[])))
    (K.sub ((AHeap.sub_set _ hdn).trans (AHeap.sub_set _ (by rw [← hsz]; exact hxn)))) (AHeap.set_same ..) (by rw [AHeap.set_ne _ _ (Nat.ne_of_lt (Nat.lt_succ_self _))]; exact AHeap.set_same ..) ⟨rfl, by rw [AHeap.set_set]; exact h _ _ (fresh_sub' (AHeap.sub_set _ hdn) (by rw [← hsz]; exact hxn)) hdn (Nat.ne_of_gt (Nat.lt_succ_self _))⟩
  obtain ⟨hh, g, d, t', os⟩ := s
  refine make_core (k_makes hC) (cls_lookup hC rfl rfl ⟨es, en, hD, hE⟩ (r := some (.ref fi)) (by kernel_rfl)) (fun self => fn_bind hfi' rfl self) (.inl rfl) ?_
  refine codeAny_mono (I _ hid stk _ [.ref (hh.objs.size + 1), .int j t] [] (AOk.create (lv := ⟨n + 2, calm⟩) ok) (by rw [hsz] at R2; exact R2) (.cons rfl (.cons ⟨t, rfl⟩ .nil)) .nil) fun r s' x => ?_
  have kk : Keeps hh ((hh.push emptyDict).push (instObj C hh.objs.size)) := (Keeps.push _ _).trans (Keeps.push _ _)
  match r, x with
  | .ok (.ret v), ⟨p', σ', R', hv', k', e, q⟩ =>
    subst e
    cases hv'
    exact ⟨rfl, .ref (hh.objs.size + 1), σ', R', rfl, kk.trans k', q⟩
  | .error e, x => exact x.elim
end
end Mine
end
section
open PySem PySem.W PyProof.Rows
set_option Elab.async false
set_option linter.unusedVariables false
set_option maxRecDepth 100000
namespace Mine
open PySem.Builtin
def lamX : Expr := match (bdAt 72).getD 0 (.Pass default) with
  | .Assign _ (.Call _ [l] _ _) _ => l
  | _ => default
def lamA : Arguments := match lamX with | .Lambda a _ _ _ => a | _ => default
def lamB : Expr := match lamX with | .Lambda _ b _ _ => b | _ => default
def lamS : Scope := match lamX with | .Lambda _ _ s _ => s | _ => default
def lamP : Pos := match lamX with | .Lambda _ _ _ p => p | _ => default
theorem lamB_eq : lamB = .BinOp (.Subscript (.Name "hours" ⟨90, 34, 90, 39⟩) (.Name "a" ⟨90, 40, 90, 41⟩) ⟨90, 34, 90, 42⟩) .Sub (.Subscript (.Name "hours" ⟨90, 45, 90, 50⟩) (.Name "b" ⟨90, 51, 90, 52⟩) ⟨90, 45, 90, 53⟩) ⟨90, 34, 90, 53⟩ := by kernel_rfl
def lamQ : Str := "_law_kept.<locals>.<lambda>"
def lamO (pm : Value) (hc cl : Addr) (ctv : Value) : Obj := kla_obj "<lambda>" lamQ lamA lamB lamS [("hours", hc)] pm cl ctv
def lamF (pm : Value) (hc cl : Addr) (ctv : Value) : FuncData := match (lamO pm hc cl ctv).data with | .func f => f | _ => default
/-- the comparison of the hours stands -/
structure LIn (pm : Value) (σ : AHeap) (la hc cl hA : Addr) (ctv : Value) (hs : List Int) : Prop where
  la : σ la = some (.raw (lamO pm hc cl ctv))
  cl : σ cl = some (.own (codeR lamQ))
  hc : σ hc = some (.cell (some (.ref hA)))
  hA : seqAt σ hA = some (intL hs)
  len : hs.length ≤ 1000
theorem seq_sub' {σ τ : AHeap} {a : Addr} {l : List PV} (h : σ.Sub τ) (hs : seqAt σ a = some l) : seqAt τ a = some l := by
  unfold seqAt at hs ⊢
  cases q : σ a with
  | none => rw [q] at hs; cases hs
  | some o => rw [q] at hs; rw [h _ _ q]; exact hs
theorem LIn.sub {pm σ σ' la hc cl hA ctv hs} (L : LIn pm σ la hc cl hA ctv hs) (h : σ.Sub σ') : LIn pm σ' la hc cl hA ctv hs := ⟨h _ _ L.la, h _ _ L.cl, h _ _ L.hc, seq_sub' h L.hA, L.len⟩
theorem intL_at {l : List Int} {i : Nat} {z : Int} (h : l[i]? = some z) : (intL l)[i]? = some (.int z) := by unfold intL; rw [List.getElem?_map, h]; rfl
section
variable {G : Gx} {n : Nat} {calm : Bool} {mc C D p fi f1 ci c1 : Addr} {pm : Value} {σ : AHeap} {Q : PV → AHeap → Prop} {la hc cl hA : Addr} {ctv : Value} {hs : List Int}
theorem lam_call {i j : Nat} {y z : Int} (hG : Gd G) (L : LIn pm σ la hc cl hA ctv hs) (hi : hs[i]? = some y) (hj : hs[j]? = some z) (h : Q (.int (y - z)) σ) : CallS G ⟨n + 1, calm⟩ (.ref la) [.int i, .int j]  Q σ := by
  refine call_freeE (fd := lamF pm hc cl ctv) (body := lamB) [("a" : Str), ("b" : Str)] hG (fun hid stk s R => ⟨⟨_, (R.heap _ _ L.la).2.1, rfl⟩, R.codeRec L.cl⟩) rfl rfl rfl (by kernel_rfl) (by kernel_rfl) (by kernel_rfl) (by decide +kernel) rfl (Binds.plain (fun vs hv => ?_) rfl) (by kernel_rfl) (show ∀ x ∈ lamS.names, x.2 ≠ .cell by decide +kernel) ?_
  · obtain ⟨v1, v2, rfl⟩ := len2 hv; kernel_rfl
  intro c hc' hlv hsc hce hq hco
  subst hc'
  rw [lamB_eq]
  have hh : ∀ {Q : PV → St → Prop} {pos : Pos} {μ : Locals}, Q (.ref hA) (μ, σ) → WE c (.Name "hours" pos) Q (μ, σ) := fun q => E_free (a := hc) (p := .ref hA) (by rw [hsc]; kernel_rfl) (by rw [hce]; kernel_rfl) L.hc q (by decide +kernel) (by decide +kernel)
  have hl : (intL hs).length ≤ 16777216 := by have := L.len; unfold intL; rw [List.length_map]; omega
  refine E_BinOp (E_Subscript (hh (E_local (p := .int i) (by rw [hsc]; kernel_rfl) (by kernel_rfl) ?_ (by decide +kernel))) rfl)
  refine get_list L.hA (by omega) (intL_at (by simpa using hi)) hl ?_
  refine E_Subscript (hh (E_local (p := .int j) (by rw [hsc]; kernel_rfl) (by kernel_rfl) ?_ (by decide +kernel))) rfl
  refine get_list L.hA (by omega) (intL_at (by simpa using hj)) hl ?_
  exact bin_sub h
theorem k_body3 : stBody (kSt 3) = [.Return (some (.Compare (.Call (.Name "mycmp" ⟨73, 19, 73, 24⟩) [.Attribute (.Name "self" ⟨73, 25, 73, 29⟩) "obj" ⟨73, 25, 73, 33⟩, .Attribute (.Name "other" ⟨73, 35, 73, 40⟩) "obj" ⟨73, 35, 73, 44⟩] [] ⟨73, 19, 73, 45⟩) [.Lt] [.Constant (.int 0) 0 ⟨73, 48, 73, 49⟩] ⟨73, 19, 73, 49⟩)) ⟨73, 12, 73, 49⟩] := by kernel_rfl
theorem lt_call {x dx y dy : Addr} {i j : Nat} {u z : Int} (hG : Gd G) (K : KIn pm σ mc C D p fi f1 ci c1) (L : LIn pm σ la hc cl hA ctv hs) (hm : σ mc = some (.cell (some (.ref la)))) (hi : hs[i]? = some u) (hj : hs[j]? = some z)
    (hx : σ x = some (.own (instR C dx i))) (hdx : σ dx = some (.raw emptyDict)) (hy : σ y = some (.own (instR C dy j))) (hdy : σ dy = some (.raw emptyDict)) (h : Q (.bool (decide (u - z < 0))) σ) :
    CallS G ⟨n + 2, calm⟩ (.ref f1) [.ref x, .ref y]  Q σ := by
  obtain ⟨doc, ctv1, hf1⟩ := K.hf1
  refine call_freeS (fd := kFd 3 mc doc pm c1 ctv1) (body := stBody (kSt 3)) [("self" : Str), ("other" : Str)] hG (fnIn_k hf1 K.hc1) rfl rfl rfl (by kernel_rfl) (by kernel_rfl) (by kernel_rfl) (by decide +kernel) rfl (Binds.plain (fun vs hv => ?_) rfl) (by kernel_rfl) (show ∀ x ∈ (stScope (kSt 3)).names, x.2 ≠ .cell by decide +kernel) ?_
  · obtain ⟨v1, v2, rfl⟩ := len2 hv; kernel_rfl
  intro c hc' hlv hsc hce hq hco
  subst hc'
  rw [k_body3]
  refine S_cons (S_Return (E_Compare ?_ rfl))
  refine E_CallFn ?_ rfl rfl
  refine E_free (a := mc) (p := .ref la) (by rw [hsc]; kernel_rfl) (by rw [hce]; kernel_rfl) hm ⟨la, lamO pm hc cl ctv, lamF pm hc cl ctv, rfl, rfl, ?_⟩ (by decide +kernel) (by decide +kernel)
  refine A_cons (E_AttrName (E_local (p := .ref x) (by rw [hsc]; kernel_rfl) (by kernel_rfl) (get_obj K hx hdx ?_) (by decide +kernel))) rfl
  refine A_cons (E_AttrName (E_local (p := .ref y) (by rw [hsc]; kernel_rfl) (by kernel_rfl) (get_obj K hy hdy (A_nil ⟨L.la, WN_call ?_⟩)) (by decide +kernel))) rfl
  rw [hlv]
  exact lam_call hG L hi hj (E_int (cmp_lt h))
end
section
variable {c : Cx} {n : Nat} {mc C D p fi f1 ci c1 : Addr} {pm : Value} {σ : AHeap} {μ : Locals} {Q : PV → St → Prop} {la hc cl hA : Addr} {ctv : Value} {hs : List Int}
theorem cmp_ltK {x dx y dy : Addr} {i j : Nat} {u z : Int} (hn : ∃ m, c.lv = ⟨m + 2, true⟩) (hG : Gd c.toGx) (K : KIn pm σ mc C D p fi f1 ci c1) (L : LIn pm σ la hc cl hA ctv hs) (hm : σ mc = some (.cell (some (.ref la)))) (hi : hs[i]? = some u) (hj : hs[j]? = some z)
    (hx : σ x = some (.own (instR C dx i))) (hdx : σ dx = some (.raw emptyDict)) (hy : σ y = some (.own (instR C dy j))) (hdy : σ dy = some (.raw emptyDict)) (h : Q (.bool (decide (u - z < 0))) (μ, σ)) :
    W2 c VRep (.ref x) (.ref y) (compareOp .Lt)  Q (μ, σ) := by
  obtain ⟨m, hn⟩ := hn
  refine lt_obj K hx hy ?_
  rw [hn]
  exact lt_call hG K L hm hi hj hx hdx hy hdy ⟨_, rfl, h⟩
end
end Mine
end
section
open PySem PySem.W PyProof.Rows PySem.Calls
set_option Elab.async false
set_option linter.unusedVariables false
set_option maxRecDepth 100000
namespace Mine
/-- pairs of ints -/
def pairP (q : Int × Nat) : PV := .tup [.int q.1, .int (q.2 : Int)]
def PairAt (h : Heap) (v : Value) (q : Int × Nat) : Prop := ∃ a n t u, v = .ref a ∧ h.get? a = some { cls := .type "tuple", dict := none, data := .seq #[.int q.1 t, .int (q.2 : Int) u] n, slots := #[] }
theorem pairAt_of {h : Heap} {v : Value} {q : Int × Nat} (x : VRep h (pairP q) v) : PairAt h v q := by
  obtain ⟨a, vs, rfl, ⟨n, hn⟩, hv⟩ := x
  obtain ⟨v1, r1, rfl, ⟨t, rfl⟩, hv2⟩ := hv.cons_inv
  obtain ⟨v2, r2, rfl, ⟨u, rfl⟩, hv3⟩ := hv2.cons_inv
  rw [hv3.nil_inv] at hn
  exact ⟨a, n, t, u, rfl, hn⟩
def pkey (q : Int × Nat) : Int := q.1 * 1000 + q.2
theorem w_ff' {α : Type} {M : Model} {A : Around} {Q : α → Shared → Prop} {E : Value → Shared → Prop} {s : Shared} {c : Prop} [Decidable c] {a b : Sem α} (hc : ¬ c) (h : wpAny M A b Q E s) : wpAny M A (if c then a else b) Q E s := by rw [if_neg hc]; exact h
theorem range_getD {α : Type} (l : List α) (d : α) : (List.range l.length).map (fun i => l.getD i d) = l := by
  apply List.ext_getElem (by simp)
  intro i h1 h2
  simp only [List.getElem_map, List.getElem_range, List.getD_eq_getElem?_getD, List.getElem?_eq_getElem h2, Option.getD_some]
section
variable {prog : Program} {w : World} {A : Around} {E : Value → Shared → Prop} {s : Shared}
theorem pair_lt {x y : Value} {p q : Int × Nat} {Q : Bool → Shared → Prop} (hx : PairAt s.heap x p) (hy : PairAt s.heap y q) (hp : p.2 < 1000) (hq : q.2 < 1000) (h : Q (decide (pkey p < pkey q)) s) : wpAny (model prog w) A (keyLt' (tuples' true) x y) Q E s := by
  obtain ⟨a, n, t, u, rfl, ha⟩ := hx
  obtain ⟨b, m, t', u', rfl, hb⟩ := hy
  refine kat_lt ha rfl hb rfl ?_
  refine kat_cons (wpAny_eqBool_int (kat_go (fun e => kat_yes (kat_cons (wpAny_eqBool_int (kat_go (fun e2 => kat_yes (kat_nil ?_)) (fun e2 => kat_no (kat_one _ _ ?_)))))) (fun e => kat_no (oneLt_int ?_))))
  · have h1 : p.1 = q.1 := by simpa using e
    have h2 : (p.2 : Int) = q.2 := by simpa using e2
    have : decide (pkey p < pkey q) = false := by unfold pkey; rw [h1, h2]; simp
    rw [this] at h; exact h
  · have h1 : p.1 = q.1 := by simpa using e
    refine PySem.P.lt_int ?_
    have : decide (pkey p < pkey q) = decide ((p.2 : Int) < q.2) := by unfold pkey; rw [h1]; exact decide_eq_decide.mpr (by omega)
    rw [this] at h; exact h
  · have h1 : p.1 ≠ q.1 := by simpa using e
    have : decide (pkey p < pkey q) = decide (p.1 < q.1) := by unfold pkey; exact decide_eq_decide.mpr (by omega)
    rw [this] at h; exact h
theorem pairs_kind {vs : List Value} {ps : List (Int × Nat)} {Q : SortKind → Shared → Prop} (hl : vs.length = ps.length) (hv : ∀ (i : Nat) v q, vs[i]? = some v → ps[i]? = some q → PairAt s.heap v q) (h2 : 1 ≤ vs.length) (h : Q (tuples' true) s) : wpAny (model prog w) A (keyKind' vs.toArray) Q E s := by
  have tt : ∀ (vs : List Value) (ps : List (Int × Nat)), vs.length = ps.length → (∀ (i : Nat) v q, vs[i]? = some v → ps[i]? = some q → PairAt s.heap v q) → ∃ fs, KatTups s.heap vs fs ∧ fs.length = vs.length ∧ ∀ v ∈ fs, Looks (model prog w) s.heap (typeOf v) (.type "int") := by
    intro vs
    induction vs with
    | nil => intro ps _ _; exact ⟨[], KatTups.nil, rfl, by simp⟩
    | cons v vs ih =>
      intro ps hl hv
      cases ps with
      | nil => simp at hl
      | cons q ps =>
        obtain ⟨a, n, t, u, rfl, ha⟩ := hv 0 v q rfl rfl
        obtain ⟨fs, f1, f2, f3⟩ := ih ps (by simpa using hl) fun i v q a b => hv (i + 1) v q (by simpa using a) (by simpa using b)
        refine ⟨.int q.1 t :: fs, KatTups.cons ha rfl rfl rfl f1, by simp [f2], fun v hv => ?_⟩
        rcases List.mem_cons.mp hv with rfl | hv
        · exact Looks.of_pure rfl
        · exact f3 v hv
  obtain ⟨fs, f1, f2, f3⟩ := tt vs ps hl hv
  exact kat_kind f1 (by omega) f3 (by decide) h
/-- list.sort of pairs -/
theorem sort_pairs {a : Addr} {vs : List Value} {ps : List (Int × Nat)} {n : Nat} {P : PySem.Fin → Shared → Prop} (ho : s.heap.get? a = some (seqObj "list" vs.toArray n)) (hl : vs.length = ps.length) (hv : ∀ (i : Nat) v q, vs[i]? = some v → ps[i]? = some q → PairAt s.heap v q) (hps : ∀ q ∈ ps, q.2 < 1000) (h64 : vs.length < 64)
    (h : ∀ p : Array Nat, p.size = vs.length → p.Perm (List.toArray (List.range vs.length)) → Srt (fun i => pkey (ps.getD i (0, 0))) p vs.length → P (.done (.ret .none)) { s with heap := sortedHeap s.heap a vs (List.toArray (p.toList.map fun i => vs.getD i Value.none)) }) :
    wpAny (model prog w) A (Builtin.«list.sort» ⟨[.ref a], []⟩) P E s := by
  rw [list_sort_plain]
  have ha : a < s.heap.objs.size := Heap.lt_size ho
  have hne : ∀ b o, s.heap.get? b = some o → o.cls = .type "tuple" → b ≠ a := fun b o e hc q => by rw [q, ho] at e; cases e; exact absurd hc (show ¬ (Value.type "list" = Value.type "tuple") by decide)
  refine wpAny_bind (listItems_at ho rfl ?_)
  refine wpAny_bind (listUpdate_at ho rfl ?_ (by rw [List.size_toArray, sizeLine_eq]; omega) (Nat.zero_le _))
  obtain ⟨e1, ho1⟩ : ∃ e1, (s.heap.update a (Obj.mapSeq fun _ => (#[] : Array Value))).get? a = some (seqObj "list" #[] e1) := ⟨_, get?_update_seq ho (fun _ => #[])⟩
  refine wpAny_bind (seqEpoch_at ho1 rfl ?_)
  refine wpAny_bind (wpAny_newTuple ?_ (by show vs.length ≤ _; rw [sizeLine_eq]; omega))
  refine wpAny_bind (wpAny_newList ?_ (Nat.zero_le _))
  refine wpAny_holding ?_
  have ho6 : (((s.heap.update a (Obj.mapSeq fun _ => (#[] : Array Value))).push (seqObj "tuple" vs.toArray 0)).push (seqObj "list" #[] 0)).get? a = some (seqObj "list" #[] e1) := Heap.get?_push_of_some _ (Heap.get?_push_of_some _ ho1)
  have old : ∀ b o, s.heap.get? b = some o → o.cls = .type "tuple" → (((s.heap.update a (Obj.mapSeq fun _ => (#[] : Array Value))).push (seqObj "tuple" vs.toArray 0)).push (seqObj "list" #[] 0)).get? b = some o := fun b o e hc =>
    Heap.get?_push_of_some _ (Heap.get?_push_of_some _ ((Heap.get?_update_other _ _ (Ne.symm (hne b o e hc))).trans e))
  have hv6 : ∀ (i : Nat) v q, vs[i]? = some v → ps[i]? = some q → PairAt (((s.heap.update a (Obj.mapSeq fun _ => (#[] : Array Value))).push (seqObj "tuple" vs.toArray 0)).push (seqObj "list" #[] 0)) v q := fun i v q x y => by
    obtain ⟨b, m, t, u, e, hb⟩ := hv i v q x y
    exact ⟨b, m, t, u, e, old _ _ hb rfl⟩
  show wpAny (model prog w) A _ P E { s with heap := ((s.heap.update a (Obj.mapSeq fun _ => (#[] : Array Value))).push (seqObj "tuple" vs.toArray 0)).push (seqObj "list" #[] 0) }
  dsimp only
  have hsz : vs.toArray.size = vs.length := by simp
  have fin : ∀ (p : Array Nat) (st : SortSt), p.size = vs.length → p.Perm (List.toArray (List.range vs.length)) → Srt (fun i => pkey (ps.getD i (0, 0))) p vs.length → (arrOf st).map (·.2) = List.toArray (p.toList.map fun i => vs.getD i Value.none) → failedOf st = none →
      wpAny (model prog w) A (do
        let touched := (← seqEpoch a) != e1
        Builtin.List.listUpdate (.ref a) fun _ => (arrOf st).map (·.2)
        if let some e := failedOf st then rule "list.sort.comparison-raised"; throw e
        if touched then rule "list.sort.modified"; raiseError "ValueError" "list modified during sort"
        ret .none) P E { s with heap := ((s.heap.update a (Obj.mapSeq fun _ => (#[] : Array Value))).push (seqObj "tuple" vs.toArray 0)).push (seqObj "list" #[] 0) } := fun p st h1 h2 h3 h4 h5 => by
    refine wpAny_bind (seqEpoch_at ho6 rfl ?_)
    refine wpAny_bind (listUpdate_at ho6 rfl ?_ (Nat.zero_le _) (by rw [h4, List.size_toArray, List.length_map, Array.length_toList, h1, sizeLine_eq]; omega))
    rw [h5]
    refine w_ff' (by simp) (wpAny_pure ?_)
    rw [h4]
    exact h p h1 h2 h3
  by_cases h2 : vs.toArray.size < 2
  · rw [if_pos h2, if_pos h2]
    refine wpAny_bind (wpAny_pure ?_)
    rw [StateT.run_pure]
    refine wpAny_bind (wpAny_pure ?_)
    refine fin (List.toArray (List.range vs.length)) (SortSt.mk' general' (vs.toArray.zip vs.toArray) #[] 7 none) (by simp) (Array.Perm.refl _) (fun i j hij hj => ?_) ?_ rfl
    · have : i = j := by omega
      rw [this]; exact Int.le_refl _
    · show (vs.toArray.zip vs.toArray).map (·.2) = _
      apply Array.toList_inj.mp
      simp only [Array.toList_map, Array.toList_zip]
      rw [List.map_snd_zip (Nat.le_refl _), range_getD]
  · rw [if_neg h2, if_neg h2]
    have hn2 : 2 ≤ vs.length := by omega
    refine wpAny_bind (pairs_kind hl hv6 (by omega) ?_)
    refine wpAny_bind (wpAny_mono (kat_run (Q := fun st' s' => ∃ p : Array Nat, p.size = vs.length ∧ arrOf st' = p.map (kas_item (vs.toArray.zip vs.toArray)) ∧ failedOf st' = none ∧ (p.Perm (List.toArray (List.range vs.length)) ∧ Srt (fun i => pkey (ps.getD i (0, 0))) p vs.length ∧ s' = { s with heap := ((s.heap.update a (Obj.mapSeq fun _ => (#[] : Array Value))).push (seqObj "tuple" vs.toArray 0)).push (seqObj "list" #[] 0) }))
      (G := fun p s' => p.Perm (List.toArray (List.range vs.length)) ∧ Srt (fun i => pkey (ps.getD i (0, 0))) p vs.length ∧ s' = { s with heap := ((s.heap.update a (Obj.mapSeq fun _ => (#[] : Array Value))).push (seqObj "tuple" vs.toArray 0)).push (seqObj "list" #[] 0) })
      rfl hn2 h64 (fun p' st' s' a1 a2 a3 a4 => ⟨p', a1, a2, a3, a4⟩) (kEv_wp (n := vs.length) (b := kb fun i => pkey (ps.getD i (0, 0))) (fun i j C hi hj hC => ?_) _ (sort_ask (by omega)) ?_)) ?_ fun _ _ e => e)
    · have g1 : vs[i]? = some (vs.getD i Value.none) := by rw [List.getD_eq_getElem?_getD, List.getElem?_eq_getElem hi]; rfl
      have g2 : vs[j]? = some (vs.getD j Value.none) := by rw [List.getD_eq_getElem?_getD, List.getElem?_eq_getElem hj]; rfl
      have k1 : ps[i]? = some (ps.getD i (0, 0)) := by rw [List.getD_eq_getElem?_getD, List.getElem?_eq_getElem (hl ▸ hi)]; rfl
      have k2 : ps[j]? = some (ps.getD j (0, 0)) := by rw [List.getD_eq_getElem?_getD, List.getElem?_eq_getElem (hl ▸ hj)]; rfl
      exact pair_lt (hv6 i _ _ g1 k1) (hv6 j _ _ g2 k2) (hps _ (List.mem_of_getElem? k1)) (hps _ (List.mem_of_getElem? k2)) hC
    · obtain ⟨p, e, q1, q2, q3⟩ := sort_ok (key := fun i => pkey (ps.getD i (0, 0))) (n := vs.length) (by omega)
      rw [e]
      exact ⟨q2, q3, rfl⟩
    · rintro ⟨⟨⟩, st'⟩ s' ⟨p, hp, har, hf, g1, g2, rfl⟩
      exact fin p st' hp g1 g2 (kat_snds rfl har) hf
theorem sorted_pairs {l : Addr} {vs : List Value} {ps : List (Int × Nat)} {Q : Value → Shared → Prop} (hl : s.heap.IsList l vs.toArray) (hlen : vs.length = ps.length) (hv : ∀ (i : Nat) v q, vs[i]? = some v → ps[i]? = some q → PairAt s.heap v q) (hps : ∀ q ∈ ps, q.2 < 1000) (h64 : vs.length < 64)
    (h : ∀ p : Array Nat, p.size = vs.length → p.Perm (List.toArray (List.range vs.length)) → Srt (fun i => pkey (ps.getD i (0, 0))) p vs.length → Q (.ref (s.heap.objs.size + 1)) { s with heap := sortedAll s.heap vs (List.toArray (p.toList.map fun i => vs.getD i Value.none)) }) :
    wpAny (model prog w) A (call (.builtin "sorted") [.ref l]) Q E s := by
  refine Calls.call_function_entry kind_sorted plain_sorted entry_sorted (args_sorted1 _) ?_
  unfold Builtin.«sorted»
  refine wpAny_bind (m := checkCount "sorted" 1 1 _) (wpAny_pure ?_)
  refine wpAny_bind (collect_list hl ?_ (by rw [sizeLine_eq]; omega))
  refine wpAny_bind (wpAny_newList ?_ (by rw [sizeLine_eq]; omega))
  have hsz : ((s.heap.push (seqObj "list" #[] 0)).update s.heap.objs.size (Obj.mapSeq (· ++ vs.toArray))).objs.size = s.heap.objs.size + 1 := by
    rw [Heap.size_update, size_push']
  have hoL : (((s.heap.push (seqObj "list" #[] 0)).update s.heap.objs.size (Obj.mapSeq (· ++ vs.toArray))).push (seqObj "list" vs.toArray 0)).get? (s.heap.objs.size + 1) = some (seqObj "list" vs.toArray 0) := by
    rw [← hsz]; exact Heap.get?_push_size _ rfl
  have old : ∀ b o, s.heap.get? b = some o → (((s.heap.push (seqObj "list" #[] 0)).update s.heap.objs.size (Obj.mapSeq (· ++ vs.toArray))).push (seqObj "list" vs.toArray 0)).get? b = some o := fun b o e =>
    Heap.get?_push_of_some _ ((Heap.get?_update_other _ _ (Nat.ne_of_gt (Heap.lt_size e))).trans (Heap.get?_push_of_some _ e))
  show wpAny _ _ _ _ _ { s with heap := ((s.heap.push (seqObj "list" #[] 0)).update s.heap.objs.size (Obj.mapSeq (· ++ vs.toArray))).push (seqObj "list" vs.toArray 0) }
  rw [hsz]
  refine wpAny_bind (wpAny_holding (wpAny_call_entry slot_list_sort ⟨_, hoL, rfl⟩ entry_list_sort (sort_pairs hoL hlen (fun i v q x y => ?_) hps h64 fun p a1 a2 a3 => ⟨_, rfl, ?_⟩) (args_list_sort _)))
  · obtain ⟨b, m, t, u, e, hb⟩ := hv i v q x y
    exact ⟨b, m, t, u, e, old _ _ hb⟩
  · exact wpAny_pure ⟨_, rfl, h p a1 a2 a3⟩
end
section
variable {c : Cx} {μ : Locals} {σ : AHeap}
theorem srt_pairs {ps : List (Int × Nat)} {p : Array Nat} (h1 : p.size = ps.length) (h2 : p.Perm (List.toArray (List.range ps.length))) (h3 : Srt (fun i => pkey (ps.getD i (0, 0))) p ps.length) :
    (p.toList.map fun i => ps.getD i (0, 0)).Perm ps ∧ (p.toList.map fun i => ps.getD i (0, 0)).Pairwise (fun a b => pkey a ≤ pkey b) := by
  constructor
  · have := (Array.perm_iff_toList_perm.mp h2).map fun i => ps.getD i (0, 0)
    rw [List.toList_toArray, range_getD] at this
    exact this
  · rw [List.pairwise_iff_getElem]
    intro i j hi hj hij
    simp only [List.length_map, Array.length_toList] at hi hj
    have := h3 i j (Nat.le_of_lt hij) (h1 ▸ hj)
    simp only [kp, Array.getD_eq_getD_getElem?, Array.getElem?_eq_getElem hi, Array.getElem?_eq_getElem hj, Option.getD_some] at this
    simpa only [List.getElem_map, Array.getElem_toList] using this
theorem call_sortedP {a : Addr} {ps : List (Int × Nat)} {Q : PV → St → Prop} (hs : seqAt σ a = some (ps.map pairP)) (hz : ps.length < 64) (hps : ∀ q ∈ ps, q.2 < 1000)
    (h : ∀ b (ps' : List (Int × Nat)), σ b = none → ps'.Perm ps → ps'.Pairwise (fun a b => pkey a ≤ pkey b) → Q (.ref b) (μ, σ.set b (.list (ps'.map pairP)))) : WN c VRep [.ref a] (fun vs => call (.builtin "sorted") vs)  Q (μ, σ) := fun vs hid stk s ok R hv => by
  obtain ⟨v1, r1, rfl, h1, hv⟩ := hv.cons_inv
  rw [hv.nil_inv]
  simp only [VRep] at h1; subst h1
  obtain ⟨ws, hL, hws⟩ := R.seq hs
  have e1 : ws.length = ps.length := hws.length.trans (List.length_map ..)
  have hg : ∀ (i : Nat) v q, ws[i]? = some v → ps[i]? = some q → VRep s.heap (pairP q) v := fun i v q x y => by
    obtain ⟨v', h1, h2⟩ := hws.get i (pairP q) (by rw [List.getElem?_map, y]; rfl)
    rw [x] at h1; cases h1; exact h2
  refine sorted_pairs hL.isList e1 (fun i v q x y => pairAt_of (hg i v q x y)) hps (by omega) fun p a1 a2 a3 => ?_
  rw [e1] at a1 a2 a3
  obtain ⟨b1, b2⟩ := srt_pairs a1 a2 a3
  obtain ⟨e, he⟩ := sortedAll_at s.heap ws (List.toArray (p.toList.map fun i => ws.getD i Value.none))
  have k : Keeps s.heap (sortedAll s.heap ws (List.toArray (p.toList.map fun i => ws.getD i Value.none))) := fun b vs ⟨n, e⟩ => ⟨n, sortedAll_old e⟩
  have hlt : ∀ b ob, s.heap.get? b = some ob → b ≠ s.heap.objs.size + 1 := fun b ob q => Nat.ne_of_lt (Nat.lt_succ_of_lt (Heap.lt_size q))
  have hσ : σ (s.heap.objs.size + 1) = none := by
    cases q : σ (s.heap.objs.size + 1) with
    | none => rfl
    | some o => exact absurd (R.heap _ _ q).lt (Nat.not_lt.mpr (Nat.le_succ _))
  have hb : c.base.get? (s.heap.objs.size + 1) = none := by
    cases q : c.base.get? (s.heap.objs.size + 1) with
    | none => rfl
    | some o => exact absurd rfl (hlt _ _ (R.stays _ _ q))
  refine ⟨.ref (s.heap.objs.size + 1), (μ, σ.set (s.heap.objs.size + 1) (.list ((p.toList.map fun i => ps.getD i (0, 0)).map pairP))), ?_, rfl, k, h _ _ hσ b1 b2⟩
  refine R.put (s' := { s with heap := sortedAll s.heap ws (List.toArray (p.toList.map fun i => ws.getD i Value.none)) }) (fun b ob _ e => sortedAll_old e) (fun vs ⟨_, h1⟩ => absurd rfl (hlt _ _ h1)) hb (fun p hp => hlt _ _ (R.hid p hp).1) (fun f hf => Nat.ne_of_lt (Nat.lt_succ_of_lt (R.frames f hf).1.lt))
    ⟨hb, _, ⟨e, he⟩, ?_⟩ rfl rfl
  refine VReps.of_forall (by simp) fun i q v x y => ?_
  rw [List.map_map, List.getElem?_map] at x
  rw [List.getElem?_map] at y
  cases z : p.toList[i]? with
  | none => rw [z] at x; cases x
  | some j =>
    rw [z] at x y
    have hj : j < ps.length := by
      have := (Array.perm_iff_toList_perm.mp a2).mem_iff.mp (List.mem_of_getElem? z)
      simpa using this
    cases x; cases y
    refine (hg j _ _ ?_ ?_).mono k
    · show ws[j]? = some (ws.getD j Value.none)
      rw [List.getD_eq_getElem?_getD, List.getElem?_eq_getElem (e1 ▸ hj)]; rfl
    · show ps[j]? = some (ps.getD j (0, 0))
      rw [List.getD_eq_getElem?_getD, List.getElem?_eq_getElem hj]; rfl
end
end Mine
end
section
open PySem PySem.W PyProof.Rows
set_option Elab.async false
set_option linter.unusedVariables false
set_option maxRecDepth 10000
namespace Mine
section
variable {c : Cx} {st : St} {μ : Locals} {σ : AHeap}
/-- what turns of a comprehension give -/
def compL (f : Nat → Option PV) (k : Nat) : List PV := (List.range k).filterMap f
theorem compL_len (f : Nat → Option PV) (k : Nat) : (compL f k).length ≤ k := by
  have := List.length_filterMap_le f (List.range k); rw [List.length_range] at this; exact this
theorem compL_some {f : Nat → Option PV} {k : Nat} {q : PV} (h : f k = some q) : compL f (k + 1) = compL f k ++ [q] := by
  unfold compL; rw [List.range_succ, List.filterMap_append]; simp [h]
theorem compL_none {f : Nat → Option PV} {k : Nat} (h : f k = none) : compL f (k + 1) = compL f k := by
  unfold compL; rw [List.range_succ, List.filterMap_append]; simp [h]
theorem compL_map {α : Type} (l : List α) (g : α → PV) : compL (fun k => l[k]?.map g) l.length = l.map g := by
  apply List.ext_getElem?
  intro i
  have : ∀ n, n ≤ l.length → compL (fun k => l[k]?.map g) n = (l.take n).map g := by
    intro n
    induction n with
    | zero => intro _; rfl
    | succ n ih =>
      intro h
      rw [compL_some (q := g (l[n]'(by omega))) (by rw [List.getElem?_eq_getElem (by omega)]; rfl), ih (by omega), List.take_succ, List.map_append, List.getElem?_eq_getElem (by omega : n < l.length)]
      rfl
  rw [this _ (Nat.le_refl _), List.take_length]
theorem W1_mono' {α β : Type} {rep : Heap → β → α → Prop} {p : PV} {t : Value → Sem α} {Q Q' : β → St → Prop} (h : W1 c rep p t  Q st) (hQ : ∀ x st, Q x st → Q' x st) : W1 c rep p t  Q' st := fun v hid stk s ok R hv =>
  wpAny_mono (h v hid stk s ok R hv) (fun _ _ ⟨x, st', R', hx, k, q⟩ => ⟨x, st', R', hx, k, hQ _ _ q⟩) fun _ _ x => x
/-- a comprehension whose turns leave the state as it is -/
theorem comp_pure {scope : Scope} {cl : List (Str × Addr)} {elt target : Expr} {ifs : List Expr} {items : List PV} {P : AHeap → Prop} {Q : Addr → AHeap → Prop} (f : Nat → Option PV) (hz : items.length ≤ 1000000) (hP : ∀ τ, σ.Sub τ → P τ)
    (turn : ∀ c' : Cx, c'.toGx = c.toGx → c'.lv = c.lv → c'.env.scope = relabel scope c.env → c'.env.cells = cl → ∀ k p τ, items[k]? = some p → σ.Sub τ →
      WAsg c' target p (fun st₁ => WIfs c' ifs (fun b st₂ => (b = true → WE c' elt (fun q st₃ => f k = some q ∧ τ.Sub st₃.2) st₂) ∧ (b = false → f k = none ∧ τ.Sub st₂.2)) st₁) ([], τ))
    (fin : ∀ a τ, σ.Sub τ → σ a = none → τ a = some (.list (compL f items.length)) → Q a τ) : CompOk c scope cl elt target ifs items P  μ σ Q := by
  refine ⟨fun c' a h1 h2 h3 h4 h5 => ⟨fun k st => ∃ τ, st = ([], τ) ∧ σ.Sub τ ∧ τ a = some (.list (compL f k)), ⟨_, rfl, AHeap.sub_set _ h5, at_set_same⟩, ?_, ?_, ?_⟩⟩
  · rintro k _ ⟨τ, rfl, s1, _⟩; exact hP τ s1
  · rintro k p _ hp ⟨τ, rfl, s1, s2⟩
    have hk : k < items.length := (List.getElem?_eq_some_iff.mp hp).1
    have := compL_len f k
    refine W1_mono' (turn c' h1 h2 h3 h4 k p τ hp s1) fun _ st₁ y => WT.mono y (fun b st₂ ⟨y1, y2⟩ => ⟨fun hb => ?_, fun hb => ?_⟩) fun _ _ x => x
    · refine WT.mono (y1 hb) (fun q st₃ ⟨e, s3⟩ => ?_) fun _ _ x => x
      exact ⟨_, s3 _ _ s2, by omega, _, ⟨_, rfl, (s1.trans s3).off h5, by rw [at_set_same, compL_some e]⟩, ⟨(fun _ _ e => by cases e), .refl _⟩⟩
    · obtain ⟨e, s3⟩ := y2 hb
      exact ⟨_, ⟨_, rfl, s1.trans s3, by rw [compL_none e]; exact s3 _ _ s2⟩, ⟨(fun _ _ e => by cases e), .refl _⟩⟩
  · rintro _ ⟨τ, rfl, s1, s2⟩
    exact fin a τ s1 h5 s2
theorem un_neg {i : Int} {Q : PV → St → Prop} (h : Q (.int (-i)) st) : W1 c VRep (.int i) (unaryOp .USub)  Q st := fun v hid stk s ok R hv => by
  obtain ⟨t, rfl⟩ := hv
  exact PySem.P.neg_int ⟨.int (-i), st, R.toks _, ⟨_, rfl⟩, .refl _, h⟩
theorem bin_pow {a n : Int} {Q : PV → St → Prop} (hn : 0 ≤ n) (hn2 : n ≤ 1000000) (ha : a.natAbs < 2 ^ 64) (h : Q (.int (a ^ n.toNat)) st) : W2 c VRep (.int a) (.int n) (binaryOp .Pow)  Q st :=
  W2_ints (fun q => pow_int_small hn hn2 ha q) h
theorem bin_mulL {a : Addr} {p : PV} {n : Int} {Q : PV → St → Prop} (ha : seqAt σ a = some [p]) (h0 : 0 ≤ n) (hn : n ≤ 1000) (h : ∀ r, σ r = none → Q (.ref r) (μ, σ.set r (.list (List.replicate n.toNat p)))) : W2 c VRep (.ref a) (.int n) (binaryOp .Mult)  Q (μ, σ) := fun v u hid stk s ok R hv hu => by
  simp only [VRep] at hv; subst hv
  obtain ⟨t, rfl⟩ := hu
  obtain ⟨vs, ⟨k, hl⟩, hvs⟩ := R.seq ha
  obtain ⟨v1, r1, rfl, h1, hv⟩ := hvs.cons_inv
  obtain rfl := hv.nil_inv
  refine wpAny_binaryOp_repeat_ref (T := "list") (U := "int") (by decide) ⟨_, hl, rfl⟩ (fun s' => typeIs_int s' n t) noFill_list_mul F.fills_int_mul F.slot_int_rmul repeat_list F.slot_int_index.lookup
    (call_meets F.slot_int_rmul (typeIs_int s n t) F.entry_int_rmul (F.args_int_rmul_2 _ _) (lm_int_rmul_list_any n t a #[v1] k none #[])
      ⟨hl, rfl, ⟨_, hl, rfl⟩, call_meets F.slot_list_mul ⟨_, hl, rfl⟩ F.entry_list_mul (F.args_list_mul_2 _ _)
        (lm_list_mul_any a #[v1] k none #[] n t (by simp [Builtin.List.listFitsIndex]; omega) (by simp; omega) (by simp [Builtin.List.listTooLong, sizeLine]; omega))
        ⟨hl, ?_⟩⟩)
  rw [listMul_foldl_if]
  have e : (List.replicate n.toNat #[v1].toList).flatten = List.replicate n.toNat v1 := by simp
  rw [e]
  have hr : ∀ m : Nat, VReps s.heap (List.replicate m p) (List.replicate m v1) := by
    intro m
    induction m with
    | zero => exact .nil
    | succ m ih => exact .cons h1 ih
  exact ⟨.ref s.heap.objs.size, (μ, σ.set s.heap.objs.size (.list (List.replicate n.toNat p))), R.newList (hr _), rfl, Keeps.push _ _, h _ R.fresh_σ⟩
theorem call_min2 {a b : Int} {Q : PV → St → Prop} (hcalm : c.lv.calm = true) (h : Q (.int (if b < a then b else a)) (μ, σ)) : WN c VRep [.int a, .int b] (fun vs => call (.builtin "min") vs)  Q (μ, σ) := fun vs hid stk s ok R hv => by
  obtain ⟨v1, r1, rfl, h1, hv⟩ := hv.cons_inv
  obtain ⟨v2, r2, rfl, h2, hv⟩ := hv.cons_inv
  rw [hv.nil_inv]
  obtain ⟨t, rfl⟩ := h1
  obtain ⟨u, rfl⟩ := h2
  refine wpAny_mono (wpAny_toks (E := PostX) (Q := fun v s' => ∃ h' tk, v = (if b < a then Value.int b u else .int a t) ∧ s' = { s with heap := h', toks := tk } ∧ ∀ b o, s.heap.get? b = some o → h'.get? b = some o) (min_two_ints (ok.handled hcalm) fun h' tk hk => ⟨h', tk, rfl, rfl, hk⟩)) (fun v s' hx => ?_) fun _ _ x => x.1
  obtain ⟨⟨h', tk, rfl, rfl, hk⟩, htk⟩ := hx
  refine ⟨.int (if b < a then b else a), (μ, σ), R.grow (s' := { s with heap := h', toks := tk }) hk rfl rfl htk, ?_, fun b vs ⟨n, e⟩ => ⟨n, hk _ _ e⟩, h⟩
  split <;> exact ⟨_, rfl⟩
end
end Mine
end

end
section
set_option Elab.async false
set_option linter.unusedVariables false
set_option linter.unusedSectionVars false
set_option linter.unusedSimpArgs false
set_option maxRecDepth 100000
section
open PySem PySem.W
namespace Mine
-- an object of the state
local macro_rules | `(tactic| walk_at "hp") => `(tactic| first | assumption | exact at_set_same | (refine at_set_ne ?_ ?_; (first | assumption | (apply Ne.symm; assumption)); walk_at "hp") | (refine at_set_fresh (by assumption) ?_; walk_at "hp"))
set_option hygiene false in
local macro_rules | `(tactic| walk_at "kd") => `(tactic| first | (rw [hsc]; rfl) | (rw [hsc', relabel_of hsc]; rfl))
set_option hygiene false in
local macro_rules | `(tactic| walk_at "ce") => `(tactic| first | (rw [hce]; rfl) | (rw [hce']; rfl))
set_option hygiene false in
local macro_rules | `(tactic| walk_at "s1") => `(tactic| with_reducible first
  | refine seqQ_next ?_
  | refine seqQ_brk ?_
  | refine seqQ_cont ?_
  | refine seqQ_ret ?_
  | refine loopQ_brk ?_
  | refine loopQ_ret ?_
  | refine forQ_brk ?_
  | refine forQ_ret ?_
  | refine S_last ?_
  | refine S_seq ?_
  | refine S_nil ?_
  | (refine S_Assign ?_ ?h1; (case h1 => with_unfolding_all exact rfl))
  | (refine S_AssignSub ?_ ?h1; (case h1 => with_unfolding_all exact rfl))
  | refine S_if ?_
  | refine S_Return ?_
  | refine S_Break ?_
  | refine S_Continue ?_
  | (refine S_Expr ?_ ?h1 ?h2; (case h1 => with_unfolding_all (unfold PySem.interactive; walk_at "kd")); (case h2 => with_unfolding_all exact rfl))
  | (refine' W1_store ?h1 ?_; (case h1 => with_unfolding_all walk_at "kd"))
  | (refine' E_local ?h1 ?h2 ?_ ?h3; (case h1 => with_unfolding_all walk_at "kd"); (case h2 => with_unfolding_all exact rfl); (case h3 => with_unfolding_all exact rfl))
  | (refine' E_cell ?h1 ?h2 ?h3 ?_ ?h4; (case h1 => with_unfolding_all walk_at "kd"); (case h2 => with_unfolding_all walk_at "ce"); (case h3 => walk_at "hp"); (case h4 => with_unfolding_all exact rfl))
  | (refine' E_free ?h1 ?h2 ?h3 ?_ ?h4 ?h5; (case h1 => with_unfolding_all walk_at "kd"); (case h2 => with_unfolding_all walk_at "ce"); (case h3 => walk_at "hp"); (case h4 => with_unfolding_all exact rfl); (case h5 => with_unfolding_all exact rfl))
  | (refine' E_global B.gd ?h1 ?h2 ?h3 ?_ ?h4; (case h1 => with_unfolding_all walk_at "kd"); (case h2 => with_unfolding_all exact rfl); (case h3 => with_unfolding_all exact rfl); (case h4 => with_unfolding_all exact rfl))
  | refine E_int ?_
  | refine E_none ?_
  | refine E_BinOp ?_
  | refine E_ifE ?_
  | refine ifE_true ?_
  | refine ifE_false ?_
  | refine storeAll_cons ?_
  | refine storeAll_nil ?_
  | refine E_Slice ?_
  | refine Part_none ?_
  | refine Part_some ?_
  | refine E_bool ?_
  | (refine E_Subscript ?_ ?h1; (case h1 => with_unfolding_all exact rfl))
  | (refine C_Compare ?_ ?h1; (case h1 => with_unfolding_all exact rfl))
  | refine C_Not ?_
  | refine C_BoolOp ?_
  | refine truthy_b ?_
  | refine bin_add ?_
  | refine bin_sub ?_
  | (refine bin_shr ?h1 ?_; (case h1 => with_unfolding_all decide))
  | refine cmp_lt ?_
  | (refine bin_mul ?_ ?h1; (case h1 => exact mulOk2))
  | refine And_last ?_
  | refine And_step ?_
  | refine Or_last ?_
  | refine Or_step ?_
  | refine andQ_true ?_
  | refine andQ_false ?_
  | refine orQ_true ?_
  | refine orQ_false ?_
  | refine ifQ_true ?_
  | refine ifQ_false ?_
  | (refine' E_CallG B.gd ?h1 ?h2 ?h3 ?h4 ?_ ?h5 ?h6 ?h7 ?h8; (case h1 => with_unfolding_all walk_at "kd"); (case h2 => with_unfolding_all exact rfl); (case h3 => exact (B.fn _ (by simp)).get); (case h4 => with_unfolding_all exact rfl); (case h5 => with_unfolding_all exact rfl); (case h6 => with_unfolding_all exact rfl); (case h7 => with_unfolding_all exact rfl); (case h8 => with_unfolding_all exact rfl))
  | (refine' E_CallB B.gd ?h1 ?h2 ?h3 ?h4 ?_ ?h5 ?h6 ?h7 ?h8; (case h1 => with_unfolding_all walk_at "kd"); (case h2 => with_unfolding_all exact rfl); (case h3 => decide); (case h4 => with_unfolding_all exact rfl); (case h5 => with_unfolding_all exact rfl); (case h6 => with_unfolding_all exact rfl); (case h7 => with_unfolding_all exact rfl); (case h8 => with_unfolding_all exact rfl))
  | (refine' E_CallT B.gd ?h1 ?h2 ?h3 ?h4 ?_ ?h5 ?h6 ?h7 ?h8; (case h1 => with_unfolding_all walk_at "kd"); (case h2 => with_unfolding_all exact rfl); (case h3 => decide); (case h4 => with_unfolding_all exact rfl); (case h5 => with_unfolding_all exact rfl); (case h6 => with_unfolding_all exact rfl); (case h7 => with_unfolding_all exact rfl); (case h8 => with_unfolding_all exact rfl))
  | refine cmp_gt ?_
  | refine cmp_le ?_
  | refine cmp_ge ?_
  | refine is_none_n ?_
  | refine is_none_r ?_
  | refine is_none_i ?_
  | refine is_none_t ?_
  | refine isNot_none_n ?_
  | refine isNot_none_r ?_
  | refine isNot_none_i ?_
  | refine isNot_none_t ?_
  | refine Ifs_one ?_
  | refine Ifs_nil ?_
  | refine cmp_ne ?_
  | refine cmp_eq ?_
  | (refine bin_floordiv ?h1 ?h2 ?_; (case h1 => with_unfolding_all decide); (case h2 => with_unfolding_all decide))
  | refine E_List ?_
  | refine And.intro ⟨_, _, rfl, seq_of (by with_unfolding_all walk_at "hp")⟩ ?_
  | (refine' E_MethList (id := "list.append") F.slot_list_append F.type_list_append ?_ ?h1 ?h2 ?h3 ?h4 ?h5; (case h1 => with_unfolding_all exact rfl); (case h2 => with_unfolding_all exact rfl); (case h3 => with_unfolding_all exact rfl); (case h4 => with_unfolding_all exact rfl); (case h5 => with_unfolding_all exact rfl))
  | (refine' E_MethList0 (id := "list.pop") F.slot_list_pop F.type_list_pop ?_ ?h1 ?h2; (case h1 => with_unfolding_all exact rfl); (case h2 => with_unfolding_all exact rfl))
  | (refine' E_MethList (id := "list.insert") F.slot_list_insert F.type_list_insert ?_ ?h1 ?h2 ?h3 ?h4 ?h5; (case h1 => with_unfolding_all exact rfl); (case h2 => with_unfolding_all exact rfl); (case h3 => with_unfolding_all exact rfl); (case h4 => with_unfolding_all exact rfl); (case h5 => with_unfolding_all exact rfl))
  | (refine' E_MethList (id := "list.extend") F.slot_list_extend F.type_list_extend ?_ ?h1 ?h2 ?h3 ?h4 ?h5; (case h1 => with_unfolding_all exact rfl); (case h2 => with_unfolding_all exact rfl); (case h3 => with_unfolding_all exact rfl); (case h4 => with_unfolding_all exact rfl); (case h5 => with_unfolding_all exact rfl))
  | (refine' E_MethList (id := "list.pop") F.slot_list_pop F.type_list_pop ?_ ?h1 ?h2 ?h3 ?h4 ?h5; (case h1 => with_unfolding_all exact rfl); (case h2 => with_unfolding_all exact rfl); (case h3 => with_unfolding_all exact rfl); (case h4 => with_unfolding_all exact rfl); (case h5 => with_unfolding_all exact rfl))
  | (refine C_value ?_ ?h1; (case h1 => with_unfolding_all exact rfl))
  | refine truthy_i ?_
  | (refine E_Tuple ?_)
  | (refine S_AssignTup ?_ ?h1 ?h2; (case h1 => with_unfolding_all exact rfl); (case h2 => with_unfolding_all exact swapped_of hsc rfl))
  | (refine Asg_Tuple rfl ?_ ?h1 ?h2 ?h3; (case h1 => with_unfolding_all exact rfl); (case h2 => with_unfolding_all exact rfl); (case h3 => with_unfolding_all exact rfl))
  | refine asgAll_cons ?_
  | refine asgAll_nil ?_
  | (refine' Asg_local ?h1 ?_; (case h1 => with_unfolding_all walk_at "kd"))
  | refine Asg_Sub ?_
  | refine A_nil ?_
  | (refine A_cons ?_ ?h1; (case h1 => with_unfolding_all exact rfl)))
section
open PySem PySem.W
set_option Elab.async false
set_option linter.unusedVariables false
set_option maxRecDepth 100000

def G (w : World) (base : Heap) (os : OsState) (mb : Str → Option Value) : Gx := ⟨PySem.Challenge.rw_dn0048_03.row.prog, w, base, os, mgW w.params, mb⟩

/-- what is told of the defs -/
structure FnOk (base : Heap) (a : Nat) : Prop where
  get : base.get? a = some (obAt a)
  code : base.CodeRec (fdAt a).code (fdAt a).qualname
structure Bs (G : Gx) : Prop where
  gd : Gd G
  ob : ∀ a ∈ [43, 52], G.base.get? a = some (obAt a)
  kw : ∀ a ∈ [44, 53], ∃ m, G.base.Ns a m ∧ m (Str.ofString "key") = some .none
  fn : ∀ a ∈ [21, 28, 35, 42, 51, 60, 67, 72, 77, 82, 87], FnOk G.base a
  kb : KBase G 66 62
  lm : Maker G 71 69

variable {w : World} {base : Heap} {os : OsState} {mb : Str → Option Value}

def itm (len : Nat → Int) (j : Nat) : PV := .tup [.int (-(len j)), .int (j : Int)]
section
variable {c : Cx} {μ : Locals} {σ : AHeap} {len : Nat → Int}
theorem lt_itm {i j : Nat} {Q : PV → St → Prop} {st : St} (h : Q (.bool (ltN len i j)) st) : W2 c VRep (itm len i) (itm len j) (compareOp .Lt) Q st := cmp_lt_tup (ns := [-(len i), (i : Int)]) (ms := [-(len j), (j : Int)]) h
theorem itm_len (l : List Nat) : (l.map (itm len)).length = l.length := List.length_map ..
theorem itm_at {l : List Nat} {i : Nat} (h : i < l.length) : (l.map (itm len))[(i : Int).toNat]? = some (itm len (l.getD i 0)) := by
  rw [Int.toNat_natCast, List.getElem?_map, List.getD_eq_getElem?_getD, List.getElem?_eq_getElem h]; rfl
theorem big_of {n : Nat} (h : n ≤ 1000) : n ≤ 16777216 := Nat.le_trans h (by decide)
theorem get_itm {a : Addr} {l : List Nat} {i : Nat} {Q : PV → St → Prop} (hs : σ a = some (.list (l.map (itm len)))) (hi : i < l.length) (hz : l.length ≤ 1000) (h : Q (itm len (l.getD i 0)) (μ, σ)) : GetI c (.ref a) (.int (i : Int)) Q (μ, σ) :=
  get_list (seq_of hs) (Int.natCast_nonneg _) (itm_at hi) (itm_len l ▸ big_of hz) h
theorem set_itm {a : Addr} {l : List Nat} {i x : Nat} {Q : Unit → St → Prop} (hs : σ a = some (.list (l.map (itm len)))) (hi : i < l.length) (hz : l.length ≤ 1000) (h : Q () (μ, σ.set a (.list ((l.set i x).map (itm len))))) : W3 c UnitRep (.ref a) (.int (i : Int)) (itm len x) (fun o i v => setItem o i v) Q (μ, σ) :=
  set_list hs (Int.natCast_nonneg _) (by rw [itm_len]; exact Int.ofNat_lt.mpr hi) (itm_len l ▸ big_of hz) (by rw [Int.toNat_natCast, ← List.map_set]; exact h)
theorem half_cast {n : Nat} (h : 0 < n) : ((n : Int) - 1).fdiv (2 ^ Int.toNat 1) = (((n - 1) / 2 : Nat) : Int) := by
  rw [show (2 : Int) ^ Int.toNat 1 = 2 from rfl, Int.fdiv_eq_ediv_of_nonneg _ (by omega)]; omega
theorem half_lt {n L : Nat} (h : 0 < n) (hl : n < L) : (n - 1) / 2 < n ∧ (n - 1) / 2 < L := by omega
theorem dec_lt {a b : Nat} (h : decide ((a : Int) < (b : Int)) = true) : a < b := Int.ofNat_lt.mp (of_decide_eq_true h)
theorem dec_nlt {a b : Nat} (h : decide ((a : Int) < (b : Int)) = false) : ¬ a < b := fun q => of_decide_eq_false h (Int.ofNat_lt.mpr q)
theorem down_lt {m p q L : Nat} (hm : m + p = L) (h1 : p < q) (h2 : q < L) : L - q < m ∧ L - q + q = L := by omega
theorem suc_sub (n : Nat) : ((n + 1 : Nat) : Int) - 1 = (n : Int) := by omega
theorem kid1 (p : Nat) : p < 2 * p + 1 := by omega
theorem kid2 (p : Nat) : p < 2 * p + 2 := by omega
end
theorem siftdown_call (B : Bs (G w base os mb)) {n : Nat} {a : Addr} {l : List Nat} {pos x : Nat} {σ : AHeap} {len : Nat → Int} {Q : PV → AHeap → Prop} (hs : σ a = some (.list (l.map (itm len)))) (hp : pos < l.length) (hx : l.getD pos 0 = x) (hz : l.length ≤ 1000)
    (hQ : Q .none (σ.set a (.list ((sdnB (ltN len) 0 x pos l).map (itm len))))) : CallS (G w base os mb) ⟨n + 1, true⟩ (.ref 35) [.ref a, .int 0, .int (pos : Int)] Q σ := by
  refine call_def (fd := fdAt 35) (body := bdAt 35) [Str.ofString "heap", Str.ofString "startpos", Str.ofString "pos"] B.gd (B.fn 35 (by simp)).get rfl rfl (B.fn 35 (by simp)).code rfl rfl rfl rfl rfl rfl (by decide) rfl (fun vs hv => ?_) (fun i => rfl) (fun i => rfl) ?_
  · obtain ⟨v1, v2, v3, rfl⟩ := len3 hv; rfl
  intro c L hc hlv hsc hce hq hf
  obtain ⟨g, lv, A, env⟩ := c
  subst hc hlv
  show WS _ (bdAt 35) _ ([(Str.ofString "heap", .ref a), (Str.ofString "startpos", .int 0), (Str.ofString "pos", .int (pos : Int))], σ)
  clear hq hf hce
  refine S_seq ?_
  repeat walk_at "s1"
  refine get_itm hs hp hz ?_
  rw [hx]
  repeat walk_at "s1"
  refine S_while (fun m st => ∃ l' : List Nat, m < l'.length ∧ l'.length ≤ 1000 ∧ sdnB (ltN len) 0 x m l' = sdnB (ltN len) 0 x pos l ∧
    st = ([(Str.ofString "heap", .ref a), (Str.ofString "startpos", .int 0), (Str.ofString "pos", .int (m : Int)), (Str.ofString "newitem", itm len x)], σ.set a (.list (l'.map (itm len))))) pos _ ⟨l, hp, hz, rfl, rfl⟩ (by rw [AHeap.set_self _ hs]; exact St.le_refl _) ?_
  clear hp hz hx hs
  rintro m _ ⟨l', hm, hz, hsd, rfl⟩
  repeat walk_at "s1"
  refine ⟨fun hb => ?_, fun hb => ?_⟩
  · have hgt : 0 < m := dec_lt hb
    rw [sdnB, dif_pos hgt] at hsd
    obtain ⟨h1, h2⟩ := half_lt hgt hm
    repeat walk_at "s1"
    rw [half_cast hgt]
    repeat walk_at "s1"
    refine get_itm at_set_same h2 hz ?_
    repeat walk_at "s1"
    refine lt_itm ?_
    repeat walk_at "s1"
    refine ifQ_dec (fun hb => ?_) (fun hb => ?_)
    · rw [if_pos hb] at hsd
      repeat walk_at "s1"
      refine set_itm at_set_same hm hz ?_
      repeat walk_at "s1"
      refine loopQ_cont ((m - 1) / 2) h1 ⟨_, by rw [List.length_set]; exact h2, by rw [List.length_set]; exact hz, hsd, rfl⟩ ?_
      rw [AHeap.set_set]
      exact St.le_app (.refl _)
    · rw [if_neg (by rw [hb]; decide)] at hsd
      repeat walk_at "s1"
      refine set_itm at_set_same hm hz ?_
      rw [AHeap.set_set, hsd]
      exact hQ
  · have hgt : ¬ 0 < m := dec_nlt hb
    rw [sdnB, dif_neg hgt] at hsd
    repeat walk_at "s1"
    refine set_itm at_set_same hm hz ?_
    rw [AHeap.set_set, hsd]
    exact hQ
def tl42 : List Stmt := match (bdAt 42).getD 4 (.Pass default) with
  | .While _ body _ _ => body.drop 2
  | _ => []
theorem sift_tail {c : Cx} {a : Addr} {l : List Nat} {p q : Nat} {E : Int} {x r : PV} {σ : AHeap} {len : Nat → Int} {Q : AFlow → St → Prop} (hsc : c.env.scope = (fdAt 42).scope) (hs : σ a = some (.list (l.map (itm len)))) (hz : l.length ≤ 1000) (hp : p < l.length) (hq : q < l.length)
    (h : Q .next ([(Str.ofString "heap", .ref a), (Str.ofString "pos", .int (q : Int)), (Str.ofString "endpos", .int E), (Str.ofString "startpos", .int 0), (Str.ofString "newitem", x), (Str.ofString "childpos", .int ((2 * q + 1 : Nat) : Int)), (Str.ofString "rightpos", r)], σ.set a (.list ((l.set p (l.getD q 0)).map (itm len))))) :
    WS c tl42 Q ([(Str.ofString "heap", .ref a), (Str.ofString "pos", .int (p : Int)), (Str.ofString "endpos", .int E), (Str.ofString "startpos", .int 0), (Str.ofString "newitem", x), (Str.ofString "childpos", .int (q : Int)), (Str.ofString "rightpos", r)], σ) := by
  refine S_seq ?_
  repeat walk_at "s1"
  refine get_itm hs hq hz ?_
  repeat walk_at "s1"
  refine set_itm hs hp hz ?_
  repeat walk_at "s1"
  exact h
theorem siftup_call (B : Bs (G w base os mb)) {n : Nat} {a : Addr} {l : List Nat} {x : Nat} {σ : AHeap} {len : Nat → Int} {Q : PV → AHeap → Prop} (hs : σ a = some (.list (l.map (itm len)))) (hp : 0 < l.length) (hx : l.getD 0 0 = x) (hz : l.length ≤ 1000)
    (hQ : Q .none (σ.set a (.list ((topB (ltN len) 0 x l).map (itm len))))) : CallS (G w base os mb) ⟨n + 2, true⟩ (.ref 42) [.ref a, .int 0] Q σ := by
  refine call_def (fd := fdAt 42) (body := bdAt 42) [Str.ofString "heap", Str.ofString "pos"] B.gd (B.fn 42 (by simp)).get rfl rfl (B.fn 42 (by simp)).code rfl rfl rfl rfl rfl rfl (by decide) rfl (fun vs hv => ?_) (fun i => rfl) (fun i => rfl) ?_
  · obtain ⟨v1, v2, rfl⟩ := len2 hv; rfl
  intro c L hc hlv hsc hce hq hf
  obtain ⟨g, lv, A, env⟩ := c
  subst hc hlv
  show WS _ (bdAt 42) _ ([(Str.ofString "heap", .ref a), (Str.ofString "pos", .int 0)], σ)
  clear hq hf hce
  refine S_seq ?_
  repeat walk_at "s1"
  refine len_seq (seq_of hs) (itm_len (len := len) l ▸ big_of hz) ?_
  rw [itm_len]
  repeat walk_at "s1"
  refine get_itm (i := 0) hs hp hz ?_
  rw [hx]
  repeat walk_at "s1"
  refine S_while (fun m st => ∃ (p : Nat) (l' : List Nat), m + p = l.length ∧ p < l.length ∧ l'.length = l.length ∧ supB (ltN len) 0 p l' = supB (ltN len) 0 0 l ∧
    st = ([(Str.ofString "heap", .ref a), (Str.ofString "pos", .int (p : Int)), (Str.ofString "endpos", .int (l.length : Int)), (Str.ofString "startpos", .int 0), (Str.ofString "newitem", itm len x), (Str.ofString "childpos", .int ((2 * p + 1 : Nat) : Int))], σ.set a (.list (l'.map (itm len))))) l.length _ ⟨0, l, rfl, hp, rfl, rfl, rfl⟩ (by rw [AHeap.set_self _ hs]; exact St.le_refl _) ?_
  clear hp hx hs
  rintro m _ ⟨p, l', hm, hpl, hl', hsu, rfl⟩
  have hz' : l'.length ≤ 1000 := hl' ▸ hz
  have hpl' : p < l'.length := hl' ▸ hpl
  repeat walk_at "s1"
  have fin : ∀ q, p < q → q < l'.length → supB (ltN len) 0 q (l'.set p (l'.getD q 0)) = supB (ltN len) 0 0 l → ∀ {Q' : AFlow → St → Prop} {r : PV}, loopQ (fun m st => ∃ (p : Nat) (l' : List Nat), m + p = l.length ∧ p < l.length ∧ l'.length = l.length ∧ supB (ltN len) 0 p l' = supB (ltN len) 0 0 l ∧
    st = ([(Str.ofString "heap", .ref a), (Str.ofString "pos", .int (p : Int)), (Str.ofString "endpos", .int (l.length : Int)), (Str.ofString "startpos", .int 0), (Str.ofString "newitem", itm len x), (Str.ofString "childpos", .int ((2 * p + 1 : Nat) : Int))], σ.set a (.list (l'.map (itm len))))) m Q' .next
      ([(Str.ofString "heap", .ref a), (Str.ofString "pos", .int (q : Int)), (Str.ofString "endpos", .int (l.length : Int)), (Str.ofString "startpos", .int 0), (Str.ofString "newitem", itm len x), (Str.ofString "childpos", .int ((2 * q + 1 : Nat) : Int)), (Str.ofString "rightpos", r)], (σ.set a (.list (l'.map (itm len)))).set a (.list ((l'.set p (l'.getD q 0)).map (itm len)))) := fun q h1 h2 h3 Q' r => by
    obtain ⟨d1, d2⟩ := down_lt hm h1 (hl' ▸ h2)
    refine loopQ_next _ d1 ⟨q, _, d2, hl' ▸ h2, by rw [List.length_set]; exact hl', h3, rfl⟩ ?_
    rw [AHeap.set_set]
    exact St.le_app (.refl _)
  refine ⟨fun hb => ?_, fun hb => ?_⟩
  · have hc1 : 2 * p + 1 < l'.length := hl' ▸ dec_lt hb
    rw [supB, dif_pos hc1] at hsu
    repeat walk_at "s1"
    refine andQ_dec (fun hb2 => ?_) (fun hb2 => ?_)
    · have hc2 : 2 * p + 2 < l'.length := hl' ▸ dec_lt (a := 2 * p + 2) hb2
      repeat walk_at "s1"
      refine get_itm at_set_same hc1 hz' ?_
      repeat walk_at "s1"
      refine get_itm (i := 2 * p + 2) at_set_same hc2 hz' ?_
      refine lt_itm ?_
      repeat walk_at "s1"
      refine ifQ_dec (fun hb3 => ?_) (fun hb3 => ?_)
      · rw [if_pos ⟨hc2, by simpa using hb3⟩] at hsu
        iterate 5 walk_at "s1"
        exact sift_tail (q := 2 * p + 2) hsc at_set_same hz' hpl' hc2 (fin _ (kid2 p) hc2 hsu)
      · rw [if_neg (fun q => by rw [q.2] at hb3; cases hb3)] at hsu
        iterate 2 walk_at "s1"
        exact sift_tail hsc at_set_same hz' hpl' hc1 (fin _ (kid1 p) hc1 hsu)
    · have hc2 : ¬ 2 * p + 2 < l'.length := hl' ▸ dec_nlt (a := 2 * p + 2) hb2
      rw [if_neg (fun q => hc2 q.1)] at hsu
      iterate 3 walk_at "s1"
      exact sift_tail hsc at_set_same hz' hpl' hc1 (fin _ (kid1 p) hc1 hsu)
  · have hc1 : ¬ 2 * p + 1 < l'.length := hl' ▸ dec_nlt hb
    rw [supB, dif_neg hc1] at hsu
    repeat walk_at "s1"
    refine set_itm at_set_same hpl' hz' ?_
    repeat walk_at "s1"
    refine WN_call ?_
    refine siftdown_call B (l := l'.set p x) (x := x) at_set_same (by rw [List.length_set]; exact hpl') (getD_set_same hpl') (by rw [List.length_set]; exact hz') ?_
    rw [AHeap.set_set, AHeap.set_set]
    repeat walk_at "s1"
    unfold topB at hQ
    rw [← hsu] at hQ
    exact hQ
theorem push_call (B : Bs (G w base os mb)) {n : Nat} {a : Addr} {hl : List Nat} {len : Nat → Int} {j : Nat} {σ : AHeap} {Q : PV → AHeap → Prop} (hs : σ a = some (.list (hl.map (itm len)))) (hz : hl.length < 1000) (hH : IsHeap (ltN len) 0 hl)
    (hQ : ∀ hl' : List Nat, hl'.Perm (hl ++ [j]) → IsHeap (ltN len) 0 hl' → Q .none (σ.set a (.list (hl'.map (itm len))))) : CallS (G w base os mb) ⟨n + 2, true⟩ (.ref 21) [.ref a, itm len j] Q σ := by
  refine call_def (fd := fdAt 21) (body := bdAt 21) [Str.ofString "heap", Str.ofString "item"] B.gd (B.fn 21 (by simp)).get rfl rfl (B.fn 21 (by simp)).code rfl rfl rfl rfl rfl rfl (by decide) rfl (fun vs hv => ?_) (fun i => rfl) (fun i => rfl) ?_
  · obtain ⟨v1, v2, rfl⟩ := len2 hv; rfl
  intro c L hc hlv hsc hce hq hf
  obtain ⟨g, lv, A, env⟩ := c
  subst hc hlv
  show WS _ (bdAt 21) _ ([(Str.ofString "heap", .ref a), (Str.ofString "item", itm len j)], σ)
  clear hq hf hce
  have e : hl.map (itm len) ++ [itm len j] = (hl ++ [j]).map (itm len) := by rw [List.map_append]; rfl
  have el : (hl ++ [j]).length = hl.length + 1 := by rw [List.length_append]; rfl
  refine S_seq ?_
  repeat walk_at "s1"
  refine append_list hs (itm_len (len := len) hl ▸ big_of (Nat.le_of_lt hz)) ?_
  rw [e]
  repeat walk_at "s1"
  refine len_seq (seq_of at_set_same) (by rw [itm_len, el]; exact big_of hz) ?_
  rw [itm_len, el]
  repeat walk_at "s1"
  rw [suc_sub]
  refine WN_call ?_
  refine siftdown_call B (l := hl ++ [j]) (x := j) at_set_same (by rw [el]; exact Nat.lt_succ_self _) (by rw [List.getD_eq_getElem?_getD, List.getElem?_append_right (Nat.le_refl _), Nat.sub_self]; rfl) (by rw [el]; exact hz) ?_
  rw [AHeap.set_set]
  repeat walk_at "s1"
  exact hQ _ push_perm (push_heap ltN_tot hH)
theorem pushpop_call (B : Bs (G w base os mb)) {n : Nat} {a : Addr} {hl : List Nat} {len : Nat → Int} {j : Nat} {σ : AHeap} {Q : PV → AHeap → Prop} (hs : σ a = some (.list (hl.map (itm len)))) (hz : hl.length ≤ 1000) (hH : IsHeap (ltN len) 0 hl)
    (hQ : ∀ (x : Nat) (hl' : List Nat), (hl ++ [j]).Perm (x :: hl') → IsHeap (ltN len) 0 hl' → (∀ k ∈ hl ++ [j], len k ≤ len x) → Q (itm len x) (σ.set a (.list (hl'.map (itm len))))) : CallS (G w base os mb) ⟨n + 3, true⟩ (.ref 28) [.ref a, itm len j] Q σ := by
  have hno : (∀ k ∈ hl, len k ≤ len j) → Q (itm len j) σ := fun h => by
    have := hQ j hl List.perm_append_comm hH (fun k hk => by
      rcases List.mem_append.mp hk with q | q
      · exact h k q
      · rw [List.mem_singleton.mp q]; exact Int.le_refl _)
    rwa [AHeap.set_self _ hs] at this
  refine call_def (fd := fdAt 28) (body := bdAt 28) [Str.ofString "heap", Str.ofString "item"] B.gd (B.fn 28 (by simp)).get rfl rfl (B.fn 28 (by simp)).code rfl rfl rfl rfl rfl rfl (by decide) rfl (fun vs hv => ?_) (fun i => rfl) (fun i => rfl) ?_
  · obtain ⟨v1, v2, rfl⟩ := len2 hv; rfl
  intro c L hc hlv hsc hce hq hf
  obtain ⟨g, lv, A, env⟩ := c
  subst hc hlv
  show WS _ (bdAt 28) _ ([(Str.ofString "heap", .ref a), (Str.ofString "item", itm len j)], σ)
  clear hq hf hce
  refine S_seq ?_
  repeat walk_at "s1"
  refine truthy_l (seq_of hs) (itm_len (len := len) hl ▸ big_of hz) ?_
  cases hl with
  | nil =>
    refine andQ_false ?_
    repeat walk_at "s1"
    exact hno (by simp)
  | cons b t =>
    refine andQ_true ?_
    repeat walk_at "s1"
    refine get_itm (i := 0) hs (Nat.succ_pos _) hz ?_
    repeat walk_at "s1"
    refine lt_itm ?_
    refine truthy_b ?_
    show ifQ _ _ _ _ (ltN len b j) _
    cases hb : ltN len b j with
    | false =>
      rw [ltN_false] at hb
      repeat walk_at "s1"
      exact hno fun k hk => by have : len k ≤ len b := heap_top (len := len) hH hk; omega
    | true =>
      rw [ltN_iff] at hb
      repeat walk_at "s1"
      refine get_itm (i := 0) hs (Nat.succ_pos _) hz ?_
      repeat walk_at "s1"
      refine ⟨by simp, ?_⟩
      repeat walk_at "s1"
      refine set_itm (i := 0) hs (Nat.succ_pos _) hz ?_
      repeat walk_at "s1"
      refine WN_call ?_
      refine siftup_call B (l := j :: t) (x := j) at_set_same (Nat.succ_pos _) rfl hz ?_
      rw [AHeap.set_set]
      repeat walk_at "s1"
      refine hQ b _ ?_ (topB_heap (x := j) (l := j :: t) ltN_tot (Nat.succ_pos _) hH.hole0.set) (fun k hk => ?_)
      · have := topB_perm (lt := ltN len) (d := 0) (x := j) (l := j :: t) (Nat.succ_pos _)
        exact (List.perm_append_comm.trans (List.Perm.swap b j t)).trans (this.symm.cons b)
      · rcases List.mem_append.mp hk with q | q
        · exact heap_top (len := len) hH q
        · have : len (List.getD (b :: t) 0 0) = len b := rfl
          rw [List.mem_singleton.mp q]; omega

end
section
open PySem PySem.W
set_option Elab.async false
set_option linter.unusedVariables false
set_option maxRecDepth 100000
variable {w : World} {base : Heap} {os : OsState} {mb : Str → Option Value}
theorem VReps.two {h : Heap} {p q : PV} {vs : List Value} (x : VReps h [p, q] vs) : ∃ v u, vs = [v, u] ∧ VRep h p v ∧ VRep h q u := by
  obtain ⟨v1, r1, rfl, h1, x⟩ := x.cons_inv
  obtain ⟨v2, r2, rfl, h2, x⟩ := x.cons_inv
  exact ⟨v1, v2, by rw [x.nil_inv], h1, h2⟩
theorem VReps.one {h : Heap} {p : PV} {vs : List Value} (x : VReps h [p] vs) : ∃ v, vs = [v] ∧ VRep h p v := by
  obtain ⟨v1, r1, rfl, h1, x⟩ := x.cons_inv
  exact ⟨v1, by rw [x.nil_inv], h1⟩
theorem VReps.four {h : Heap} {p q r t : PV} {vs : List Value} (x : VReps h [p, q, r, t] vs) : ∃ v u w z, vs = [v, u, w, z] ∧ VRep h p v ∧ VRep h q u ∧ VRep h r w ∧ VRep h t z := by
  obtain ⟨v1, r1, rfl, h1, x⟩ := x.cons_inv
  obtain ⟨v2, r2, rfl, h2, x⟩ := x.cons_inv
  obtain ⟨w, z, rfl, h3⟩ := x.two
  exact ⟨v1, v2, w, z, rfl, h1, h2, h3⟩
def natL (l : List Nat) : List PV := l.map fun (j : Nat) => PV.int (j : Int)
theorem natL_at {l : List Nat} {i j : Nat} (h : l[i]? = some j) : (natL l)[i]? = some (.int (j : Int)) := by unfold natL; rw [List.getElem?_map, h]; rfl
theorem natL_len (l : List Nat) : (natL l).length = l.length := List.length_map ..
/-- the class and the comparison that it holds -/
structure KL (pm : Value) (σ : AHeap) (C : Addr) (hs : List Int) : Prop where
  ex : ∃ mc D p fi f1 ci c1 la hc cl hA ctv, KIn pm σ mc C D p fi f1 ci c1 ∧ LIn pm σ la hc cl hA ctv hs ∧ σ mc = some (.cell (some (.ref la)))
theorem KL.sub {pm σ τ C hs} (K : KL pm σ C hs) (h : σ.Sub τ) : KL pm τ C hs := by
  obtain ⟨mc, D, p, fi, f1, ci, c1, la, hc, cl, hA, ctv, a, b, c⟩ := K.ex
  exact ⟨mc, D, p, fi, f1, ci, c1, la, hc, cl, hA, ctv, a.sub h, b.sub h, h _ _ c⟩
theorem KL.cls {pm σ C hs} (K : KL pm σ C hs) : ∃ o cd, σ C = some (.raw o) ∧ o.data = .cls cd ∧ o.cls = .type "type" := by
  obtain ⟨mc, D, p, fi, f1, ci, c1, la, hc, cl, hA, ctv, a, b, c⟩ := K.ex
  obtain ⟨bT, tn, tq, h⟩ := a.cls
  exact ⟨_, _, h, rfl, rfl⟩
def Inst (σ : AHeap) (C x : Addr) (j : Nat) : Prop := ∃ dx, σ x = some (.own (instR C dx (j : Int))) ∧ σ dx = some (.raw emptyDict)
theorem Inst.sub {σ τ C x j} (I : Inst σ C x j) (h : σ.Sub τ) : Inst τ C x j := let ⟨dx, a, b⟩ := I; ⟨dx, h _ _ a, h _ _ b⟩
theorem KL.make {G : Gx} {n : Nat} {calm : Bool} {pm σ C hs} {j : Nat} {Q : PV → AHeap → Prop} (hG : Gd G) (K : KL pm σ C hs) (h : ∀ x τ, σ.Sub τ → Inst τ C x j → Q (.ref x) τ) : CallS G ⟨n + 2, calm⟩ (.ref C) [.int (j : Int)]  Q σ := by
  obtain ⟨mc, D, p, fi, f1, ci, c1, la, hc, cl, hA, ctv, a, b, c⟩ := K.ex
  refine call_K hG a fun x dx hx hdx hne => h x _ ((AHeap.sub_set _ hdx).fresh (by rw [AHeap.set_ne _ _ hne]; exact hx)) ⟨dx, AHeap.set_same .., ?_⟩
  rw [AHeap.set_ne _ _ hne.symm]; exact AHeap.set_same ..
theorem KL.lt {c : Cx} {n : Nat} {pm σ C hs} {μ : Locals} {Q : PV → St → Prop} {x y : Addr} {i j : Nat} {u z : Int} (hn : c.lv = ⟨n + 2, true⟩) (hG : Gd c.toGx) (K : KL pm σ C hs) (hx : Inst σ C x i) (hy : Inst σ C y j) (hi : hs[i]? = some u) (hj : hs[j]? = some z)
    (h : Q (.bool (decide (u - z < 0))) (μ, σ)) : W2 c VRep (.ref x) (.ref y) (compareOp .Lt)  Q (μ, σ) := by
  obtain ⟨mc, D, p, fi, f1, ci, c1, la, hc, cl, hA, ctv, a, b, e⟩ := K.ex
  obtain ⟨dx, x1, x2⟩ := hx
  obtain ⟨dy, y1, y2⟩ := hy
  exact cmp_ltK ⟨n, hn⟩ hG a b e hi hj x1 x2 y1 y2 h
/-- where a work stands in a row by its hour -/
structure CutN (hs : List Int) (row : List Nat) (i k : Nat) : Prop where
  le : k ≤ row.length
  low : ∀ p j, p < k → row[p]? = some j → hs.getD j 0 ≤ hs.getD i 0
  high : ∀ p j, k ≤ p → row[p]? = some j → hs.getD i 0 < hs.getD j 0
theorem getD_some {hs : List Int} {i : Nat} (h : i < hs.length) : hs[i]? = some (hs.getD i 0) := by
  rw [List.getD_eq_getElem?_getD, List.getElem?_eq_getElem h]; rfl
theorem bisectK_call (B : Bs (G w base os mb)) {n : Nat} {a x : Addr} {row : List Nat} {σ : AHeap} {pm : Value} {C : Addr} {hs : List Int} {i k : Nat} {Q : PV → AHeap → Prop}
    (K : KL pm σ C hs) (hx : Inst σ C x i) (ha : seqAt σ a = some (natL row)) (hz : row.length ≤ 1000) (hrow : ∀ j ∈ row, j < hs.length) (hi : i < hs.length) (hk : CutN hs row i k) (hQ : ∀ τ, σ.Sub τ → Q (.int k) τ) :
    CallK (G w base os mb) ⟨n + 3, true⟩ (.ref 60) [.ref a, .ref x, .int 0, .none] [(Str.ofString "key", .ref C)]  Q σ := by
  refine call_bind (fd := fdAt 60) (body := bdAt 60) (ps := [.ref a, .ref x, .int 0, .none, .ref C]) [Str.ofString "a", Str.ofString "x", Str.ofString "lo", Str.ofString "hi", Str.ofString "key"] B.gd (B.fn 60 (by simp)).get rfl rfl (B.fn 60 (by simp)).code rfl rfl rfl rfl rfl rfl (by decide) rfl ?_ (fun i => rfl) (fun i => rfl) ?_
  · intro A hid stk s vs ks E Q R hv hks hQ
    obtain ⟨v1, v2, v3, v4, rfl, h1, h2, h3, h4⟩ := hv.four
    obtain ⟨k1, rfl, hk1⟩ := hks.one
    show wpAny _ _ (seqItems? (Value.ref 52) >>= _) _ _ s
    refine wpAny_bind (wpAny_seqItems (R.stays _ _ (B.ob 52 (by simp))) rfl ?_)
    exact wpAny_pure (hQ [v1, v2, v3, v4, k1] s R (.refl _) (.cons h1 (.cons h2 (.cons h3 (.cons h4 (.cons hk1 .nil))))))
  intro c L hc hlv hsc hce hq hf
  obtain ⟨g, lv, A, env⟩ := c
  subst hc hlv
  show WS _ (bdAt 60) _ ([(Str.ofString "a", .ref a), (Str.ofString "x", .ref x), (Str.ofString "lo", .int 0), (Str.ofString "hi", .none), (Str.ofString "key", .ref C)], σ)
  refine S_seq ?_
  repeat walk_at "s1"
  refine ifQ_false ?_
  repeat walk_at "s1"
  refine len_seq ha (by rw [natL_len]; omega) ?_
  rw [natL_len]
  repeat walk_at "s1"
  refine S_while (fun m st => ∃ (lo hi : Int) (τ : AHeap), 0 ≤ lo ∧ lo ≤ k ∧ (k : Int) ≤ hi ∧ hi ≤ row.length ∧ (m : Int) = hi - lo ∧ σ.Sub τ ∧
    st = ([(Str.ofString "a", .ref a), (Str.ofString "x", .ref x), (Str.ofString "lo", .int lo), (Str.ofString "hi", .int hi), (Str.ofString "key", .ref C)], τ)) row.length _ ⟨0, row.length, σ, by omega, by omega, by have := hk.le; omega, by omega, by omega, .refl _, rfl⟩ (St.le_refl _) ?_
  rintro m _ ⟨lo, hi', τ, h0, h1, h2, h3, h4, hsub, rfl⟩
  repeat walk_at "s1"
  refine ⟨fun hb => ?_, fun hb => ?_⟩
  · have hb' : lo < hi' := by simpa using hb
    repeat walk_at "s1"
    have hm : (lo + hi').fdiv 2 = (((lo + hi') / 2).toNat : Nat) := by rw [Int.fdiv_eq_ediv_of_nonneg _ (by omega)]; omega
    rw [hm]
    have hml : ((lo + hi') / 2).toNat < row.length := by omega
    have hg := List.getElem?_eq_getElem hml
    have hj := hrow _ (List.getElem_mem hml)
    generalize row[((lo + hi') / 2).toNat] = j at hg hj
    repeat walk_at "s1"
    refine E_CallCl ?_ rfl rfl rfl
    repeat walk_at "s1"
    refine ⟨C, rfl, ?_⟩
    repeat walk_at "s1"
    refine get_list (seq_sub' hsub ha) (by omega) (by rw [Int.toNat_natCast]; exact natL_at hg) (by rw [natL_len]; omega) ?_
    repeat walk_at "s1"
    refine ⟨(K.sub hsub).cls, WN_call ((K.sub hsub).make B.gd fun y υ hsub2 hy => ?_)⟩
    refine (K.sub (hsub.trans hsub2)).lt rfl B.gd (hx.sub (hsub.trans hsub2)) hy (getD_some hi) (getD_some hj) ?_
    repeat walk_at "s1"
    refine ifQ_dec (fun hb2 => ?_) (fun hb2 => ?_)
    · have hb3 : hs.getD i 0 < hs.getD j 0 := by have := of_decide_eq_true hb2; omega
      have hk2 : ¬ ((lo + hi') / 2).toNat < k := fun q => by have := hk.low _ _ q hg; omega
      repeat walk_at "s1"
      exact loopQ_next (((lo + hi') / 2).toNat - lo.toNat) (by omega) ⟨lo, ((lo + hi') / 2).toNat, υ, h0, h1, by omega, by omega, by omega, hsub.trans hsub2, rfl⟩ (St.le_app (.refl _))
    · have hb3 : ¬ hs.getD i 0 < hs.getD j 0 := by have := of_decide_eq_false hb2; omega
      have hk2 : ¬ k ≤ ((lo + hi') / 2).toNat := fun q => by have := hk.high _ _ q hg; omega
      repeat walk_at "s1"
      exact loopQ_next (hi'.toNat - (((lo + hi') / 2).toNat + 1)) (by omega) ⟨((lo + hi') / 2).toNat + 1, hi', υ, by omega, by omega, by omega, by omega, by omega, hsub.trans hsub2, rfl⟩ (St.le_app (.refl _))
  · have hb' : ¬ lo < hi' := by simpa using hb
    repeat walk_at "s1"
    have : lo = (k : Int) := by omega
    subst this
    exact hQ τ hsub
theorem insortK_call (B : Bs (G w base os mb)) {n : Nat} {a : Addr} {row : List Nat} {σ : AHeap} {pm : Value} {C : Addr} {hs : List Int} {i k : Nat} {Q : PV → AHeap → Prop}
    (K : KL pm σ C hs) (ha : σ a = some (.list (natL row))) (hz : row.length ≤ 1000) (hrow : ∀ j ∈ row, j < hs.length) (hi : i < hs.length) (hk : CutN hs row i k) (hQ : ∀ τ, σ.Sub τ → Q .none (τ.set a (.list (natL (row.take k ++ i :: row.drop k))))) :
    CallK (G w base os mb) ⟨n + 4, true⟩ (.ref 51) [.ref a, .int (i : Int)] [(Str.ofString "key", .ref C)]  Q σ := by
  refine call_bind (fd := fdAt 51) (body := bdAt 51) (ps := [.ref a, .int (i : Int), .int 0, .none, .ref C]) [Str.ofString "a", Str.ofString "x", Str.ofString "lo", Str.ofString "hi", Str.ofString "key"] B.gd (B.fn 51 (by simp)).get rfl rfl (B.fn 51 (by simp)).code rfl rfl rfl rfl rfl rfl (by decide) rfl ?_ (fun i => rfl) (fun i => rfl) ?_
  · intro A hid stk s vs ks E Q R hv hks hQ
    obtain ⟨v1, v2, rfl, h1, h2⟩ := hv.two
    obtain ⟨k1, rfl, hk1⟩ := hks.one
    show wpAny _ _ (seqItems? (Value.ref 43) >>= _) _ _ s
    refine wpAny_bind (wpAny_seqItems (R.stays _ _ (B.ob 43 (by simp))) rfl ?_)
    exact wpAny_pure (hQ [v1, v2, .int 0 232, .none, k1] s R (.refl _) (.cons h1 (.cons h2 (.cons (p := .int 0) ⟨_, rfl⟩ (.cons (p := .none) rfl (.cons hk1 .nil))))))
  intro c L hc hlv hsc hce hq hf
  obtain ⟨g, lv, A, env⟩ := c
  subst hc hlv
  show WS _ (bdAt 51) _ ([(Str.ofString "a", .ref a), (Str.ofString "x", .int (i : Int)), (Str.ofString "lo", .int 0), (Str.ofString "hi", .none), (Str.ofString "key", .ref C)], σ)
  refine S_seq ?_
  repeat walk_at "s1"
  refine E_CallGK (o := obAt 60) (fd := fdAt 60) B.gd (by walk_at "kd") rfl (B.fn 60 (by simp)).get rfl ?_ rfl rfl
  repeat walk_at "s1"
  refine E_CallCl ?_ rfl rfl rfl
  repeat walk_at "s1"
  refine ⟨C, rfl, ?_⟩
  repeat walk_at "s1"
  refine ⟨K.cls, WN_call (K.make B.gd fun x τ hsub hx => ?_)⟩
  repeat walk_at "s1"
  refine bisectK_call B (K.sub hsub) hx (seq_of (hsub _ _ ha)) hz hrow hi hk fun υ hsub2 => ?_
  have hυ := (hsub.trans hsub2) _ _ ha
  repeat walk_at "s1"
  refine insert_list (i := (k : Int)) hυ (by omega) (by rw [natL_len]; have := hk.le; omega) (by rw [natL_len]; omega) ?_
  rw [Int.toNat_natCast]
  have e : (natL row).take k ++ PV.int (i : Int) :: (natL row).drop k = natL (row.take k ++ i :: row.drop k) := by simp [natL]
  rw [e]
  exact hQ υ (hsub.trans hsub2)
end
section
open PySem PySem.W
set_option Elab.async false
set_option linter.unusedVariables false
set_option maxRecDepth 100000
variable {w : World} {base : Heap} {os : OsState} {mb : Str → Option Value}
theorem intL_len (l : List Int) : (intL l).length = l.length := List.length_map ..
theorem sub_cell {σ : AHeap} {a : Addr} {o : AObj} (h : σ a = none) : σ.Sub (σ.set a o) := AHeap.sub_set o h
theorem natL_get {l : List Nat} {k : Nat} {p : PV} (h : (natL l)[k]? = some p) : ∃ j, l[k]? = some j ∧ p = .int (j : Int) := by
  unfold natL at h
  rw [List.getElem?_map] at h
  cases q : l[k]? with
  | none => rw [q] at h; cases h
  | some j => rw [q] at h; exact ⟨j, rfl, (Option.some.inj h).symm⟩
theorem pairs_get {l : List (Int × Nat)} {k : Nat} {p : PV} (h : (l.map pairP)[k]? = some p) : ∃ q, l[k]? = some q ∧ p = pairP q := by
  rw [List.getElem?_map] at h
  cases q : l[k]? with
  | none => rw [q] at h; cases h
  | some j => rw [q] at h; exact ⟨j, rfl, (Option.some.inj h).symm⟩
abbrev at0 (l : List Int) : Nat → Int := fun j => l.getD j 0
theorem inT_false {len hour : Nat → Int} : ∀ {l : List Nat} {now : Int} {k j : Nat}, l[k]? = some j → hour j < now + total len (l.take k) + len j → ¬ inT len hour now l
  | [], _, k, j, h, _, _ => by simp at h
  | a :: l, now, 0, j, h, h2, h3 => by cases h; simp [total] at h2; have := h3.1; omega
  | a :: l, now, k + 1, j, h, h2, h3 => by
    refine inT_false (now := now + len a) (l := l) (k := k) (by simpa using h) ?_ h3.2
    rw [List.take_succ_cons, total_cons] at h2; omega
theorem take_snoc {α : Type} {l : List α} {k : Nat} {x : α} (h : l[k]? = some x) : l.take (k + 1) = l.take k ++ [x] := by
  rw [List.take_succ, h]; rfl
theorem in_time_call (B : Bs (G w base os mb)) {n : Nat} {wA lA hA : Addr} {ws : List Nat} {la hs : List Int} {σ : AHeap} {Q : PV → AHeap → Prop} (hw : seqAt σ wA = some (natL ws)) (hl : seqAt σ lA = some (intL la)) (hh : seqAt σ hA = some (intL hs))
    (hlen : la.length ≤ 10) (hlh : hs.length = la.length) (hws : ∀ j ∈ ws, j < la.length) (hz : ws.length < 64) (hpos : ∀ j, 0 ≤ at0 la j) (hQ : ∀ τ b, σ.Sub τ → (b = true ↔ Feas (at0 la) (at0 hs) ws) → Q (.bool b) τ) :
    CallS (G w base os mb) ⟨n + 1, true⟩ (.ref 77) [.ref wA, .ref lA, .ref hA]  Q σ := by
  refine call_def (fd := fdAt 77) (body := bdAt 77) [Str.ofString "works", Str.ofString "lasts", Str.ofString "hours"] B.gd (B.fn 77 (by simp)).get rfl rfl (B.fn 77 (by simp)).code rfl rfl rfl rfl rfl rfl (by decide) rfl (fun vs hv => ?_) (fun i => rfl) (fun i => ?_) ?_
  · obtain ⟨v1, v2, v3, rfl⟩ := len3 hv; rfl
  · show ((true && (some i == some i)) && true) = true
    simp
  intro c L hc hlv hsc hce hq hf
  obtain ⟨g, lv, A, env⟩ := c
  subst hc hlv
  show WS _ (bdAt 77) _ ([(Str.ofString "works", .ref wA), (Str.ofString "lasts", .ref lA)], σ.set (L + 1) (.cell (some (.ref hA))))
  have hs0 : σ.Sub (σ.set (L + 1) (.cell (some (.ref hA)))) := sub_cell (hf _ (Nat.le_succ _))
  have cH : (σ.set (L + 1) (.cell (some (.ref hA)))) (L + 1) = some (.cell (some (.ref hA))) := at_set_same
  generalize σ.set (L + 1) (.cell (some (.ref hA))) = σ1 at hs0 cH ⊢
  refine S_seq ?_
  repeat walk_at "s1"
  let pr : Nat → Int × Nat := fun j => (at0 hs j, j)
  refine S_forL rfl ?_ (fun x => rfl)
  repeat walk_at "s1"
  refine E_ListComp (cl := [(Str.ofString "hours", L + 1)]) rfl (closure_of hce rfl) (by decide) rfl (by decide) (fun x => rfl) ?_
  repeat walk_at "s1"
  have hw1 := seq_sub' hs0 hw
  refine ⟨_, _, it_list hw1, comp_pure (fun k => ws[k]?.map fun j => pairP (pr j)) (by rw [natL_len]; omega) (fun τ h => seq_sub' h hw1) ?_ ?_⟩
  · intro c' hcx hlx hsc' hce' k p τ hp hsub
    obtain ⟨g', lv', A', env'⟩ := c'
    obtain rfl : g' = G w base os mb := hcx
    obtain rfl : lv' = ⟨n, true⟩ := hlx
    obtain ⟨j, hj, rfl⟩ := natL_get hp
    have hjl := hws j (List.mem_of_getElem? hj)
    have cH' := hsub _ _ cH
    refine Asg_local (by walk_at "kd") ?_
    repeat walk_at "s1"
    refine ⟨fun _ => ?_, fun h => (by cases h)⟩
    repeat walk_at "s1"
    refine get_list (seq_sub' (hs0.trans hsub) hh) (by omega) (by rw [Int.toNat_natCast]; exact intL_at (getD_some (by omega))) (by rw [intL_len]; omega) ?_
    repeat walk_at "s1"
    refine ⟨by simp, ?_⟩
    exact ⟨by rw [hj]; rfl, .refl _⟩
  intro pA τ1 hs1 hpA hpl
  rw [natL_len, compL_map, show (ws.map fun j => pairP (pr j)) = (ws.map pr).map pairP by rw [List.map_map]; rfl] at hpl
  repeat walk_at "s1"
  refine call_sortedP (seq_of hpl) (by simpa using hz) (fun q hq => ?_) fun b ps hb hps hpw => ?_
  · obtain ⟨j, hj, rfl⟩ := List.mem_map.mp hq
    have := hws j hj
    show j < 1000
    omega
  have hs2 := hs1.fresh (o := .list (ps.map pairP)) hb
  have hb2 : (τ1.set b (.list (ps.map pairP))) b = some (.list (ps.map pairP)) := at_set_same
  generalize τ1.set b (.list (ps.map pairP)) = τ2 at hs2 hb2 ⊢
  have hps1 : ∀ q ∈ ps, q.2 < la.length ∧ q.1 = at0 hs q.2 := fun q hq => by
    obtain ⟨j, hj, rfl⟩ := List.mem_map.mp (hps.mem_iff.mp hq)
    exact ⟨hws j hj, rfl⟩
  have hperm : (ps.map (·.2)).Perm ws := by
    have := hps.map (·.2)
    rw [List.map_map, show ((fun x : Int × Nat => x.2) ∘ pr) = id from rfl, List.map_id] at this
    exact this
  have hbyh : Byh (at0 hs) (ps.map (·.2)) := by
    unfold Byh
    rw [List.pairwise_map]
    refine hpw.imp_of_mem fun {q r} hq hr h => ?_
    obtain ⟨a1, a2⟩ := hps1 q hq
    obtain ⟨b1, b2⟩ := hps1 r hr
    unfold pkey at h
    rw [← a2, ← b2]
    omega
  refine ⟨_, _, fun k st => ∃ τ, st = ([(Str.ofString "works", .ref wA), (Str.ofString "lasts", .ref lA), (Str.ofString "now", .int (total (at0 la) ((ps.map (·.2)).take k)))], τ) ∧ τ2.Sub τ ∧ inT (at0 la) (at0 hs) 0 ((ps.map (·.2)).take k), _, it_list (seq_of hb2), ⟨_, rfl, .refl _, trivial⟩, St.le_refl _, ?_, ?_, ?_⟩
  · rintro k _ ⟨τ, rfl, h1, _⟩; exact seq_of (h1 _ _ hb2)
  · rintro k p _ hp ⟨τ, rfl, h1, h2⟩
    obtain ⟨q, hq, rfl⟩ := pairs_get hp
    obtain ⟨q1, q2⟩ := hps1 q (List.mem_of_getElem? hq)
    have hq' : (ps.map (·.2))[k]? = some q.2 := by rw [List.getElem?_map, hq]; rfl
    refine Asg_Tuple rfl ?_ rfl rfl rfl
    repeat walk_at "s1"
    refine get_list (seq_sub' ((hs0.trans hs2).trans h1) hl) (by omega) (by rw [Int.toNat_natCast]; exact intL_at (getD_some q1)) (by rw [intL_len]; omega) ?_
    repeat walk_at "s1"
    have et := take_snoc hq'
    have etot : total (at0 la) ((ps.map (·.2)).take (k + 1)) = total (at0 la) ((ps.map (·.2)).take k) + at0 la q.2 := by rw [et, total_snoc]
    refine ifQ_dec (fun hb => ?_) (fun hb => ?_)
    · have hb' := of_decide_eq_true hb
      repeat walk_at "s1"
      refine hQ τ false ((hs0.trans hs2).trans h1) ⟨fun h => (by cases h), fun h => ?_⟩
      have := h _ hperm hbyh
      exact absurd this (inT_false hq' (by rw [← q2]; simp only [at0] at hb' ⊢; omega))
    · have hb' := of_decide_eq_false hb
      repeat walk_at "s1"
      refine forQ_next ⟨τ, rfl, h1, ?_⟩ ?_
      · rw [et]; exact inT_snoc.mpr ⟨h2, by rw [← q2]; simp only [at0] at hb' ⊢; omega⟩
      · rw [etot]; exact St.le_app (.refl _)
  · rintro _ ⟨τ, rfl, h1, h2⟩
    repeat walk_at "s1"
    refine hQ τ true ((hs0.trans hs2).trans h1) ⟨fun _ => ?_, fun _ => rfl⟩
    rw [List.length_map, ← List.length_map (f := (·.2)), List.take_length] at h2
    exact Feas.of hpos hperm hbyh h2
end
section
open PySem PySem.W
set_option Elab.async false
set_option linter.unusedVariables false
set_option maxRecDepth 100000
variable {w : World} {base : Heap} {os : OsState} {mb : Str → Option Value}
def optP : Option Int → PV
  | none => .none
  | some v => .int v
theorem compL_if {p : Nat → Bool} {g : Nat → PV} (n : Nat) : compL (fun k => if p k then some (g k) else none) n = ((List.range n).filter p).map g := by
  unfold compL
  induction (List.range n) with
  | nil => rfl
  | cons a l ih =>
    cases h : p a with
    | true => rw [List.filterMap_cons_some (b := g a) (by simp [h]), List.filter_cons_of_pos h, ih]; rfl
    | false => rw [List.filterMap_cons_none (by simp [h]), List.filter_cons_of_neg (by simp [h]), ih]
theorem compL_opt (l : List (Option Int)) : compL (fun k => match l[k]? with | some (some v) => some (.int v) | _ => none) l.length = intL (l.filterMap id) := by
  have : ∀ n, n ≤ l.length → compL (fun k => match l[k]? with | some (some v) => some (PV.int v) | _ => none) n = intL ((l.take n).filterMap id) := by
    intro n
    induction n with
    | zero => intro _; rfl
    | succ n ih =>
      intro h
      have hg : l[n]? = some l[n] := List.getElem?_eq_getElem (by omega)
      rw [take_snoc hg, List.filterMap_append]
      cases q : l[n] with
      | none => rw [compL_none (by rw [hg, q]), ih (by omega)]; simp
      | some v => rw [compL_some (q := .int v) (by rw [hg, q]), ih (by omega)]; simp [intL]
  rw [this _ (Nat.le_refl _), List.take_length]
theorem pow_le10 {N : Nat} (h : N ≤ 10) : 2 ^ N ≤ 1024 := by
  have := Nat.pow_le_pow_right (n := 2) (by decide) h
  simpa using this
theorem pow_cast (j : Nat) : (2 : Int) ^ (j : Int).toNat = ((2 ^ j : Nat) : Int) := by rw [Int.toNat_natCast]; simp
theorem bit_of (num j : Nat) : (((num : Int).fdiv ((2 ^ j : Nat) : Int)).fmod 2 == 1) = (num / 2 ^ j % 2 == 1) := by
  rw [Int.fdiv_eq_ediv_of_nonneg _ (Int.natCast_nonneg _), Int.fmod_eq_emod_of_nonneg _ (by decide), Bool.eq_iff_iff, beq_iff_eq, beq_iff_eq]
  have : (num : Int) / ((2 ^ j : Nat) : Int) = ((num / 2 ^ j : Nat) : Int) := by simp
  rw [this]; omega
set_option maxHeartbeats 1000000 in
theorem least_call (B : Bs (G w base os mb)) {n : Nat} {lA hA : Addr} {la hs : List Int} {row S : List Nat} {σ : AHeap} {Q : PV → AHeap → Prop} (hl : seqAt σ lA = some (intL la)) (hh : seqAt σ hA = some (intL hs))
    (hlen : la.length ≤ 10) (hlh : hs.length = la.length) (An : Answer (at0 la) (at0 hs) la.length row S) (hQ : ∀ τ r, σ.Sub τ → τ r = some (.list (intL ((List.range (S.length + 1)).map fun m => Sh m (S.map (at0 la))))) → Q (.ref r) τ) :
    CallS (G w base os mb) ⟨n + 2, true⟩ (.ref 82) [.ref lA, .ref hA]  Q σ := by
  refine call_def (fd := fdAt 82) (body := bdAt 82) [Str.ofString "lasts", Str.ofString "hours"] B.gd (B.fn 82 (by simp)).get rfl rfl (B.fn 82 (by simp)).code rfl rfl rfl rfl rfl rfl (by decide) rfl (fun vs hv => ?_) (fun i => rfl) (fun i => ?_) ?_
  · obtain ⟨v1, v2, rfl⟩ := len2 hv; rfl
  · show ((true && (some (i + 1) == some (i + 1))) && ((true && (some i == some i)) && true)) = true
    simp
  intro c L hc hlv hsc hce hq hf
  obtain ⟨g, lv, A, env⟩ := c
  subst hc hlv
  show WS _ (bdAt 82) _ ([(Str.ofString "hours", .ref hA)], (σ.set (L + 1) (.cell (some (.ref lA)))).set (L + 1 + 1) (.cell none))
  have hne : L + 1 ≠ L + 1 + 1 := Nat.ne_of_lt (Nat.lt_succ_self _)
  have h1 : σ (L + 1) = none := hf _ (Nat.le_succ _)
  have h2' : σ (L + 1 + 1) = none := hf _ (Nat.le_trans (Nat.le_succ _) (Nat.le_succ _))
  have h2 : (σ.set (L + 1) (.cell (some (.ref lA)))) (L + 1 + 1) = none := by rw [AHeap.set_ne _ _ (Ne.symm hne)]; exact h2'
  have hs0 : σ.Sub ((σ.set (L + 1) (.cell (some (.ref lA)))).set (L + 1 + 1) (.cell none)) := (AHeap.sub_set _ h1).fresh h2
  have cL : ((σ.set (L + 1) (.cell (some (.ref lA)))).set (L + 1 + 1) (.cell none)) (L + 1) = some (.cell (some (.ref lA))) := at_set_ne hne at_set_same
  have cN : ((σ.set (L + 1) (.cell (some (.ref lA)))).set (L + 1 + 1) (.cell none)) (L + 1 + 1) = some (.cell none) := at_set_same
  generalize (σ.set (L + 1) (.cell (some (.ref lA)))).set (L + 1 + 1) (.cell none) = σ1 at hs0 cL cN ⊢
  refine S_seq ?_
  repeat walk_at "s1"
  refine len_seq (seq_sub' hs0 hl) (by rw [intL_len]; omega) ?_
  rw [intL_len]
  repeat walk_at "s1"
  refine ⟨by simp, fun a1 ha1 => ?_⟩
  repeat walk_at "s1"
  refine ⟨by simp, fun a2 ha2 => ?_⟩
  repeat walk_at "s1"
  refine bin_mulL (p := .none) (seq_of at_set_same) (by omega) (by omega) fun a3 ha3 => ?_
  refine bin_addL (l := [.int 0]) (m := List.replicate la.length .none) (seq_of (at_set_fresh ha3 (at_set_fresh ha2 at_set_same))) (seq_of (by rw [at_set_same, Int.toNat_natCast])) (by simp; omega) fun eA heA => ?_
  have e0 : [PV.int 0] ++ List.replicate la.length .none = (some 0 :: List.replicate la.length none).map optP := by simp [optP]
  have hs2 := (((AHeap.sub_set (.list [.int 0]) (show σ1 a1 = none from ha1)).fresh (o := .list [.none]) ha2).fresh (o := .list (List.replicate (la.length : Int).toNat .none)) ha3)
  generalize ((σ1.set a1 (.list [.int 0])).set a2 (.list [.none])).set a3 (.list (List.replicate (la.length : Int).toNat .none)) = σ2 at hs2 heA ⊢
  have heA' : σ2 eA = none := heA
  have cL2 := hs2 _ _ cL
  have cN2 := hs2 _ _ cN
  have n1 : L + 1 ≠ eA := ne_of_fresh heA' cL2
  have n2 : L + 1 + 1 ≠ eA := ne_of_fresh heA' cN2
  have heσ : σ eA = none := fresh_sub' (hs0.trans hs2) heA'
  rw [e0]
  repeat walk_at "s1"
  have hp10 := pow_le10 hlen
  obtain ⟨M, hM⟩ : ∃ M, M = 2 ^ la.length := ⟨_, rfl⟩
  rw [← hM] at hp10
  have hpos := An.pos
  refine S_for rfl (fun k st => ∃ τ o lst, st = ([(Str.ofString "hours", .ref hA), (Str.ofString "size", .int la.length), (Str.ofString "least", .ref eA)], τ) ∧ σ.Sub τ ∧ τ (L + 1) = some (.cell (some (.ref lA))) ∧ τ (L + 1 + 1) = some (.cell o) ∧ τ eA = some (.list (lst.map optP)) ∧ Least (at0 la) (at0 hs) la.length (k + 1) lst) ?_ (fun x => rfl)
  repeat walk_at "s1"
  refine bin_pow (by omega) (by omega) (by decide) ?_
  rw [pow_cast, ← hM]
  repeat walk_at "s1"
  refine call_range2 fun r hr => ?_
  refine ⟨_, _, _, it_range at_set_same (by omega) (by omega) (by omega) (by omega), ⟨_, _, _, rfl, ((hs0.trans hs2).fresh (o := .list ((some 0 :: List.replicate la.length none).map optP)) heA').fresh hr, at_set_fresh hr (at_set_ne n1 cL2), at_set_fresh hr (at_set_ne n2 cN2), at_set_fresh hr at_set_same, Least.one _⟩, St.le_refl _, fun _ _ _ => trivial, ?_, ?_⟩
  · rintro k p _ hp ⟨τ, o, lst, rfl, t0, t1, t2, t3, t4⟩
    obtain ⟨hk, rfl⟩ := rangeL_get hp
    have hk2 : k + 1 < M := by omega
    rw [show (1 : Int) + (k : Int) * 1 = ((k + 1 : Nat) : Int) by omega]
    generalize hnum : k + 1 = num at hk2 t4 ⊢
    refine Asg_cell (by walk_at "kd") (by walk_at "ce") t2 ?_
    have t0 := t0.off (o := .cell (some (.int (num : Int)))) h2'
    have t1 := at_set_ne (o' := .cell (some (.int (num : Int)))) hne t1
    have t3 := at_set_ne (o' := .cell (some (.int (num : Int)))) (Ne.symm n2) t3
    have t2 : (τ.set (L + 1 + 1) (.cell (some (.int (num : Int))))) (L + 1 + 1) = some (.cell (some (.int (num : Int)))) := at_set_same
    generalize τ.set (L + 1 + 1) (.cell (some (.int (num : Int)))) = τ at t0 t1 t2 t3 ⊢
    refine S_seq ?_
    refine S_AssignComp (cl := [(Str.ofString "number", L + 1 + 1)]) rfl (swaps_of hsc rfl) (by walk_at "kd") (closure_of hce rfl) (by decide) rfl (by decide) (fun x => rfl) ?_
    repeat walk_at "s1"
    refine call_range1 fun r2 hr2 => ?_
    have t0 := t0.fresh (o := .range 0 la.length 1) hr2
    have t1 := at_set_fresh (o' := .range 0 la.length 1) hr2 t1
    have t2 := at_set_fresh (o' := .range 0 la.length 1) hr2 t2
    have t3 := at_set_fresh (o' := .range 0 la.length 1) hr2 t3
    have t5 : (τ.set r2 (.range 0 la.length 1)) r2 = some (.range 0 la.length 1) := at_set_same
    generalize τ.set r2 (.range 0 la.length 1) = τ at t0 t1 t2 t3 t5 ⊢
    refine ⟨_, _, it_range t5 (by omega) (by omega) (by omega) (by omega), comp_pure (fun k => if (num / 2 ^ k % 2 == 1) then some (.int (k : Int)) else none) (by rw [rangeL_length]; omega) (fun τ h => trivial) ?_ ?_⟩
    · intro c' hcx hlx hsc' hce' k p τ' hp hsub
      obtain ⟨g', lv', A', env'⟩ := c'
      obtain rfl : g' = G w base os mb := hcx
      obtain rfl : lv' = ⟨n + 1, true⟩ := hlx
      obtain ⟨hk', rfl⟩ := rangeL_get hp
      have hk10 : k < 10 := by omega
      rw [show (0 : Int) + (k : Int) * 1 = (k : Int) by omega]
      have t2' := hsub _ _ t2
      have hpk := pow_le10 (Nat.le_of_lt hk10)
      have hpk0 := Nat.pow_pos (n := k) (show 0 < 2 by decide)
      refine Asg_local (by walk_at "kd") ?_
      repeat walk_at "s1"
      refine bin_pow (by omega) (by omega) (by decide) ?_
      rw [pow_cast]
      refine bin_floordiv (by omega) (by omega) ?_
      repeat walk_at "s1"
      refine bin_mod (by decide) ?_
      repeat walk_at "s1"
      rw [bit_of]
      refine ⟨fun hb => ?_, fun hb => ?_⟩
      · repeat walk_at "s1"
        exact ⟨by simp only [hb, if_true], .refl _⟩
      · exact ⟨by simp only [hb]; rfl, .refl _⟩
    intro wA τ1 u1 hwA u2
    have u0 := t0.trans u1
    have t1 := u1 _ _ t1
    have t2 := u1 _ _ t2
    have t3 := u1 _ _ t3
    have u2 : τ1 wA = some (.list (natL (works la.length num))) := by
      rw [u2, rangeL_length, compL_if]
      show some (AObj.list (((List.range ((la.length : Int) - 0).toNat).filter _).map _)) = _
      rw [show ((la.length : Int) - 0).toNat = la.length by omega]; rfl
    have hwl := works_len la.length num
    repeat walk_at "s1"
    refine WN_call ?_
    refine in_time_call B (seq_of u2) (seq_sub' u0 hl) (seq_sub' u0 hh) hlen hlh (fun j hj => works_lt hj) (by omega) hpos fun τ2 b v1 hb => ?_
    have u0 := u0.trans v1
    have t1 := v1 _ _ t1
    have t2 := v1 _ _ t2
    have t3 := v1 _ _ t3
    have u2 := v1 _ _ u2
    repeat walk_at "s1"
    cases b with
    | false =>
      refine ifQ_false ?_
      repeat walk_at "s1"
      exact forQ_next ⟨_, _, _, rfl, u0, t1, t2, t3, t4.skip fun h => (by cases hb.mpr h)⟩ (St.le_app (.refl _))
    | true =>
      have hfe := hb.mp rfl
      refine ifQ_true ?_
      repeat walk_at "s1"
      refine E_ListComp (cl := [(Str.ofString "lasts", L + 1)]) rfl (closure_of hce rfl) (by decide) rfl (by decide) (fun x => rfl) ?_
      repeat walk_at "s1"
      refine ⟨_, _, it_list (seq_of u2), comp_pure (fun k => (works la.length num)[k]?.map fun j => .int (at0 la j)) (by rw [natL_len]; omega) (fun τ h => seq_of (h _ _ u2)) ?_ ?_⟩
      · intro c' hcx hlx hsc' hce' k p τ' hp hsub
        obtain ⟨g', lv', A', env'⟩ := c'
        obtain rfl : g' = G w base os mb := hcx
        obtain rfl : lv' = ⟨n + 1, true⟩ := hlx
        obtain ⟨j, hj, rfl⟩ := natL_get hp
        have hjl := works_lt (List.mem_of_getElem? hj)
        have t1' := hsub _ _ t1
        refine Asg_local (by walk_at "kd") ?_
        repeat walk_at "s1"
        refine ⟨fun _ => ?_, fun h => (by cases h)⟩
        repeat walk_at "s1"
        refine get_list (seq_sub' (u0.trans hsub) hl) (by omega) (by rw [Int.toNat_natCast]; exact intL_at (getD_some hjl)) (by rw [intL_len]; omega) ?_
        exact ⟨by rw [hj]; rfl, .refl _⟩
      intro sA τ3 v2 hsA v3
      rw [natL_len, compL_map, show ((works la.length num).map fun j => PV.int (at0 la j)) = intL ((works la.length num).map (at0 la)) by unfold intL; rw [List.map_map]; rfl] at v3
      have u0 := u0.trans v2
      have t1 := v2 _ _ t1
      have t2 := v2 _ _ t2
      have t3 := v2 _ _ t3
      have u2 := v2 _ _ u2
      repeat walk_at "s1"
      refine call_sum rfl (seq_of v3) ?_
      rw [show ((works la.length num).map (at0 la)).sum = total (at0 la) (works la.length num) from rfl]
      repeat walk_at "s1"
      have hlt : (works la.length num).length < lst.length := by rw [t4.size]; omega
      have hgt : lst[(works la.length num).length]? = some lst[(works la.length num).length] := List.getElem?_eq_getElem hlt
      have hgp : (lst.map optP)[(((works la.length num).length : Nat) : Int).toNat]? = some (optP lst[(works la.length num).length]) := by rw [Int.toNat_natCast, List.getElem?_map, hgt]; rfl
      have hzl : (lst.map optP).length ≤ 1000 := by rw [List.length_map, t4.size]; omega
      generalize lst[(works la.length num).length] = old at hgt hgp
      refine len_seq (seq_of u2) (by rw [natL_len]; omega) ?_
      rw [natL_len]
      repeat walk_at "s1"
      refine get_list (seq_of t3) (by omega) hgp (by omega) ?_
      repeat walk_at "s1"
      have hput : ∀ {Q : AFlow → St → Prop} {μ : Locals}, (∀ v, lst[(works la.length num).length]? = some (some v) → total (at0 la) (works la.length num) ≤ v) → True := fun _ => trivial
      cases old with
      | none =>
        show W2 _ VRep .none .none _ _ _
        repeat walk_at "s1"
        refine len_seq (seq_of u2) (by rw [natL_len]; omega) ?_
        rw [natL_len]
        refine set_list t3 (by omega) (by rw [List.length_map]; omega) (by omega) ?_
        rw [Int.toNat_natCast]
        repeat walk_at "s1"
        refine forQ_next ⟨_, _, lst.set (works la.length num).length (some (total (at0 la) (works la.length num))), rfl, u0.off heσ, at_set_ne n1 t1, at_set_ne n2 t2, by rw [at_set_same, List.map_set]; rfl, t4.put hfe fun v hv => (by rw [hgt] at hv; cases hv)⟩ (St.le_app (.refl _))
      | some v =>
        show W2 _ VRep (.int v) .none _ _ _
        repeat walk_at "s1"
        refine len_seq (seq_of u2) (by rw [natL_len]; omega) ?_
        rw [natL_len]
        repeat walk_at "s1"
        refine get_list (seq_of t3) (by omega) hgp (by omega) ?_
        repeat walk_at "s1"
        show W2 _ VRep (.int _) (.int v) _ _ _
        repeat walk_at "s1"
        refine ifQ_dec (fun hb => ?_) (fun hb => ?_)
        · have hb' := of_decide_eq_true hb
          repeat walk_at "s1"
          refine len_seq (seq_of u2) (by rw [natL_len]; omega) ?_
          rw [natL_len]
          refine set_list t3 (by omega) (by rw [List.length_map]; omega) (by omega) ?_
          rw [Int.toNat_natCast]
          repeat walk_at "s1"
          refine forQ_next ⟨_, _, lst.set (works la.length num).length (some (total (at0 la) (works la.length num))), rfl, u0.off heσ, at_set_ne n1 t1, at_set_ne n2 t2, by rw [at_set_same, List.map_set]; rfl, t4.put hfe fun v' hv => (by rw [hgt] at hv; cases hv; omega)⟩ (St.le_app (.refl _))
        · have hb' := of_decide_eq_false hb
          repeat walk_at "s1"
          exact forQ_next ⟨_, _, _, rfl, u0, t1, t2, t3, t4.keep hgt (by omega)⟩ (St.le_app (.refl _))
  · rintro _ ⟨τ, o, lst, rfl, t0, t1, t2, t3, t4⟩
    rw [rangeL_length, show ((M : Int) - 1).toNat + 1 = M by have := Nat.pow_pos (n := la.length) (show 0 < 2 by decide); omega, hM] at t4
    repeat walk_at "s1"
    refine E_ListComp (cl := []) rfl (closure_of hce rfl) (by decide) rfl (by decide) (fun x => rfl) ?_
    repeat walk_at "s1"
    refine ⟨_, _, it_list (seq_of t3), comp_pure (fun k => match lst[k]? with | some (some v) => some (.int v) | _ => none) (by rw [List.length_map, t4.size]; omega) (fun τ h => seq_of (h _ _ t3)) ?_ ?_⟩
    · intro c' hcx hlx hsc' hce' k p τ' hp hsub
      obtain ⟨g', lv', A', env'⟩ := c'
      obtain rfl : g' = G w base os mb := hcx
      obtain rfl : lv' = ⟨n + 1, true⟩ := hlx
      rw [List.getElem?_map] at hp
      cases q : lst[k]? with
      | none => rw [q] at hp; cases hp
      | some x =>
        rw [q] at hp
        obtain rfl := (Option.some.inj hp)
        refine Asg_local (by walk_at "kd") ?_
        cases x with
        | none =>
          repeat walk_at "s1"
          refine isNot_none_n ?_
          repeat walk_at "s1"
          refine ⟨fun hb => (by cases hb), fun _ => ⟨rfl, .refl _⟩⟩
        | some v =>
          repeat walk_at "s1"
          refine isNot_none_i ?_
          repeat walk_at "s1"
          refine ⟨fun _ => ?_, fun h => (by cases h)⟩
          repeat walk_at "s1"
          exact ⟨rfl, .refl _⟩
    · intro rA τ1 u1 hrA u2
      rw [List.length_map, compL_opt, An.least t4] at u2
      repeat walk_at "s1"
      exact hQ τ1 rA (t0.trans u1) u2
end
section
open PySem PySem.W
set_option Elab.async false
set_option linter.unusedVariables false
set_option maxRecDepth 100000
variable {w : World} {base : Heap} {os : OsState} {mb : Str → Option Value}
theorem bd67 : bdAt 67 = [kDef, .Return (some (.Name "K" ⟨87, 11, 87, 12⟩)) ⟨87, 4, 87, 12⟩] := by kernel_rfl
theorem ctk_call (B : Bs (G w base os mb)) {n : Nat} {f : Addr} {σ : AHeap} {Q : PV → AHeap → Prop} (hP : σ 62 = some (.raw (tabObj #[])))
    (hQ : ∀ C mc D p fi f1 ci c1 τ, (∀ a o, a ≠ 62 → σ a = some o → τ a = some o) → KIn (((G w base os mb).mg "__name__").getD .none) τ mc C D p fi f1 ci c1 → τ mc = some (.cell (some (.ref f))) → (∃ tb, τ 62 = some (.raw (tabObj tb))) → Q (.ref C) τ) :
    CallS (G w base os mb) ⟨n + 1, true⟩ (.ref 67) [.ref f]  Q σ := by
  refine call_def (fd := fdAt 67) (body := bdAt 67) [Str.ofString "mycmp"] B.gd (B.fn 67 (by simp)).get rfl rfl (B.fn 67 (by simp)).code rfl rfl rfl rfl rfl rfl (by decide) rfl (fun vs hv => ?_) (fun i => ?_) (fun i => ?_) ?_
  · obtain ⟨v1, rfl⟩ := len1 hv; rfl
  · rfl
  · show ((true && (some i == some i)) && true) = true
    simp
  intro c L hc hlv hsc hce hq hf
  obtain ⟨g, lv, A, env⟩ := c
  subst hc hlv
  show WS _ (bdAt 67) _ ([], σ.set (L + 1) (.cell (some (.ref f))))
  have h1 : σ (L + 1) = none := hf _ (Nat.le_succ _)
  have hne : (62 : Addr) ≠ L + 1 := ne_of_fresh h1 hP
  have hs0 : σ.Sub (σ.set (L + 1) (.cell (some (.ref f)))) := sub_cell h1
  have cM : (σ.set (L + 1) (.cell (some (.ref f)))) (L + 1) = some (.cell (some (.ref f))) := at_set_same
  have hP := hs0 _ _ hP
  generalize σ.set (L + 1) (.cell (some (.ref f))) = σ1 at hs0 cM hP ⊢
  rw [bd67]
  refine S_seq ?_
  refine S_ClassK B.gd B.kb hq.2 (mc := L + 1) (hce.trans rfl) (hsc.trans rfl) (hq.1.trans (by kernel_rfl)) hP (by simp [TriplesOk]) rfl fun C D p fi f1 ci c1 τ s1 s2 K hC => ?_
  refine seqQ_next ?_
  refine S_last ?_
  refine S_Return ?_
  refine E_local (p := .ref C) (by rw [hsc]; rfl) rfl ?_ rfl
  exact hQ C (L + 1) D p fi f1 ci c1 τ (fun a o ha e => s1 a o ha (hs0 _ _ e)) K (s1 _ _ (Ne.symm hne) cM) s2
end
section
open PySem PySem.W
set_option Elab.async false
set_option linter.unusedVariables false
set_option maxRecDepth 100000
variable {w : World} {base : Heap} {os : OsState} {mb : Str → Option Value}
end
section
open PySem PySem.W
set_option Elab.async false
set_option linter.unusedVariables false
set_option maxRecDepth 100000
variable {w : World} {base : Heap} {os : OsState} {mb : Str → Option Value}
structure Tabs (τ : AHeap) : Prop where
  a : ∃ tb, τ 62 = some (.raw (tabObj tb))
  b : ∃ tb, τ 69 = some (.raw (tabObj tb))
theorem Tabs.sub {σ τ : AHeap} (T : Tabs σ) (h : σ.Sub τ) : Tabs τ := ⟨T.a.imp fun _ e => h _ _ e, T.b.imp fun _ e => h _ _ e⟩
theorem Tabs.off {σ : AHeap} {a : Addr} {o : AObj} (T : Tabs σ) (h1 : 62 ≠ a) (h2 : 69 ≠ a) : Tabs (σ.set a o) := ⟨T.a.imp fun _ e => at_set_ne h1 e, T.b.imp fun _ e => at_set_ne h2 e⟩
def Out (σ τ : AHeap) : Prop := ∀ a o, a ≠ 62 → a ≠ 69 → σ a = some o → τ a = some o
theorem Out.sub {σ τ υ : AHeap} (h : Out σ τ) (h2 : τ.Sub υ) : Out σ υ := fun a o h1 h3 e => h2 _ _ (h a o h1 h3 e)
theorem Out.off {σ τ : AHeap} {a : Addr} {o : AObj} (h : Out σ τ) (ha : σ a = none) : Out σ (τ.set a o) := fun b o' h1 h2 e => by
  rw [AHeap.set_ne _ _ (fun q => by rw [q, ha] at e; cases e)]; exact h b o' h1 h2 e
theorem Out.fresh {σ τ : AHeap} {a : Addr} {o : AObj} (h : Out σ τ) (ha : τ a = none) : Out σ (τ.set a o) := h.sub (AHeap.sub_set o ha)
theorem Out.offW {σ τ : AHeap} {a : Addr} {o : AObj} (h : Out σ τ) (ha : a ≠ 62 → a ≠ 69 → σ a = none) : Out σ (τ.set a o) := fun b o' h1 h2 e => by
  rw [AHeap.set_ne _ _ (fun q => by subst q; rw [ha h1 h2] at e; cases e)]; exact h b o' h1 h2 e
theorem Out.none {σ τ : AHeap} {a : Addr} (h : Out σ τ) (ha : τ a = none) : a ≠ 62 → a ≠ 69 → σ a = none := fun q1 q2 => by
  cases q : σ a with
  | none => rfl
  | some o => rw [h _ _ q1 q2 q] at ha; cases ha
theorem Out.seq {σ τ : AHeap} {a : Addr} {l : List PV} (h : Out σ τ) (hs : seqAt σ a = some l) (h1 : a ≠ 62) (h2 : a ≠ 69) : seqAt τ a = some l := by
  unfold seqAt at hs ⊢
  cases q : σ a with
  | none => rw [q] at hs; cases hs
  | some o => rw [h a o h1 h2 q]; rw [q] at hs; exact hs
theorem seq_raw {σ : AHeap} {a b : Addr} {l : List PV} {ob : Obj} (hs : seqAt σ a = some l) (hb : σ b = some (.raw ob)) : a ≠ b := fun e => by
  subst e; unfold seqAt at hs; rw [hb] at hs; cases hs
theorem lam_eq {pm : Value} {hc cl : Addr} {ctv : Value} {q : Str} (h : q = lamQ) : kla_obj "<lambda>" q lamA lamB lamS [("hours", hc)] pm cl ctv = lamO pm hc cl ctv := by subst h; rfl
theorem bd72 : bdAt 72 = .Assign [.Name "key" ⟨90, 4, 90, 7⟩] (.Call (.Name "cmp_to_key" ⟨90, 10, 90, 20⟩) [.Lambda lamA lamB lamS lamP] [] ⟨90, 10, 90, 54⟩) ⟨90, 4, 90, 54⟩ :: (bdAt 72).drop 1 := by kernel_rfl
def tl72 : List Stmt := match (bdAt 72).getD 5 (.Pass default) with
  | .For _ _ body _ _ => body.drop 2
  | _ => []
/-- the check of the heap -/
theorem check_ok (B : Bs (G w base os mb)) {n : Nat} {A : Around} {env : Env} {L pA : Addr} {hl : List Nat} {len : Nat → Int} {μ : Locals} {τ : AHeap} {Q : AFlow → St → Prop} (hsc : env.scope = (fdAt 72).scope) (hce : env.cells = cellsFrom (L + 1) (fdAt 72).scope.names [])
    (c2 : τ (L + 1 + 1) = some (.cell (some (.ref pA)))) (c4 : τ pA = some (.list (hl.map (itm len)))) (hH : IsHeap (ltN len) 0 hl) (hz : hl.length ≤ 1000) (h : ∀ υ, τ.Sub υ → Q .next (μ, υ)) : WS ⟨G w base os mb, ⟨n, true⟩, A, env⟩ tl72  Q (μ, τ) := by
  refine S_last ?_
  repeat walk_at "s1"
  refine E_ListComp (cl := [(Str.ofString "heap", L + 1 + 1)]) rfl (closure_of hce rfl) (by decide) rfl (by decide) (fun x => rfl) ?_
  repeat walk_at "s1"
  refine len_seq (seq_of c4) (by rw [List.length_map]; omega) ?_
  rw [List.length_map]
  repeat walk_at "s1"
  refine call_range2 fun r hr => ?_
  have s1 : τ.Sub (τ.set r (.range 1 hl.length 1)) := AHeap.sub_set _ hr
  have hrr : (τ.set r (.range 1 hl.length 1)) r = some (.range 1 hl.length 1) := at_set_same
  generalize τ.set r (.range 1 hl.length 1) = τ1 at s1 hrr ⊢
  refine ⟨_, _, it_range hrr (by omega) (by omega) (by omega) (by omega), comp_pure (fun _ => none) (by rw [rangeL_length]; omega) (fun τ h => trivial) ?_ ?_⟩
  · intro c' hcx hlx hsc' hce' k p τ' hp hsub
    obtain ⟨g', lv', A', env'⟩ := c'
    obtain rfl : g' = G w base os mb := hcx
    obtain rfl : lv' = ⟨n, true⟩ := hlx
    obtain ⟨hk, rfl⟩ := rangeL_get hp
    have hk1 : k + 1 < hl.length := by omega
    have c2' := hsub _ _ (s1 _ _ c2)
    have c4' := hsub _ _ (s1 _ _ c4)
    have g1 : hl[k + 1]? = some (hl.getD (k + 1) 0) := by rw [List.getD_eq_getElem?_getD, List.getElem?_eq_getElem hk1]; rfl
    have g2 : hl[k / 2]? = some (hl.getD (k / 2) 0) := by rw [List.getD_eq_getElem?_getD, List.getElem?_eq_getElem (by omega)]; rfl
    refine Asg_local (by walk_at "kd") ?_
    rw [show (1 : Int) + (k : Int) * 1 = ((k + 1 : Nat) : Int) by omega]
    repeat walk_at "s1"
    refine get_list (p := itm len (hl.getD (k + 1) 0)) (seq_of c4') (by omega) (by rw [Int.toNat_natCast, List.getElem?_map, g1]; rfl) (by rw [List.length_map]; omega) ?_
    repeat walk_at "s1"
    rw [show (((k + 1 : Nat) : Int) - 1).fdiv 2 = ((k / 2 : Nat) : Int) by rw [Int.fdiv_eq_ediv_of_nonneg _ (by decide)]; omega]
    refine get_list (p := itm len (hl.getD (k / 2) 0)) (seq_of c4') (by omega) (by rw [Int.toNat_natCast, List.getElem?_map, g2]; rfl) (by rw [List.length_map]; omega) ?_
    refine lt_itm ?_
    repeat walk_at "s1"
    have hb : ltN len (hl.getD (k + 1) 0) (hl.getD (k / 2) 0) = false := hH (k + 1) (by omega) hk1
    refine ⟨fun hb' => ?_, fun _ => ⟨rfl, .refl _⟩⟩
    rw [hb] at hb'; cases hb'
  intro qA τ2 s2 hqA hq
  repeat walk_at "s1"
  refine ⟨by simp, fun eA heA => ?_⟩
  have hq' : (τ2.set eA (.list [])) qA = some (.list []) := by
    have : ∀ n, compL (fun _ => none) n = [] := fun n => by induction n with | zero => rfl | succ n ih => rw [compL_none rfl, ih]
    rw [this] at hq; exact at_set_fresh heA hq
  refine cmp_lists_ne (n := 0) (e := fun _ => true) (seq_of hq') (seq_of at_set_same) rfl (fun j p q hp _ => by simp at hp) (by omega) ?_
  show W1 _ BoolRep (.bool false) _ _ _
  repeat walk_at "s1"
  exact h _ ((s1.trans s2).fresh heA)
set_option maxHeartbeats 1000000 in
theorem kept_call (B : Bs (G w base os mb)) {n : Nat} {lA hA : Addr} {la hs : List Int} {σ : AHeap} {Q : PV → AHeap → Prop} (hl : seqAt σ lA = some (intL la)) (hh : seqAt σ hA = some (intL hs)) (hP : σ 62 = some (.raw (tabObj #[]))) (hP2 : σ 69 = some (.raw (tabObj #[])))
    (hlen : la.length ≤ 10) (hlh : hs.length = la.length) (hpos : ∀ j, 0 ≤ at0 la j) (hQ : ∀ τ r hl row S, Out σ τ → τ r = some (.list (natL hl)) → hl.Perm S → Answer (at0 la) (at0 hs) la.length row S → Tabs τ → Q (.ref r) τ) :
    CallS (G w base os mb) ⟨n + 5, true⟩ (.ref 72) [.ref lA, .ref hA]  Q σ := by
  refine call_def (fd := fdAt 72) (body := bdAt 72) [Str.ofString "lasts", Str.ofString "hours"] B.gd (B.fn 72 (by simp)).get rfl rfl (B.fn 72 (by simp)).code rfl rfl rfl rfl rfl rfl (by decide) rfl (fun vs hv => ?_) (fun i => rfl) (fun i => ?_) ?_
  · obtain ⟨v1, v2, rfl⟩ := len2 hv; rfl
  · show ((true && (some (i + 1) == some (i + 1))) && ((true && (some i == some i)) && true)) = true
    simp
  intro c L hc hlv hsc hce hq hf
  obtain ⟨g, lv, A, env⟩ := c
  subst hc hlv
  show WS _ (bdAt 72) _ ([(Str.ofString "lasts", .ref lA)], (σ.set (L + 1) (.cell (some (.ref hA)))).set (L + 1 + 1) (.cell none))
  have hne : L + 1 ≠ L + 1 + 1 := Nat.ne_of_lt (Nat.lt_succ_self _)
  have h1 : σ (L + 1) = none := hf _ (Nat.le_succ _)
  have h2' : σ (L + 1 + 1) = none := hf _ (Nat.le_trans (Nat.le_succ _) (Nat.le_succ _))
  have h2 : (σ.set (L + 1) (.cell (some (.ref hA)))) (L + 1 + 1) = none := by rw [AHeap.set_ne _ _ (Ne.symm hne)]; exact h2'
  have hs0 : σ.Sub ((σ.set (L + 1) (.cell (some (.ref hA)))).set (L + 1 + 1) (.cell none)) := (AHeap.sub_set _ h1).fresh h2
  have cH : ((σ.set (L + 1) (.cell (some (.ref hA)))).set (L + 1 + 1) (.cell none)) (L + 1) = some (.cell (some (.ref hA))) := at_set_ne hne at_set_same
  have cE : ((σ.set (L + 1) (.cell (some (.ref hA)))).set (L + 1 + 1) (.cell none)) (L + 1 + 1) = some (.cell none) := at_set_same
  have m1 : (62 : Addr) ≠ L + 1 := ne_of_fresh h1 hP
  have m2 : (69 : Addr) ≠ L + 1 := ne_of_fresh h1 hP2
  have m3 : (62 : Addr) ≠ L + 1 + 1 := ne_of_fresh h2' hP
  have m4 : (69 : Addr) ≠ L + 1 + 1 := ne_of_fresh h2' hP2
  have l1 := seq_raw hl hP
  have l2 := seq_raw hl hP2
  have l3 := seq_raw hh hP
  have l4 := seq_raw hh hP2
  have hP := hs0 _ _ hP
  have hP2 := hs0 _ _ hP2
  generalize (σ.set (L + 1) (.cell (some (.ref hA)))).set (L + 1 + 1) (.cell none) = σ1 at hs0 cH cE hP hP2 ⊢
  have hQu : env.qual ++ "<lambda>" = lamQ := by
    have : env.qual = "_law_kept.<locals>." := hq.1.trans (by kernel_rfl)
    rw [this]; kernel_rfl
  rw [bd72]
  refine S_seq ?_
  refine S_Assign ?_ rfl
  refine E_CallG B.gd (by walk_at "kd") rfl (B.fn 67 (by simp)).get rfl ?_ rfl rfl rfl rfl
  refine A_cons ?_ rfl
  refine E_Lambda (clos := [("hours", L + 1)]) B.gd hq.2 B.lm hP2 (by simp [TriplesOk]) rfl rfl (closure_of hce rfl) fun f c' ctv hf1 hc1 hf2 hc2 hfc => ?_
  refine A_nil ?_
  refine WN_call ?_
  rw [lam_eq hQu, hQu]
  -- the state with the lambda
  have hf62 : f ≠ 62 := fun e => by rw [e] at hf1; exact absurd hP (by rw [hf1]; simp)
  have hc62 : c' ≠ 62 := fun e => by rw [e] at hc1; exact absurd hP (by rw [hc1]; simp)
  have key : ∀ a o, a ≠ 69 → σ1 a = some o → (((σ1.set 69 (.raw (tabObj (#[] ++ #[rawInt lamP.line, rawInt lamP.col, .ref c'])))).set c' (.own (codeR lamQ))).set f (.raw (lamO (((G w base os mb).mg "__name__").getD .none) (L + 1) c' ctv))) a = some o := fun a o ha e => by
    rw [AHeap.set_ne _ _ (fun q => by rw [q, hf1] at e; cases e), AHeap.set_ne _ _ (fun q => by rw [q, hc1] at e; cases e), AHeap.set_ne _ _ ha]; exact e
  have kf : (((σ1.set 69 (.raw (tabObj (#[] ++ #[rawInt lamP.line, rawInt lamP.col, .ref c'])))).set c' (.own (codeR lamQ))).set f (.raw (lamO (((G w base os mb).mg "__name__").getD .none) (L + 1) c' ctv))) f = some (.raw (lamO (((G w base os mb).mg "__name__").getD .none) (L + 1) c' ctv)) := at_set_same
  have kc : (((σ1.set 69 (.raw (tabObj (#[] ++ #[rawInt lamP.line, rawInt lamP.col, .ref c'])))).set c' (.own (codeR lamQ))).set f (.raw (lamO (((G w base os mb).mg "__name__").getD .none) (L + 1) c' ctv))) c' = some (.own (codeR lamQ)) := at_set_ne (Ne.symm hfc) at_set_same
  have k69 : (((σ1.set 69 (.raw (tabObj (#[] ++ #[rawInt lamP.line, rawInt lamP.col, .ref c'])))).set c' (.own (codeR lamQ))).set f (.raw (lamO (((G w base os mb).mg "__name__").getD .none) (L + 1) c' ctv))) 69 = some (.raw (tabObj (#[] ++ #[rawInt lamP.line, rawInt lamP.col, .ref c']))) := at_set_ne (Ne.symm hf2) (at_set_ne (Ne.symm hc2) at_set_same)
  generalize ((σ1.set 69 (.raw (tabObj (#[] ++ #[rawInt lamP.line, rawInt lamP.col, .ref c'])))).set c' (.own (codeR lamQ))).set f (.raw (lamO (((G w base os mb).mg "__name__").getD .none) (L + 1) c' ctv)) = σ2 at key kf kc k69 ⊢
  refine ctk_call B (key 62 _ (by decide) hP) fun C mc D p fi f1 ci c1 σ3 s3 K hmc hT3 => ?_
  have Tb : Tabs σ3 := ⟨hT3, _, s3 _ _ (by decide) k69⟩
  have hout : Out σ σ3 := fun a o e1 e2 e => s3 a o e1 (key a o e2 (hs0 _ _ e))
  have cH := s3 _ _ (Ne.symm m1) (key _ _ (Ne.symm m2) cH)
  have cE := s3 _ _ (Ne.symm m3) (key _ _ (Ne.symm m4) cE)
  have KK : KL (((G w base os mb).mg "__name__").getD .none) σ3 C hs := ⟨mc, D, p, fi, f1, ci, c1, f, L + 1, c', hA, ctv, K, ⟨s3 _ _ hf62 kf, s3 _ _ hc62 kc, cH, hout.seq hh l3 l4, by omega⟩, hmc⟩
  have hl3 := hout.seq hl l1 l2
  have hh3 := hout.seq hh l3 l4
  clear key kf kc k69 s3 K hmc hP hP2 hf1 hc1
  refine W1_store (by walk_at "kd") ?_
  refine seqQ_next ?_
  refine S_seq ?_
  repeat walk_at "s1"
  refine ⟨by simp, fun rA hrA => ?_⟩
  have hrA' : σ3 rA = none := hrA
  repeat walk_at "s1"
  refine S_for rfl (fun k st => ∃ τ row, st = ([(Str.ofString "lasts", .ref lA), (Str.ofString "key", .ref C), (Str.ofString "row", .ref rA)], τ) ∧ σ3.Sub τ ∧ τ rA = some (.list (natL row)) ∧ row.Perm (List.range k) ∧ Byh (at0 hs) row) ?_ (fun x => rfl)
  repeat walk_at "s1"
  refine len_seq (seq_sub' (AHeap.sub_set _ hrA') hl3) (by rw [intL_len]; omega) ?_
  rw [intL_len]
  repeat walk_at "s1"
  refine call_range1 fun r hr => ?_
  refine ⟨_, _, _, it_range at_set_same (by omega) (by omega) (by omega) (by omega), ⟨_, [], rfl, (AHeap.sub_set _ hrA').fresh hr, at_set_fresh hr at_set_same, by simp, by simp⟩, St.le_refl _, fun _ _ _ => trivial, ?_, ?_⟩
  · rintro k p _ hp ⟨τ, row, rfl, t0, t1, t2, t3⟩
    obtain ⟨hk, rfl⟩ := rangeL_get hp
    rw [show (0 : Int) + (k : Int) * 1 = (k : Int) by omega]
    have hkl : k < hs.length := by omega
    have hrl : row.length = k := by rw [t2.length_eq, List.length_range]
    have hrow : ∀ j ∈ row, j < hs.length := fun j hj => by have := List.mem_range.mp (t2.mem_iff.mp hj); omega
    obtain ⟨Ra, Rb, rfl, r1, r2⟩ := cut_row (hour := at0 hs) (i := k) t3
    refine Asg_local (by walk_at "kd") ?_
    refine S_last ?_
    refine S_Expr ?_ (by unfold PySem.interactive; walk_at "kd") rfl
    refine E_CallGK (o := obAt 51) (fd := fdAt 51) B.gd (by walk_at "kd") rfl (B.fn 51 (by simp)).get rfl ?_ rfl rfl
    repeat walk_at "s1"
    refine insortK_call B (k := Ra.length) (KK.sub t0) t1 (by omega) hrow hkl ⟨by simp, fun p j hp e => ?_, fun p j hp e => ?_⟩ fun υ hsub => ?_
    · rw [List.getElem?_append_left hp] at e; exact r1 j (List.mem_of_getElem? e)
    · rw [List.getElem?_append_right hp] at e; exact r2 j (List.mem_of_getElem? e)
    · rw [List.take_left, List.drop_left]
      refine forQ_next ⟨_, Ra ++ k :: Rb, rfl, (t0.trans hsub).off hrA', at_set_same, ?_, byh_insert t3 r1 r2⟩ (St.le_app (.refl _))
      rw [List.range_succ]
      exact List.perm_middle.trans ((t2.cons k).trans (List.perm_append_comm (l₁ := [k]) (l₂ := List.range k)))
  rintro _ ⟨τ, row, rfl, t0, t1, t2, t3⟩
  rw [rangeL_length, show ((la.length : Int) - 0).toNat = la.length by omega] at t2
  have hrl : row.length = la.length := by rw [t2.length_eq, List.length_range]
  have hrow : ∀ j ∈ row, j < la.length := fun j hj => List.mem_range.mp (t2.mem_iff.mp hj)
  have hout := hout.sub t0
  have Tb := Tb.sub t0
  have cH := t0 _ _ cH
  have cE := t0 _ _ cE
  have hl3 := seq_sub' t0 hl3
  have hh3 := seq_sub' t0 hh3
  clear KK t0 hrA hrA'
  repeat walk_at "s1"
  refine ⟨by simp, fun pA hpA => ?_⟩
  have hpA' : τ pA = none := hpA
  have p1 : L + 1 ≠ pA := ne_of_fresh hpA' cH
  have p2 : L + 1 + 1 ≠ pA := ne_of_fresh hpA' cE
  have p3 : rA ≠ pA := ne_of_fresh hpA' t1
  have p4 : 62 ≠ pA := by obtain ⟨_, e⟩ := Tb.a; exact ne_of_fresh hpA' e
  have p5 : 69 ≠ pA := by obtain ⟨_, e⟩ := Tb.b; exact ne_of_fresh hpA' e
  refine W1_storeCell (by walk_at "kd") (by walk_at "ce") (at_set_fresh hpA' cE) ?_
  have hpσ := hout.none hpA'
  have hout := (hout.fresh (o := .list []) hpA').off (o := .cell (some (.ref pA))) h2'
  have Tb := (Tb.off (o := .list []) p4 p5).off (o := .cell (some (.ref pA))) m3 m4
  have e1 : ((τ.set pA (.list [])).set (L + 1 + 1) (.cell (some (.ref pA)))) (L + 1) = some (.cell (some (.ref hA))) := at_set_ne hne (at_set_fresh hpA' cH)
  have e2 : ((τ.set pA (.list [])).set (L + 1 + 1) (.cell (some (.ref pA)))) (L + 1 + 1) = some (.cell (some (.ref pA))) := at_set_same
  have e3 : ((τ.set pA (.list [])).set (L + 1 + 1) (.cell (some (.ref pA)))) rA = some (.list (natL row)) := at_set_ne (fun q => by rw [q, cE] at t1; cases t1) (at_set_fresh hpA' t1)
  have e4 : ((τ.set pA (.list [])).set (L + 1 + 1) (.cell (some (.ref pA)))) pA = some (.list ([].map (itm (at0 la)))) := at_set_ne (Ne.symm p2) at_set_same
  generalize (τ.set pA (.list [])).set (L + 1 + 1) (.cell (some (.ref pA))) = τ0 at hout Tb e1 e2 e3 e4 ⊢
  clear cH cE hl3 hh3 t1 hpA hpA'
  repeat walk_at "s1"
  refine S_for rfl (fun k st => ∃ τ hl S, st = ([(Str.ofString "lasts", .ref lA), (Str.ofString "key", .ref C), (Str.ofString "row", .ref rA), (Str.ofString "now", .int (total (at0 la) S))], τ) ∧ Out σ τ ∧ τ (L + 1) = some (.cell (some (.ref hA))) ∧ τ (L + 1 + 1) = some (.cell (some (.ref pA))) ∧ τ rA = some (.list (natL row)) ∧
    τ pA = some (.list (hl.map (itm (at0 la)))) ∧ hl.Perm S ∧ IsHeap (ltN (at0 la)) 0 hl ∧ Kept (at0 la) (at0 hs) (row.take k) S ∧ Tabs τ) ?_ (fun x => rfl)
  repeat walk_at "s1"
  refine ⟨_, _, _, it_list (seq_of e3), ⟨_, [], [], rfl, hout, e1, e2, e3, e4, .refl _, (fun k _ hk => by simp at hk), Kept.nil, Tb⟩, St.le_refl _, ?_, ?_, ?_⟩
  · rintro k _ ⟨τ, hl, S, rfl, d1, d2, d3, d4, _⟩; exact seq_of d4
  · rintro k p _ hp ⟨τ, hl, S, rfl, d1, d2, d3, d4, d5, d6, d7, d8, d9⟩
    obtain ⟨j, hj, rfl⟩ := natL_get hp
    have hjl := hrow j (List.mem_of_getElem? hj)
    have hsl : hl.length ≤ 10 := by
      have a := d8.sub.length_le
      rw [List.length_take, hrl] at a
      rw [d6.length_eq]; omega
    have hlτ := d1.seq ‹seqAt σ lA = some (intL la)› l1 l2
    have hhτ := d1.seq hh l3 l4
    have et := take_snoc hj
    have hbefore : ∀ i ∈ row.take k, at0 hs i ≤ at0 hs j := fun i hi => by
      obtain ⟨hkl, hje⟩ := List.getElem?_eq_some_iff.mp hj
      obtain ⟨q, hq, e⟩ := List.getElem_of_mem hi
      have hqk : q < k := by rw [List.length_take] at hq; omega
      have := List.pairwise_iff_getElem.mp t3 q k (by omega) hkl hqk
      rw [List.getElem_take] at e
      rw [e, hje] at this
      exact this
    refine Asg_local (by walk_at "kd") ?_
    refine S_seq ?_
    repeat walk_at "s1"
    refine get_list (seq_sub' (.refl _) hlτ) (by omega) (by rw [Int.toNat_natCast]; exact intL_at (getD_some hjl)) (by rw [intL_len]; omega) ?_
    repeat walk_at "s1"
    refine get_list hhτ (by omega) (by rw [Int.toNat_natCast]; exact intL_at (getD_some (by omega))) (by rw [intL_len]; omega) ?_
    repeat walk_at "s1"
    refine ifQ_dec (fun hb => ?_) (fun hb => ?_)
    · have hb' := of_decide_eq_true hb
      repeat walk_at "s1"
      refine E_UnaryOp ?_
      repeat walk_at "s1"
      refine get_list hlτ (by omega) (by rw [Int.toNat_natCast]; exact intL_at (getD_some hjl)) (by rw [intL_len]; omega) ?_
      refine un_neg ?_
      repeat walk_at "s1"
      refine ⟨by simp, ?_⟩
      repeat walk_at "s1"
      refine WN_call ?_
      refine push_call B (len := at0 la) (j := j) d5 (by omega) d7 fun hl' q1 q2 => ?_
      refine seqQ_next ?_
      have hz' : hl'.length ≤ 1000 := by rw [q1.length_eq]; simp; omega
      refine check_ok B hsc hce (at_set_ne p2 d3) at_set_same q2 hz' fun υ hυ => ?_
      refine forQ_next ⟨υ, hl', S ++ [j], rfl, (d1.offW hpσ).sub hυ, hυ _ _ (at_set_ne p1 d2), hυ _ _ (at_set_ne p2 d3), hυ _ _ (at_set_ne p3 d4), hυ _ _ at_set_same, q1.trans (d6.append_right [j]), q2, by rw [et]; exact d8.push (by simpa [at0] using hb'), (d9.off p4 p5).sub hυ⟩ ?_
      rw [total_snoc]
      exact St.le_app (.refl _)
    · have hb' := of_decide_eq_false hb
      repeat walk_at "s1"
      refine E_UnaryOp ?_
      repeat walk_at "s1"
      refine get_list hlτ (by omega) (by rw [Int.toNat_natCast]; exact intL_at (getD_some hjl)) (by rw [intL_len]; omega) ?_
      refine un_neg ?_
      repeat walk_at "s1"
      refine ⟨by simp, ?_⟩
      repeat walk_at "s1"
      refine WN_call ?_
      refine pushpop_call B (len := at0 la) (j := j) d5 (by omega) d7 fun x hl' q1 q2 q3 => ?_
      repeat walk_at "s1"
      refine get_tup (p := .int (-(at0 la x))) (by omega) rfl (by simp) ?_
      refine bin_add ?_
      refine W1_store (by walk_at "kd") ?_
      refine seqQ_next ?_
      obtain ⟨T, T1, T2, T3⟩ := Kept.swap' hpos d8 (by simp only [at0] at hb' ⊢; omega) hbefore d6 q1 q3
      have hz' : hl'.length ≤ 1000 := by have := q1.length_eq; simp at this; omega
      refine check_ok B hsc hce (at_set_ne p2 d3) at_set_same q2 hz' fun υ hυ => ?_
      refine forQ_next ⟨υ, hl', T, rfl, (d1.offW hpσ).sub hυ, hυ _ _ (at_set_ne p1 d2), hυ _ _ (at_set_ne p2 d3), hυ _ _ (at_set_ne p3 d4), hυ _ _ at_set_same, T1, q2, by rw [et]; exact T2, (d9.off p4 p5).sub hυ⟩ ?_
      rw [T3]
      exact St.le_app (.refl _)
  · rintro _ ⟨τ, hl, S, rfl, d1, d2, d3, d4, d5, d6, d7, d8, d9⟩
    rw [natL_len, List.take_length] at d8
    have hsl : hl.length ≤ 10 := by
      have a := d8.sub.length_le
      rw [d6.length_eq]; omega
    repeat walk_at "s1"
    refine E_ListComp (cl := []) rfl (closure_of hce rfl) (by decide) rfl (by decide) (fun x => rfl) ?_
    repeat walk_at "s1"
    refine ⟨_, _, it_list (seq_of d5), comp_pure (fun k => hl[k]?.map fun (j : Nat) => PV.int (j : Int)) (by rw [List.length_map]; omega) (fun τ h => seq_of (h _ _ d5)) ?_ ?_⟩
    · intro c' hcx hlx hsc' hce' k p τ' hp hsub
      obtain ⟨g', lv', A', env'⟩ := c'
      obtain rfl : g' = G w base os mb := hcx
      obtain rfl : lv' = ⟨n + 4, true⟩ := hlx
      rw [List.getElem?_map] at hp
      cases q : hl[k]? with
      | none => rw [q] at hp; cases hp
      | some x =>
        rw [q] at hp
        obtain rfl := (Option.some.inj hp)
        refine Asg_Tuple rfl ?_ rfl rfl rfl
        repeat walk_at "s1"
        refine ⟨fun _ => ?_, fun h => (by cases h)⟩
        repeat walk_at "s1"
        exact ⟨rfl, .refl _⟩
    · intro r τ1 u1 hr u2
      rw [List.length_map, compL_map] at u2
      repeat walk_at "s1"
      exact hQ τ1 r hl row S (d1.sub u1) u2 d6 ⟨hpos, t2, t3, d8⟩ (d9.sub u1)
end
section
open PySem PySem.W
set_option Elab.async false
set_option linter.unusedVariables false
set_option maxRecDepth 100000
variable {w : World} {base : Heap} {os : OsState} {mb : Str → Option Value}
theorem compL_tot (g : Nat → PV) (n : Nat) : compL (fun k => some (g k)) n = (List.range n).map g := by
  unfold compL; rw [List.filterMap_eq_map']
theorem intL_map {α : Type} (l : List α) (g : α → Int) : (l.map fun x => PV.int (g x)) = intL (l.map g) := by unfold intL; rw [List.map_map]; rfl
theorem at0_nonneg {la : List Int} (h : ∀ x ∈ la, 0 ≤ x) (j : Nat) : 0 ≤ at0 la j := by
  simp only [at0]; rw [List.getD_eq_getElem?_getD]
  cases q : la[j]? with
  | none => exact Int.le_refl _
  | some x => exact h x (List.mem_of_getElem? q)
theorem sum_nonneg {la : List Int} (h : ∀ x ∈ la, 0 ≤ x) : 0 ≤ la.sum := by
  induction la with
  | nil => simp
  | cons a l ih => rw [List.sum_cons]; have := h a (by simp); have := ih (fun x hx => h x (by simp [hx])); omega
theorem cellNe {τ : AHeap} {a : Addr} {o : Option PV} (T : Tabs τ) (h : τ a = some (.cell o)) : a ≠ 62 ∧ a ≠ 69 :=
  ⟨fun e => (by obtain ⟨_, t⟩ := T.a; rw [e, t] at h; cases h), fun e => (by obtain ⟨_, t⟩ := T.b; rw [e, t] at h; cases h)⟩
theorem listNe {τ : AHeap} {a : Addr} {o : List PV} (T : Tabs τ) (h : τ a = some (.list o)) : a ≠ 62 ∧ a ≠ 69 :=
  ⟨fun e => (by obtain ⟨_, t⟩ := T.a; rw [e, t] at h; cases h), fun e => (by obtain ⟨_, t⟩ := T.b; rw [e, t] at h; cases h)⟩
set_option maxHeartbeats 1000000 in
theorem law_call (B : Bs (G w base os mb)) {n : Nat} {sc : Addr} {ns : List Int} {σ : AHeap} {Q : PV → AHeap → Prop} (hs : seqAt σ sc = some (intL ns)) (hz : ns.length ≤ 63) (hP : σ 62 = some (.raw (tabObj #[]))) (hP2 : σ 69 = some (.raw (tabObj #[]))) (hQ : ∀ τ, Tabs τ → Q (.bool true) τ) :
    CallS (G w base os mb) ⟨n + 6, true⟩ (.ref 87) [.ref sc]  Q σ := by
  refine call_def (fd := fdAt 87) (body := bdAt 87) [Str.ofString "script"] B.gd (B.fn 87 (by simp)).get rfl rfl (B.fn 87 (by simp)).code rfl rfl rfl rfl rfl rfl (by decide) rfl (fun vs hv => ?_) (fun i => rfl) (fun i => ?_) ?_
  · obtain ⟨v1, rfl⟩ := len1 hv; rfl
  · show ((true && (some (i + 1 + 1) == some (i + 1 + 1))) && ((true && (some (i + 1) == some (i + 1))) && ((true && (some i == some i)) && true))) = true
    simp
  intro c L hc hlv hsc hce hq hf
  obtain ⟨g, lv, A, env⟩ := c
  subst hc hlv
  show WS _ (bdAt 87) _ ([(Str.ofString "script", .ref sc)], ((σ.set (L + 1) (.cell none)).set (L + 1 + 1) (.cell none)).set (L + 1 + 1 + 1) (.cell none))
  have n12 : L + 1 ≠ L + 1 + 1 := Nat.ne_of_lt (Nat.lt_succ_self _)
  have n23 : L + 1 + 1 ≠ L + 1 + 1 + 1 := Nat.ne_of_lt (Nat.lt_succ_self _)
  have n13 : L + 1 ≠ L + 1 + 1 + 1 := Nat.ne_of_lt (Nat.lt_succ_of_lt (Nat.lt_succ_self _))
  have f1 : σ (L + 1) = none := hf _ (Nat.le_succ _)
  have f2 : σ (L + 1 + 1) = none := hf _ (Nat.le_trans (Nat.le_succ _) (Nat.le_succ _))
  have f3 : σ (L + 1 + 1 + 1) = none := hf _ (Nat.le_trans (Nat.le_trans (Nat.le_succ _) (Nat.le_succ _)) (Nat.le_succ _))
  have hs0 : σ.Sub (((σ.set (L + 1) (.cell none)).set (L + 1 + 1) (.cell none)).set (L + 1 + 1 + 1) (.cell none)) := ((AHeap.sub_set _ f1).off f2).off f3
  have c1 : (((σ.set (L + 1) (.cell none)).set (L + 1 + 1) (.cell none)).set (L + 1 + 1 + 1) (.cell none)) (L + 1) = some (.cell none) := at_set_ne n13 (at_set_ne n12 at_set_same)
  have c2 : (((σ.set (L + 1) (.cell none)).set (L + 1 + 1) (.cell none)).set (L + 1 + 1 + 1) (.cell none)) (L + 1 + 1) = some (.cell none) := at_set_ne n23 at_set_same
  have c3 : (((σ.set (L + 1) (.cell none)).set (L + 1 + 1) (.cell none)).set (L + 1 + 1 + 1) (.cell none)) (L + 1 + 1 + 1) = some (.cell none) := at_set_same
  generalize ((σ.set (L + 1) (.cell none)).set (L + 1 + 1) (.cell none)).set (L + 1 + 1 + 1) (.cell none) = σ1 at hs0 c1 c2 c3 ⊢
  -- numbers
  refine S_seq ?_
  repeat walk_at "s1"
  refine ⟨by simp, fun tA htA => ?_⟩
  have s1 : σ1.Sub (σ1.set tA (.list [.int 58, .int 56])) := AHeap.sub_set _ htA
  have hs1 := seq_sub' (hs0.trans s1) hs
  have ht1 : (σ1.set tA (.list [.int 58, .int 56])) tA = some (.list [.int 58, .int 56]) := at_set_same
  repeat walk_at "s1"
  generalize σ1.set tA (.list [.int 58, .int 56]) = σ2 at s1 hs1 ht1 ⊢
  refine len_seq hs1 (by rw [intL_len]; omega) ?_
  rw [intL_len]
  repeat walk_at "s1"
  refine slice_from (seq_of ht1) (by simp) fun uA huA => ?_
  refine bin_addL (seq_sub' (AHeap.sub_set _ huA) hs1) (seq_of at_set_same) (by rw [intL_len]; simp; omega) fun nA hnA => ?_
  have en : intL ns ++ List.drop ns.length [PV.int 58, PV.int 56] = intL (ns ++ List.drop ns.length [58, 56]) := by unfold intL; rw [List.map_append, List.map_drop]; rfl
  rw [en]
  have hM : (ns ++ List.drop ns.length [58, 56]).length ≤ 65 := by rw [List.length_append, List.length_drop]; simp; omega
  generalize ns ++ List.drop ns.length [58, 56] = nm at hM ⊢
  have s2 := ((hs0.trans s1).fresh (o := .list (List.drop ns.length [PV.int 58, PV.int 56])) huA).fresh (o := .list (intL nm)) hnA
  have c1 := at_set_fresh (o' := .list (intL nm)) hnA (at_set_fresh (o' := .list (List.drop ns.length [PV.int 58, PV.int 56])) huA (s1 _ _ c1))
  have c2 := at_set_fresh (o' := .list (intL nm)) hnA (at_set_fresh (o' := .list (List.drop ns.length [PV.int 58, PV.int 56])) huA (s1 _ _ c2))
  have c3 := at_set_fresh (o' := .list (intL nm)) hnA (at_set_fresh (o' := .list (List.drop ns.length [PV.int 58, PV.int 56])) huA (s1 _ _ c3))
  have c4 : ((σ2.set uA (.list (List.drop ns.length [PV.int 58, PV.int 56]))).set nA (.list (intL nm))) nA = some (.list (intL nm)) := at_set_same
  generalize (σ2.set uA (.list (List.drop ns.length [PV.int 58, PV.int 56]))).set nA (.list (intL nm)) = σ3 at s2 c1 c2 c3 c4 ⊢
  clear s1 hs1 ht1 huA hnA htA
  have d1 : nA ≠ L + 1 := fun e => by rw [e, c1] at c4; cases c4
  refine W1_storeCell (by walk_at "kd") (by walk_at "ce") c1 ?_
  have s2 := s2.off (o := .cell (some (.ref nA))) f1
  have c4 := at_set_ne (o' := .cell (some (.ref nA))) d1 c4
  have c2 := at_set_ne (o' := .cell (some (.ref nA))) (Ne.symm n12) c2
  have c3 := at_set_ne (o' := .cell (some (.ref nA))) (Ne.symm n13) c3
  have c1 : (σ3.set (L + 1) (.cell (some (.ref nA)))) (L + 1) = some (.cell (some (.ref nA))) := at_set_same
  generalize σ3.set (L + 1) (.cell (some (.ref nA))) = σ3 at s2 c1 c2 c3 c4 ⊢
  -- size
  refine seqQ_next ?_
  repeat walk_at "s1"
  refine len_seq (seq_of c4) (by rw [intL_len]; omega) ?_
  rw [intL_len]
  repeat walk_at "s1"
  refine call_min2 rfl ?_
  obtain ⟨N, hN⟩ : ∃ N : Nat, N = if 10 < nm.length then 10 else nm.length := ⟨_, rfl⟩
  have hN10 : N ≤ 10 := by rw [hN]; split <;> omega
  have hNm : N ≤ nm.length := by rw [hN]; split <;> omega
  have hN3 : 10 < nm.length → N = 10 := fun h => by rw [hN, if_pos h]
  rw [show (if (10 : Int) < (nm.length : Int) then (10 : Int) else (nm.length : Int)) = (N : Int) by rw [hN]; split <;> split <;> omega]
  clear hN
  refine W1_store (by walk_at "kd") ?_
  refine seqQ_next ?_
  refine S_seq ?_
  -- lasts
  refine S_Assign ?_ (swaps_of hsc rfl)
  refine E_ListComp (cl := [(Str.ofString "numbers", L + 1)]) rfl (closure_of hce rfl) (by decide) rfl (by decide) (fun x => rfl) ?_
  repeat walk_at "s1"
  refine call_range1 fun r hr => ?_
  have hrr : (σ3.set r (.range 0 N 1)) r = some (.range 0 N 1) := at_set_same
  have s2 := s2.fresh (o := .range 0 N 1) hr
  have c1 := at_set_fresh (o' := .range 0 N 1) hr c1
  have c2 := at_set_fresh (o' := .range 0 N 1) hr c2
  have c3 := at_set_fresh (o' := .range 0 N 1) hr c3
  have c4 := at_set_fresh (o' := .range 0 N 1) hr c4
  generalize σ3.set r (.range 0 N 1) = σ4 at hrr s2 c1 c2 c3 c4 ⊢
  refine ⟨_, _, it_range hrr (by omega) (by omega) (by omega) (by omega), comp_pure (fun k => some (.int (1 + (at0 nm k).fmod 8))) (by rw [rangeL_length]; omega) (fun τ h => trivial) ?_ ?_⟩
  · intro c' hcx hlx hsc' hce' k p τ' hp hsub
    obtain ⟨g', lv', A', env'⟩ := c'
    obtain rfl : g' = G w base os mb := hcx
    obtain rfl : lv' = ⟨n + 5, true⟩ := hlx
    obtain ⟨hk, rfl⟩ := rangeL_get hp
    rw [show (0 : Int) + (k : Int) * 1 = (k : Int) by omega]
    have c1' := hsub _ _ c1
    refine Asg_local (by walk_at "kd") ?_
    repeat walk_at "s1"
    refine ⟨fun _ => ?_, fun h => (by cases h)⟩
    repeat walk_at "s1"
    refine get_list (seq_of (hsub _ _ c4)) (by omega) (by rw [Int.toNat_natCast]; exact intL_at (getD_some (by omega))) (by rw [intL_len]; omega) ?_
    repeat walk_at "s1"
    refine bin_mod (by decide) ?_
    repeat walk_at "s1"
    exact ⟨rfl, .refl _⟩
  intro lA τ u1 hlA c5
  rw [rangeL_length, show ((N : Int) - 0).toNat = N by omega, compL_tot, intL_map] at c5
  have hlσ : σ lA = none := fresh_sub' s2 hlA
  have d5 : nA ≠ lA := ne_of_fresh hlA c4
  have s2 := s2.trans u1
  have c1 := u1 _ _ c1
  have c2 := u1 _ _ c2
  have c3 := u1 _ _ c3
  have c4 := u1 _ _ c4
  have d2 : lA ≠ L + 1 + 1 := fun e => by rw [e, c2] at c5; cases c5
  have d3 : lA ≠ L + 1 := fun e => by rw [e, c1] at c5; cases c5
  have d4 : lA ≠ L + 1 + 1 + 1 := fun e => by rw [e, c3] at c5; cases c5
  refine W1_storeCell (by walk_at "kd") (by walk_at "ce") c2 ?_
  have s2 := s2.off (o := .cell (some (.ref lA))) f2
  have c4 := at_set_ne (o' := .cell (some (.ref lA))) (fun e => by rw [e, c2] at c4; cases c4) c4
  have c5 := at_set_ne (o' := .cell (some (.ref lA))) d2 c5
  have c1 := at_set_ne (o' := .cell (some (.ref lA))) n12 c1
  have c3 := at_set_ne (o' := .cell (some (.ref lA))) (Ne.symm n23) c3
  have c2 : (τ.set (L + 1 + 1) (.cell (some (.ref lA)))) (L + 1 + 1) = some (.cell (some (.ref lA))) := at_set_same
  generalize τ.set (L + 1 + 1) (.cell (some (.ref lA))) = τ at s2 c1 c2 c3 c4 c5 ⊢
  clear hrr u1 hr
  refine seqQ_next ?_
  refine S_seq ?_
  -- the rest of the numbers
  refine S_for rfl (fun k st => ∃ τ la, st = ([(Str.ofString "script", .ref sc), (Str.ofString "size", .int N)], τ) ∧ σ.Sub τ ∧ τ (L + 1) = some (.cell (some (.ref nA))) ∧ τ (L + 1 + 1) = some (.cell (some (.ref lA))) ∧ τ (L + 1 + 1 + 1) = some (.cell none) ∧ τ nA = some (.list (intL nm)) ∧
    τ lA = some (.list (intL la)) ∧ la.length = N ∧ ∀ x ∈ la, 0 ≤ x) ?_ (fun x => rfl)
  repeat walk_at "s1"
  refine len_seq (seq_of c4) (by rw [intL_len]; omega) ?_
  rw [intL_len]
  repeat walk_at "s1"
  refine call_range2 fun r hr => ?_
  refine ⟨_, _, _, it_range at_set_same (by omega) (by omega) (by omega) (by omega), ⟨_, _, rfl, s2.fresh hr, at_set_fresh hr c1, at_set_fresh hr c2, at_set_fresh hr c3, at_set_fresh hr c4, at_set_fresh hr c5, by simp, fun x hx => ?_⟩, St.le_refl _, fun _ _ _ => trivial, ?_, ?_⟩
  · obtain ⟨j, _, rfl⟩ := List.mem_map.mp hx
    have := Int.fmod_nonneg_of_pos (at0 nm j) (show (0 : Int) < 8 by decide)
    omega
  · rintro k p _ hp ⟨τ, la, rfl, s2, c1, c2, c3, c4, c5, hla, hnn⟩
    obtain ⟨hk, rfl⟩ := rangeL_get hp
    have hk10 : 10 + k < nm.length := by omega
    have hN := hN3 (by omega)
    rw [show (10 : Int) + (k : Int) * 1 = ((10 + k : Nat) : Int) by omega]
    obtain ⟨m, hm⟩ : ∃ m : Nat, m = (10 + k) % 10 := ⟨_, rfl⟩
    have hm10 : m < la.length := by omega
    have em : ((10 + k : Nat) : Int).fmod 10 = (m : Int) := by rw [Int.fmod_eq_emod_of_nonneg _ (by decide)]; omega
    refine Asg_local (by walk_at "kd") ?_
    repeat walk_at "s1"
    refine bin_mod (by decide) ?_
    rw [em]
    refine get_list (seq_of c5) (by omega) (by rw [Int.toNat_natCast]; exact intL_at (getD_some hm10)) (by rw [intL_len]; omega) ?_
    repeat walk_at "s1"
    refine get_list (seq_of c4) (by omega) (by rw [Int.toNat_natCast]; exact intL_at (getD_some hk10)) (by rw [intL_len]; omega) ?_
    repeat walk_at "s1"
    refine bin_mod (by decide) ?_
    repeat walk_at "s1"
    refine bin_mod (by decide) ?_
    rw [em]
    refine set_list c5 (by omega) (by rw [intL_len]; omega) (by rw [intL_len]; omega) ?_
    rw [Int.toNat_natCast]
    repeat walk_at "s1"
    refine forQ_next ⟨_, la.set m (la.getD m 0 + (at0 nm (10 + k)).fmod 8), rfl, s2.off hlσ, at_set_ne (Ne.symm d3) c1, at_set_ne (Ne.symm d2) c2, at_set_ne (Ne.symm d4) c3, at_set_ne d5 c4, by rw [at_set_same]; unfold intL; rw [List.map_set], by rw [List.length_set]; exact hla, fun x hx => ?_⟩ (St.le_app (.refl _))
    rcases List.mem_or_eq_of_mem_set hx with q | q
    · exact hnn x q
    · have h1 := Int.fmod_nonneg_of_pos (at0 nm (10 + k)) (show (0 : Int) < 8 by decide)
      have h2 : 0 ≤ la.getD m 0 := at0_nonneg hnn m
      omega
  rintro _ ⟨τ, la, rfl, s2, c1, c2, c3, c4, c5, hla, hnn⟩
  -- hours
  refine S_nil ?_
  refine seqQ_next ?_
  refine S_seq ?_
  have hsum := sum_nonneg hnn
  refine S_AssignComp (cl := [(Str.ofString "numbers", L + 1), (Str.ofString "lasts", L + 1 + 1)]) rfl (swaps_of hsc rfl) (by walk_at "kd") (closure_of hce rfl) (by decide) rfl (by decide) (fun x => rfl) ?_
  repeat walk_at "s1"
  refine call_range1 fun r hr => ?_
  have hrr : (τ.set r (.range 0 N 1)) r = some (.range 0 N 1) := at_set_same
  have s2 := s2.fresh (o := .range 0 N 1) hr
  have c1 := at_set_fresh (o' := .range 0 N 1) hr c1
  have c2 := at_set_fresh (o' := .range 0 N 1) hr c2
  have c3 := at_set_fresh (o' := .range 0 N 1) hr c3
  have c4 := at_set_fresh (o' := .range 0 N 1) hr c4
  have c5 := at_set_fresh (o' := .range 0 N 1) hr c5
  generalize τ.set r (.range 0 N 1) = τ at hrr s2 c1 c2 c3 c4 c5 ⊢
  refine ⟨_, _, it_range hrr (by omega) (by omega) (by omega) (by omega), comp_pure (fun k => some (.int (((at0 nm k).fdiv 8).fmod (la.sum + 8) - 4))) (by rw [rangeL_length]; omega) (fun τ h => trivial) ?_ ?_⟩
  · intro c' hcx hlx hsc' hce' k p τ' hp hsub
    obtain ⟨g', lv', A', env'⟩ := c'
    obtain rfl : g' = G w base os mb := hcx
    obtain rfl : lv' = ⟨n + 5, true⟩ := hlx
    obtain ⟨hk, rfl⟩ := rangeL_get hp
    rw [show (0 : Int) + (k : Int) * 1 = (k : Int) by omega]
    have c1' := hsub _ _ c1
    have c2' := hsub _ _ c2
    refine Asg_local (by walk_at "kd") ?_
    repeat walk_at "s1"
    refine ⟨fun _ => ?_, fun h => (by cases h)⟩
    repeat walk_at "s1"
    refine get_list (seq_of (hsub _ _ c4)) (by omega) (by rw [Int.toNat_natCast]; exact intL_at (getD_some (by omega))) (by rw [intL_len]; omega) ?_
    repeat walk_at "s1"
    refine call_sum rfl (seq_of (hsub _ _ c5)) ?_
    repeat walk_at "s1"
    refine bin_mod (by omega) ?_
    repeat walk_at "s1"
    exact ⟨rfl, .refl _⟩
  intro hA τ1 u1 hhA c6
  rw [rangeL_length, show ((N : Int) - 0).toNat = N by omega, compL_tot, intL_map] at c6
  have hhl : ((List.range N).map fun k => ((at0 nm k).fdiv 8).fmod (la.sum + 8) - 4).length = la.length := by simp [hla]
  generalize ((List.range N).map fun k => ((at0 nm k).fdiv 8).fmod (la.sum + 8) - 4) = hs' at c6 hhl
  have s2 := s2.trans u1
  have c1 := u1 _ _ c1
  have c2 := u1 _ _ c2
  have c3 := u1 _ _ c3
  have c4 := u1 _ _ c4
  have c5 := u1 _ _ c5
  have hP := s2 _ _ hP
  have hP2 := s2 _ _ hP2
  have T1 : Tabs τ1 := ⟨⟨_, hP⟩, ⟨_, hP2⟩⟩
  repeat walk_at "s1"
  refine WN_call ?_
  refine kept_call B (seq_of c5) (seq_of c6) hP hP2 (by omega) hhl (at0_nonneg hnn) fun τ2 kA hl row S o2 c7 hperm An T2 => ?_
  have e2 := cellNe T1 c2
  have e3 := cellNe T1 c3
  have e5 := listNe T1 c5
  have e6 := listNe T1 c6
  have c2 := o2 _ _ e2.1 e2.2 c2
  have c3 := o2 _ _ e3.1 e3.2 c3
  have c5 := o2 _ _ e5.1 e5.2 c5
  have c6 := o2 _ _ e6.1 e6.2 c6
  have hrange : ∀ j ∈ hl, j < la.length := fun j hj => List.mem_range.mp (An.perm.mem_iff.mp (An.kept.sub.mem (hperm.mem_iff.mp hj)))
  have hlk : hl.length ≤ 10 := by
    have a := An.kept.sub.length_le
    rw [An.perm.length_eq, List.length_range] at a
    rw [hperm.length_eq]; omega
  repeat walk_at "s1"
  -- short
  refine E_ListComp (cl := [(Str.ofString "lasts", L + 1 + 1)]) rfl (closure_of hce rfl) (by decide) rfl (by decide) (fun x => rfl) ?_
  repeat walk_at "s1"
  refine ⟨_, _, it_list (seq_of c7), comp_pure (fun k => hl[k]?.map fun j => .int (at0 la j)) (by rw [natL_len]; omega) (fun τ h => seq_of (h _ _ c7)) ?_ ?_⟩
  · intro c' hcx hlx hsc' hce' k p τ' hp hsub
    obtain ⟨g', lv', A', env'⟩ := c'
    obtain rfl : g' = G w base os mb := hcx
    obtain rfl : lv' = ⟨n + 5, true⟩ := hlx
    obtain ⟨j, hj, rfl⟩ := natL_get hp
    have hjl := hrange j (List.mem_of_getElem? hj)
    have c2' := hsub _ _ c2
    refine Asg_local (by walk_at "kd") ?_
    repeat walk_at "s1"
    refine ⟨fun _ => ?_, fun h => (by cases h)⟩
    repeat walk_at "s1"
    refine get_list (seq_of (hsub _ _ c5)) (by omega) (by rw [Int.toNat_natCast]; exact intL_at (getD_some hjl)) (by rw [intL_len]; omega) ?_
    exact ⟨by rw [hj]; rfl, .refl _⟩
  intro qA τ3 u3 hqA c8
  rw [natL_len, compL_map, intL_map] at c8
  have T3 := T2.sub u3
  have c2 := u3 _ _ c2
  have c3 := u3 _ _ c3
  have c5 := u3 _ _ c5
  have c6 := u3 _ _ c6
  have c7 := u3 _ _ c7
  repeat walk_at "s1"
  refine call_sorted (seq_of c8) (by rw [List.length_map]; omega) fun zA hzA => ?_
  have hsh : sortI (hl.map (at0 la)) = sortI (S.map (at0 la)) := sortI_cg (hperm.map _)
  rw [hsh]
  have T3 := T3.sub (AHeap.sub_set (.list (intL (sortI (S.map (at0 la))))) hzA)
  have c2 := at_set_fresh (o' := .list (intL (sortI (S.map (at0 la))))) hzA c2
  have c3 := at_set_fresh (o' := .list (intL (sortI (S.map (at0 la))))) hzA c3
  have c5 := at_set_fresh (o' := .list (intL (sortI (S.map (at0 la))))) hzA c5
  have c6 := at_set_fresh (o' := .list (intL (sortI (S.map (at0 la))))) hzA c6
  have c7 := at_set_fresh (o' := .list (intL (sortI (S.map (at0 la))))) hzA c7
  have c9 : (τ3.set zA (.list (intL (sortI (S.map (at0 la)))))) zA = some (.list (intL (sortI (S.map (at0 la))))) := at_set_same
  generalize τ3.set zA (.list (intL (sortI (S.map (at0 la))))) = τ4 at T3 c2 c3 c5 c6 c7 c9 ⊢
  refine W1_storeCell (by walk_at "kd") (by walk_at "ce") c3 ?_
  have T3 := T3.off (o := .cell (some (.ref zA))) (Ne.symm e3.1) (Ne.symm e3.2)
  have c2 := at_set_ne (o' := .cell (some (.ref zA))) n23 c2
  have c5 := at_set_ne (o' := .cell (some (.ref zA))) (fun e => by rw [e, c3] at c5; cases c5) c5
  have c6 := at_set_ne (o' := .cell (some (.ref zA))) (fun e => by rw [e, c3] at c6; cases c6) c6
  have c7 := at_set_ne (o' := .cell (some (.ref zA))) (fun e => by rw [e, c3] at c7; cases c7) c7
  have c9 := at_set_ne (o' := .cell (some (.ref zA))) (fun e => by rw [e, c3] at c9; cases c9) c9
  have c3 : (τ4.set (L + 1 + 1 + 1) (.cell (some (.ref zA)))) (L + 1 + 1 + 1) = some (.cell (some (.ref zA))) := at_set_same
  generalize τ4.set (L + 1 + 1 + 1) (.cell (some (.ref zA))) = τ4 at T3 c2 c3 c5 c6 c7 c9 ⊢
  refine seqQ_next ?_
  refine S_seq ?_
  -- told
  refine S_AssignComp (cl := [(Str.ofString "short", L + 1 + 1 + 1)]) rfl (swaps_of hsc rfl) (by walk_at "kd") (closure_of hce rfl) (by decide) rfl (by decide) (fun x => rfl) ?_
  repeat walk_at "s1"
  refine len_seq (seq_of c7) (by rw [natL_len]; omega) ?_
  rw [natL_len]
  repeat walk_at "s1"
  refine call_range1 fun r hr => ?_
  rw [show ((hl.length : Int) + 1) = ((hl.length + 1 : Nat) : Int) by omega]
  have hrr : (τ4.set r (.range 0 ((hl.length + 1 : Nat) : Int) 1)) r = some (.range 0 ((hl.length + 1 : Nat) : Int) 1) := at_set_same
  have T3 := T3.sub (AHeap.sub_set (.range 0 ((hl.length + 1 : Nat) : Int) 1) hr)
  have c2 := at_set_fresh (o' := .range 0 ((hl.length + 1 : Nat) : Int) 1) hr c2
  have c3 := at_set_fresh (o' := .range 0 ((hl.length + 1 : Nat) : Int) 1) hr c3
  have c5 := at_set_fresh (o' := .range 0 ((hl.length + 1 : Nat) : Int) 1) hr c5
  have c6 := at_set_fresh (o' := .range 0 ((hl.length + 1 : Nat) : Int) 1) hr c6
  have c7 := at_set_fresh (o' := .range 0 ((hl.length + 1 : Nat) : Int) 1) hr c7
  have c9 := at_set_fresh (o' := .range 0 ((hl.length + 1 : Nat) : Int) 1) hr c9
  generalize τ4.set r (.range 0 ((hl.length + 1 : Nat) : Int) 1) = τ4 at hrr T3 c2 c3 c5 c6 c7 c9 ⊢
  have hsl : (sortI (S.map (at0 la))).length ≤ 10 := by rw [sortI_len, List.length_map, ← hperm.length_eq]; exact hlk
  refine ⟨_, _, it_range hrr (by omega) (by omega) (by omega) (by omega), comp_pure (fun k => some (.int (Sh k (S.map (at0 la))))) (by rw [rangeL_length]; omega) (fun τ h => trivial) ?_ ?_⟩
  · intro c' hcx hlx hsc' hce' k p τ' hp hsub
    obtain ⟨g', lv', A', env'⟩ := c'
    obtain rfl : g' = G w base os mb := hcx
    obtain rfl : lv' = ⟨n + 5, true⟩ := hlx
    obtain ⟨hk, rfl⟩ := rangeL_get hp
    rw [show (0 : Int) + (k : Int) * 1 = (k : Int) by omega]
    have c3' := hsub _ _ c3
    refine Asg_local (by walk_at "kd") ?_
    repeat walk_at "s1"
    refine ⟨fun _ => ?_, fun h => (by cases h)⟩
    repeat walk_at "s1"
    refine slice_upto (seq_of (hsub _ _ c9)) (by rw [intL_len]; omega) fun vA hvA => ?_
    repeat walk_at "s1"
    refine call_sum (ns := (sortI (S.map (at0 la))).take k) rfl (seq_of (by rw [at_set_same]; unfold intL; rw [List.map_take])) ?_
    exact ⟨rfl, AHeap.sub_set _ hvA⟩
  intro oA τ5 u5 hoA c10
  rw [rangeL_length, show (((hl.length + 1 : Nat) : Int) - 0).toNat = S.length + 1 by rw [hperm.length_eq]; omega, compL_tot, intL_map] at c10
  have T3 := T3.sub u5
  have c2 := u5 _ _ c2
  have c5 := u5 _ _ c5
  have c6 := u5 _ _ c6
  have c7 := u5 _ _ c7
  refine seqQ_next ?_
  refine S_last ?_
  refine S_Return ?_
  refine E_And ?_
  repeat walk_at "s1"
  refine WN_call ?_
  refine in_time_call B (seq_of c7) (seq_of c5) (seq_of c6) (by omega) hhl hrange (by omega) (at0_nonneg hnn) fun τ6 b u6 hb => ?_
  have hb := hb.mpr (An.feas hperm)
  subst hb
  have T3 := T3.sub u6
  have c2 := u6 _ _ c2
  have c5 := u6 _ _ c5
  have c6 := u6 _ _ c6
  have c10 := u6 _ _ c10
  repeat walk_at "s1"
  refine andV_true ?_
  refine E_And1 ?_
  refine E_Compare ?_ rfl
  repeat walk_at "s1"
  refine WN_call ?_
  refine least_call B (seq_of c5) (seq_of c6) (by omega) hhl An fun τ7 eA u7 c11 => ?_
  have c10 := u7 _ _ c10
  refine cmp_lists_eq (n := 0) (e := fun _ => true) (seq_of c10) (seq_of c11) rfl (fun j p q hp hq => ?_) (by omega) ?_
  · rw [hp] at hq; cases hq
    unfold intL at hp
    rw [List.getElem?_map] at hp
    obtain ⟨i, _, e⟩ := Option.map_eq_some_iff.mp hp
    subst e
    have := EqR.int (σ := τ7) (n := 0) i i
    rwa [beq_self_eq_true] at this
  · rw [show ∀ n, (List.range n).all (fun _ => true) = true from fun n => List.all_eq_true.mpr fun _ _ => rfl]
    exact hQ τ7 (T3.sub u7)
end
end Mine
end

end
section
set_option Elab.async false
set_option linter.unusedVariables false
set_option linter.unusedSectionVars false
set_option linter.unusedSimpArgs false
set_option maxRecDepth 100000
section
open PySem PySem.W
set_option Elab.async false
set_option linter.unusedVariables false
set_option maxRecDepth 100000
namespace Mine
theorem mg_is {p : Params} {h : Heap} {ob : Obj} {n : Nat} (K : h.get? mainGlobals = some ob) (hd : ob.data = .dict (esW p) n) {mg : Str → Option Value} (hn : h.Ns mainGlobals mg) : mg = mgW p := by
  obtain ⟨o, es, ep, h1, h2, _, h3⟩ := hn
  rw [K] at h1
  have e := Option.some.inj h1
  subst e
  rw [hd] at h2
  injection h2 with e1 e2
  subst e1
  funext x
  exact (h3 x).symm
abbrev tabs03 : List (Addr × Addr) := [(66, 62), (71, 69)]
theorem finish03 {w : World} {s₁ : Shared} {mg mb : Str → Option Value} {items : Array Value} {ns : List Int} (hT : TabsAt tabs03 s₁.heap) (hB : ∀ mg, mg = mgW w.params → s₁.heap.Ns mainGlobals mg → Bs ⟨PySem.Challenge.rw_dn0048_03.row.prog, w, ghostOf s₁.heap tabs03, s₁.os, mg, mb⟩) (hmg : mg = mgW w.params) (hn : s₁.heap.Ns mainGlobals mg)
    (hobj : s₁.heap.get? 88 = some { cls := .type "list", data := .seq items }) (hI : PyProof.Rows.IntsAre items.toList ns) (hz : ns.length ≤ 63) (hg : s₁.gens = #[]) (htk : 0 < s₁.toks) :
    wpAny (model PySem.Challenge.rw_dn0048_03.row.prog w) callerA (call (.ref 87) [.ref 88]) (fun v s' => v = .bool true ∧ (∀ b o, b ∉ tabs03.map (·.2) → s₁.heap.get? b = some o → s'.heap.get? b = some o) ∧ (∀ b ∈ tabs03.map (·.2), ∃ tb, s'.heap.get? b = some (tabObj tb)) ∧ s'.os = s₁.os ∧ s'.gens = #[]) (fun _ _ => False) s₁ := by
  subst hmg
  have B : Bs (G w (ghostOf s₁.heap tabs03) s₁.os mb) := hB _ rfl hn
  have C := law_call B (n := 10) (sc := 88) (ns := ns) (σ := ((AHeap.set (fun _ => none) 88 (.rlist (intL ns))).set 62 (.raw (tabObj #[]))).set 69 (.raw (tabObj #[]))) (seq_ofr (at_set_ne (by decide) (at_set_ne (by decide) at_set_same))) hz (at_set_ne (by decide) at_set_same) at_set_same (Q := fun p τ => p = .bool true ∧ Tabs τ) (fun τ T => ⟨rfl, T⟩)
  refine wpAny_call (codeAny_mono (C callerA [] [] s₁ [.ref 88] [] ?_ ?_ (.cons rfl .nil) .nil) fun r s' x => ?_)
  · exact ⟨fun _ => rfl, by decide +kernel, by decide +kernel⟩
  · refine ⟨fun b o h => of_hideAll _ h, hg, rfl, by simp, by simp, by simp, by simp, fun a o h => ?_, htk⟩
    by_cases h69 : a = 69
    · rw [h69, AHeap.set_same] at h; cases h; rw [h69]
      exact ⟨hideAll_none _ (by decide), (hT (71, 69) (by simp)).2, by decide⟩
    rw [AHeap.set_ne _ _ h69] at h
    by_cases h62 : a = 62
    · rw [h62, AHeap.set_same] at h; cases h; rw [h62]
      exact ⟨hideAll_none _ (by decide), (hT (66, 62) (by simp)).2, by decide⟩
    rw [AHeap.set_ne _ _ h62] at h
    by_cases ha : a = 88
    · rw [ha, AHeap.set_same] at h
      cases h
      rw [ha]
      exact ⟨items.toList, ⟨_, hobj⟩, intsAre_reps hI⟩
    · rw [AHeap.set_ne _ _ ha] at h; cases h
  · cases r with
    | error e => exact x.elim
    | ok f =>
      cases f with
      | ret v =>
        obtain ⟨p, σ', R, hv, k, q, T⟩ := x
        refine ⟨by rw [q] at hv; exact hv, fun b o hb e => R.stays _ _ (ghost_ne e hb), fun b hb => ?_, R.os, R.gens⟩
        obtain ⟨t1, e1⟩ := T.a
        obtain ⟨t2, e2⟩ := T.b
        simp only [List.map_cons, List.map_nil, List.mem_cons, List.not_mem_nil, or_false] at hb
        rcases hb with rfl | rfl
        · exact ⟨t1, (R.heap _ _ e1).2.1⟩
        · exact ⟨t2, (R.heap _ _ e2).2.1⟩
      | next => exact False.elim x
      | brk => exact False.elim x
      | cont => exact False.elim x
/-- what is old stays, but for the tables of codes -/
theorem oldK {s₁ s' : Shared} (hT : TabsAt tabs03 s₁.heap) (h1 : ∀ b o, b ∉ tabs03.map (·.2) → s₁.heap.get? b = some o → s'.heap.get? b = some o) (h2 : ∀ b ∈ tabs03.map (·.2), ∃ tb, s'.heap.get? b = some (tabObj tb)) : OldK s₁.heap s'.heap := by
  have grown : ∀ b o, b ∈ tabs03.map (·.2) → s₁.heap.get? b = some o → isCodeTable s₁.heap b ∧ o = tabObj #[] ∧ ∃ ps, s'.heap.get? b = some (tabObj ps) := fun b o hb e => by
    obtain ⟨q, hq, rfl⟩ := List.mem_map.mp hb
    have e2 := (hT q hq).2
    rw [e] at e2
    exact ⟨((hT q hq).1.tab (hT q hq).2).isCodeTable, Option.some.inj e2, h2 _ hb⟩
  refine ⟨fun b o e => ?_, fun b o e => ?_⟩
  · by_cases hb : b ∈ tabs03.map (·.2)
    · obtain ⟨ht, rfl, ps, hP⟩ := grown b o hb e
      exact .inr (.inl ⟨ht, rfl, #[], ps, rfl, by rw [Array.empty_append]; exact hP⟩)
    · exact .inl (h1 b o hb e)
  · by_cases hb : b ∈ tabs03.map (·.2)
    · obtain ⟨_, _, ps, hP⟩ := grown b o hb e
      exact ⟨_, hP⟩
    · exact ⟨o, h1 b o hb e⟩
end Mine

namespace Mine
open PySem.W.X PyProof.Rows
theorem opened (h : PySem.Challenge.rw_dn0048_03.row.wellSaid = true → PySem.Challenge.rw_dn0048_03.row.Holds) : PySem.Challenge.rw_dn0048_03.Holds := by
  o_law; exact h (by assumption)
/-- the top in one look -/
theorem left_of {p q : Program} {loose : List Str} {Xt : Shared → Bool} {α : Type} {Yf : Shared → α} {Ya : World → α} {N : Nat}
    (open_ : ∀ w : World, (fencedOpening treeTable p w N).map (fun s => (s.heap, s.gens, s.drawn, s.toks)) = some (boot_heap w.params, Array.mk [], boot_drawn, boot_toks))
    (h : ∀ (w : World) (os : OsState), (topFrom treeTable p w N ⟨boot_heap w.params, Array.mk [], boot_drawn, boot_toks, os⟩).map (fun s => (openSeen q loose (importedModules p.main.body) Xt true s, Yf s)) = some (openGood q loose, Ya w)) : LeftO p q loose Xt Yf Ya N := fun w => by
  obtain ⟨⟨h0, gs, d, k, os⟩, e, e'⟩ := Option.map_eq_some_iff.mp (open_ w)
  obtain ⟨rfl, rfl, rfl, rfl⟩ : h0 = _ ∧ gs = _ ∧ d = _ ∧ k = _ := by simpa using e'
  unfold openEnds
  rw [e]
  exact h w os
abbrev P0 : Program := PySem.Challenge.rw_dn0048_03.row.toRowW.prog
theorem boot0 : ∀ w : World, (fencedOpening treeTable P0 w 3000).map (fun s => (s.heap, s.gens, s.drawn, s.toks)) = some (boot_heap w.params, Array.mk [], boot_drawn, boot_toks) :=
  boot_open (by kernel_rfl) (by decide) (fun s => by kernel_rfl)
abbrev loose0 : List Str := ["heappush", "heappushpop", "_siftdown", "_siftup", "insort_right", "bisect_right", "cmp_to_key", "_law_kept", "_law_in_time", "_law_least"]
def code0 (nm : Str) (t : Nat) (ln n kw : Int) (a b : Nat) (c d e : Value) (k : Int) (t' : Nat) : Obj :=
  { cls := .type "code", data := .fields #[.str nm t, .str nm (t + 1), .str (Str.ofString "/claim/cut.py") (t + 2), .int ln 0, .int n 0, .int 0 0, .int kw 0, .int 3 0, .ref a, .bool true, .int 181 0, .ref b, .none, c, d, e, .int k 0, .int ln 0, .str (Str.ofString "/claim/cut.py") t'] }
def kwd0 (P : Params) (t : Nat) : Obj := { cls := .type "dict", data := .dict #[⟨PyData.keyHash P (Str.ofString "key"), .str (Str.ofString "key") t, .none⟩] 1 }
def K0 (P : Params) : Frag := [(2, { cls := .none, data := .dict #[] }),
  (3, { cls := .type "dict", data := .dict (esW P) 20 }),
  (4, { cls := .type "module", dict := some 0 }),
  (20, code0 (Str.ofString "heappush") 189 2 2 0 15 16 (.ref 17) (.ref 18) (.ref 19) 194 195),
  (21, obAt 21),
  (27, code0 (Str.ofString "heappushpop") 197 5 2 0 22 23 (.ref 24) (.ref 25) (.ref 26) 202 203),
  (28, obAt 28),
  (34, code0 (Str.ofString "_siftdown") 205 10 3 0 29 30 (.ref 31) (.ref 32) (.ref 33) 214 215),
  (35, obAt 35),
  (41, code0 (Str.ofString "_siftup") 217 21 2 0 36 37 (.ref 38) (.ref 39) (.ref 40) 227 228),
  (42, obAt 42),
  (43, obAt 43),
  (44, kwd0 P 233),
  (50, code0 (Str.ofString "insort_right") 234 36 4 1 45 46 (.ref 47) (.ref 48) (.ref 49) 242 243),
  (51, obAt 51),
  (52, obAt 52),
  (53, kwd0 P 246),
  (59, code0 (Str.ofString "bisect_right") 247 42 4 1 54 55 (.ref 56) (.ref 57) (.ref 58) 256 257),
  (60, obAt 60),
  (62, tabObj #[]),
  (66, code0 (Str.ofString "cmp_to_key") 261 63 1 0 61 62 (.ref 63) (.ref 64) (.ref 65) 267 268),
  (67, obAt 67),
  (69, tabObj #[]),
  (71, code0 (Str.ofString "_law_kept") 272 89 2 0 68 69 .none .none (.ref 70) 275 276),
  (72, obAt 72),
  (76, code0 (Str.ofString "_law_in_time") 278 105 3 0 73 74 .none .none (.ref 75) 281 282),
  (77, obAt 77),
  (81, code0 (Str.ofString "_law_least") 284 112 2 0 78 79 .none .none (.ref 80) 287 288),
  (82, obAt 82),
  (86, code0 (Str.ofString "law") 290 122 1 0 83 84 .none .none (.ref 85) 293 294),
  (87, obAt 87)]
abbrev as0 : List Addr := [2, 3, 4, 20, 21, 27, 28, 34, 35, 41, 42, 43, 44, 50, 51, 52, 53, 59, 60, 62, 66, 67, 69, 71, 72, 76, 77, 81, 82, 86, 87]
theorem head0 (w : World) (os : OsState) : (topFrom treeTable P0 w 3000 ⟨boot_heap w.params, Array.mk [], boot_drawn, boot_toks, os⟩).map (fun s => (openSeen (view P0 [14]) loose0 (importedModules P0.main.body) (fun s => xlAt (view P0 [14]) [] s && recOk (RowW.records PySem.Challenge.rw_dn0048_03.row.toRowW) s) true s, obsZ as0 s)) = some (openGood (view P0 [14]) loose0, valZ K0 88 296 w) := by
  unfold topFrom P0
  rw [PySem.W.Fast.te14082659384304107361, PySem.W.Fast.te14364793385576792824, PySem.W.Fast.te4187177175401517315, PySem.W.Fast.te5923862056798008813, PySem.W.Fast.te2368527892694137696, PySem.W.Fast.te4403033393809444775]
  kernel_rfl
end Mine
open PySem.W.X PySem.W.ZRun PyProof.Rows
set_option maxHeartbeats 8000000 in
theorem PySem.Challenge.cw_dn0048_03_holds : PySem.Challenge.rw_dn0048_03.Holds := by
  w_on
  refine Mine.opened fun said => ?_
  refine holds_openX (q := view Mine.P0 [14]) (loose := Mine.loose0) (Xt := fun s => xlAt (view Mine.P0 [14]) [] s && recOk (RowW.records PySem.Challenge.rw_dn0048_03.row.toRowW) s) (XP := XL (view Mine.P0 [14]) []) (Yf := obsZ Mine.as0) (Ya := valZ Mine.K0 88 296) (N := 3000)
    (Mine.left_of Mine.boot0 Mine.head0) (fun s e => xl_of s (Bool.and_eq_true_iff.mp e).1) XL.keeps (by rfl) (by rfl) (by rfl) (fun s e => recFacts_of (Bool.and_eq_true_iff.mp e).2) (by rfl) said (by decide +kernel) ⟨rfl, rfl, rfl, rfl, rfl, by decide +kernel⟩ ?hw ?hc
  (case hw => w_witness2)
  intro w s₀ s₁ mg mb G y fa o pm cd doc dV kV ho hd hcd hD hmg hg args vals as L hpre hlay hrd hwl hlo
  obtain ⟨_, ZI, ZN, ZT⟩ := z_facts (K := Mine.K0) (fun _ => rfl) y
  have KX : Frag.In (Mine.K0 w.params) s₁.heap := InK.keeps w _ _ ZI L.keeps
  refine Ground.open G ?_
  intro T B D TE TW
  wrow_args hpre hlay hrd hwl hlo
  obtain ⟨hat, hsz⟩ := script_at L
  have htk := script_toks L ZT
  rw [ZN] at hat hsz
  subst hat
  x_fa T KX hmg
  rename Heap.IsList _ _ _ => hL
  rename IntsAre _ _ => hI
  rename ¬ ((63 : Int) < _) => hz
  have h62 : s₁.heap.get? 62 = some (tabObj #[]) := KX 62 _ rfl
  have h69 : s₁.heap.get? 69 = some (tabObj #[]) := KX 69 _ rfl
  have h66 : CodeHd s₁.heap 66 62 := ⟨_, _, _, _, _, _, _, _, _, KX 66 _ rfl, rfl, rfl, rfl, rfl, rfl, rfl, rfl, rfl, by decide⟩
  have h71 : CodeHd s₁.heap 71 69 := ⟨_, _, _, _, _, _, _, _, _, KX 71 _ rfl, rfl, rfl, rfl, rfl, rfl, rfl, rfl, rfl, by decide⟩
  have hT : TabsAt Mine.tabs03 s₁.heap := fun q hq => by
    rcases List.mem_cons.mp hq with rfl | hq
    · exact ⟨h66, h62⟩
    · rw [List.mem_singleton.mp hq]; exact ⟨h71, h69⟩
  have hB : ∀ mg, mg = Mine.mgW w.params → s₁.heap.Ns mainGlobals mg → Mine.Bs ⟨PySem.Challenge.rw_dn0048_03.row.prog, w, ghostOf s₁.heap Mine.tabs03, s₁.os, mg, mb⟩ := by
    intro mg hm hn
    have hc66 : CodeHd (ghostOf s₁.heap Mine.tabs03) 66 62 := ⟨_, _, _, _, _, _, _, _, _, ghost_ne (KX 66 _ rfl) (by decide), rfl, rfl, rfl, rfl, rfl, rfl, rfl, rfl, by decide⟩
    have hc71 : CodeHd (ghostOf s₁.heap Mine.tabs03) 71 69 := ⟨_, _, _, _, _, _, _, _, _, ghost_ne (KX 71 _ rfl) (by decide), rfl, rfl, rfl, rfl, rfl, rfl, rfl, rfl, by decide⟩
    refine ⟨⟨ghost_ns hT hn, ghost_ns hT T.b, T.builtins, let ⟨mc, a, r⟩ := T.nolimit; ⟨mc, ghost_ns hT a, r⟩⟩, ?_, ?_, ?_, ⟨⟨hc66, ?_, by decide⟩, ?_, by decide, ?_, ?_⟩, ⟨hc71, ?_, by decide⟩⟩
    · intro a ha
      simp only [List.mem_cons, List.not_mem_nil, or_false] at ha
      rcases ha with rfl | rfl
      all_goals exact ghost_ne (KX _ _ rfl) (by decide)
    · intro a ha
      simp only [List.mem_cons, List.not_mem_nil, or_false] at ha
      rcases ha with rfl | rfl
      all_goals exact ⟨_, ⟨_, _, _, ghost_ne (KX _ _ rfl) (by decide), rfl, by intro e he; simp at he; subst he; exact ⟨_, _, rfl⟩, fun _ => rfl⟩, rfl⟩
    · intro a ha
      simp only [List.mem_cons, List.not_mem_nil, or_false] at ha
      rcases ha with rfl | rfl | rfl | rfl | rfl | rfl | rfl | rfl | rfl | rfl | rfl
      all_goals exact ⟨ghost_ne (KX _ _ rfl) (by decide), _, _, _, _, rfl, ghost_ne (KX _ _ rfl) (by decide), rfl, rfl⟩
    · exact ⟨4, _, by rw [hm]; rfl, by decide, by decide, by decide, ghost_ne (KX 4 _ rfl) (by decide), rfl, rfl, rfl⟩
    · exact ⟨_, ⟨_, _, _, ghost_ne (KX 2 _ rfl) (by decide), rfl, by intro e he; simp at he, fun _ => rfl⟩, rfl, rfl⟩
    · exact ⟨_, by rw [hm]; rfl⟩
    · rw [hm]; rfl
    · exact ⟨4, _, by rw [hm]; rfl, by decide, by decide, by decide, ghost_ne (KX 4 _ rfl) (by decide), rfl, rfl, rfl⟩
  have hmgw : mg = Mine.mgW w.params := Mine.mg_is (n := 20) (KX 3 _ rfl) rfl T.g
  refine wpAny_mono (Mine.finish03 hT hB hmgw T.g (script_obj L hL) (by simpa using hI) (by omega) hg (Nat.lt_of_lt_of_le (by decide) htk)) (fun v s' h => ?_) (fun e s' h => h.elim)
  obtain ⟨rfl, h1, h2, h3, h4⟩ := h
  refine ⟨.inl ⟨.bool true, .bool true, [], rfl, fun _ => rfl, ReadsW.bool true, ?_, fun _ => ⟨List.nodup_nil, fun _ hm => (nomatch hm)⟩⟩, Mine.oldK hT h1 h2, h3, .of_eq h4⟩
  first | rfl | wrow_post
end

end
