import PyProof.Rows.All
import Wide.All
import OpenK.AllK
import Wide.FinOn
import OpenK.ZGo
import Lean
import PySem.Challenge.RW_dn0048_05
set_option Elab.async false
set_option linter.unusedVariables false
set_option linter.unusedSectionVars false
set_option linter.unusedSimpArgs false
set_option maxRecDepth 100000
section
open PySem PySem.W PyProof.Rows
set_option Elab.async false
set_option linter.unusedVariables false
namespace Mine

theorem runs_toks {M : Model} {Γ : Ctx} {p : Pos} {t : Sem PySem.Fin} {fs : List Frame} {s : Shared} {e : End} {s' : Shared} (h : Runs M Γ p t fs s e s') : s.toks ≤ s'.toks := by
  induction h <;> first
    | exact Nat.le_refl _
    | assumption
    | (rename_i h1 h2; exact Nat.le_trans h1 h2)
    | (simp only [setGen_toks] at *; omega)
    | (rename_i h1; exact Nat.le_trans (Nat.le_succ _) h1)
theorem wakes_toks {M : Model} {Γ : Ctx} {p : Pos} {g : Nat} {r : Resume} {s : Shared} {res : GenResult} {s' : Shared} (h : Wakes M Γ p g r s res s') : s.toks ≤ s'.toks := by
  unfold Wakes at h
  split at h
  · exact h.elim
  · split at h
    · obtain ⟨e₁, s₁, h1, _, _, rfl⟩ := h; have := runs_toks h1; exact this
    · obtain ⟨_, rfl⟩ := h; exact Nat.le_refl _
    · obtain ⟨_, rfl⟩ := h; exact Nat.le_refl _
  · obtain ⟨e₁, s₁, h1, _, _, rfl⟩ := h; have := runs_toks h1; exact this
  · obtain ⟨_, rfl⟩ := h; exact Nat.le_refl _
  · obtain ⟨_, rfl⟩ := h; exact Nat.le_refl _
theorem wp_toks {α : Type} (M : Model) (Γ : Ctx) (n : Nat) : ∀ (t : Sem α) (Q : α → Pos → Shared → Prop) (E : Value → Pos → Shared → Prop) (p : Pos) (s : Shared), n ≤ s.toks → Sem.wp M Γ t Q E p s →
    Sem.wp M Γ t (fun a p' s' => Q a p' s' ∧ n ≤ s'.toks) (fun e p' s' => E e p' s' ∧ n ≤ s'.toks) p s := by
  intro t
  induction t with
  | pure a => intro Q E p s hn h; rw [Sem.wp] at h ⊢; exact ⟨h, hn⟩
  | raise e => intro Q E p s hn h; rw [Sem.wp] at h ⊢; exact ⟨h, hn⟩
  | unsupported w => intro Q E p s hn h; rw [Sem.wp] at h; exact h.elim
  | finish w => intro Q E p s hn h; rw [Sem.wp] at h; exact h.elim
  | rule tag k ih => intro Q E p s hn h; rw [Sem.wp] at h ⊢; exact ih _ _ _ _ _ hn h
  | «at» tag k ih => intro Q E p s hn h; rw [Sem.wp] at h ⊢; exact ih _ _ _ _ _ hn h
  | load a part k ih => intro Q E p s hn h; rw [Sem.wp] at h ⊢; obtain ⟨o, ho, h⟩ := h; exact ⟨o, ho, ih _ _ _ _ _ hn h⟩
  | update a part f k ih => intro Q E p s hn h; rw [Sem.wp] at h ⊢; exact ⟨h.1, ih _ _ _ _ _ hn h.2⟩
  | alloc o k ih => intro Q E p s hn h; rw [Sem.wp] at h ⊢; exact ih _ _ _ _ _ hn h
  | loadIfAlive a k ih => intro Q E p s hn h; rw [Sem.wp] at h ⊢; exact ih _ _ _ _ _ hn h
  | point l k ih => intro Q E p s hn h; rw [Sem.wp] at h ⊢; exact ih _ _ _ _ _ hn h
  | register a k ih => intro Q E p s hn h; rw [Sem.wp] at h; exact h.elim
  | fresh k ih => intro Q E p s hn h; rw [Sem.wp] at h ⊢; exact ih _ _ _ _ _ (Nat.le_succ_of_le hn) h
  | ask k ih => intro Q E p s hn h; rw [Sem.wp] at h ⊢; exact ih _ _ _ _ _ hn h
  | choose src n k ih => intro Q E p s hn h; rw [Sem.wp] at h ⊢; exact ⟨h.1, ih _ _ _ _ _ hn h.2⟩
  | os q l k ih => intro Q E p s hn h; rw [Sem.wp] at h ⊢; exact ih _ _ _ _ _ hn h
  | call c hd g l k ih =>
    intro Q E p s hn h; rw [Sem.wp] at h ⊢
    obtain ⟨r, s', hr, h⟩ := h
    exact ⟨r, s', hr, ih _ _ _ _ _ (Nat.le_trans hn (runs_toks hr)) h⟩
  | handled own k ih => intro Q E p s hn h; rw [Sem.wp] at h ⊢; exact ih _ _ _ _ _ hn h
  | newGen c k ih => intro Q E p s hn h; rw [Sem.wp] at h ⊢; exact ih _ _ _ _ _ hn h
  | genState g k ih => intro Q E p s hn h; rw [Sem.wp] at h ⊢; obtain ⟨st, hst, h⟩ := h; exact ⟨st, hst, ih _ _ _ _ _ hn h⟩
  | resume g r l k ih => intro Q E p s hn h; rw [Sem.wp] at h ⊢; obtain ⟨res, s', hw, h⟩ := h; exact ⟨res, s', hw, ih _ _ _ _ _ (Nat.le_trans hn (wakes_toks hw)) h⟩
  | yield v g l k ih => intro Q E p s hn h; rw [Sem.wp] at h; exact h.elim
  | stack k ih => intro Q E p s hn h; rw [Sem.wp] at h ⊢; exact ih _ _ _ _ _ hn h
  | fork c k ih => intro Q E p s hn h; rw [Sem.wp] at h; exact h.elim
  | thread k ih => intro Q E p s hn h; rw [Sem.wp] at h ⊢; exact ih _ _ _ _ _ hn h
  | await a tk d l k ih => intro Q E p s hn h; rw [Sem.wp] at h; exact h.elim
theorem wpAny_toks {α : Type} {M : Model} {A : Around} {t : Sem α} {Q : α → Shared → Prop} {E : Value → Shared → Prop} {s : Shared} (h : wpAny M A t Q E s) :
    wpAny M A t (fun a s' => Q a s' ∧ s.toks ≤ s'.toks) (fun e s' => E e s' ∧ s.toks ≤ s'.toks) s := fun Γ p hΓ => wp_toks M Γ s.toks t _ _ p s (Nat.le_refl _) (h Γ p hΓ)
theorem newFunctionEnv_cells_toks {M : Model} {A : Around} {E : Value → Shared → Prop} {s : Shared} {scope : Scope} {globals : Addr} {binds : List (Str × Value)} {qual : Str} {func : Option Addr} {code : Value} {builtins : Addr} {Q : Env → Shared → Prop}
    (hk : scope.kind = .function)
    (hkind : ∀ x ∈ binds, scope.names.lookup x.1 = some .local ∨ (scope.names.lookup x.1 = some .cell ∧ ((cellsFrom (s.heap.objs.size + 1) scope.names []).lookup x.1).isSome = true))
    (hQ : ∀ env, env = newEnv scope s.heap.objs.size globals (cellsFrom (s.heap.objs.size + 1) scope.names []) qual func code none builtins →
      ∀ s', InCallC s env.locals (bindL env.kindOf binds fun _ => none) env.cells (bindC env.kindOf binds fun _ => none) s' → s.toks ≤ s'.toks → Q env s') :
    wpAny M A (newFunctionEnv scope globals [] binds qual func code none builtins) Q E s :=
  wpAny_mono (wpAny_toks (E := E) (Q := fun env s' => env = newEnv scope s.heap.objs.size globals (cellsFrom (s.heap.objs.size + 1) scope.names []) qual func code none builtins ∧ InCallC s env.locals (bindL env.kindOf binds fun _ => none) env.cells (bindC env.kindOf binds fun _ => none) s')
    (wpAny_newFunctionEnv_cells hk hkind fun env he s' hin => ⟨he, hin⟩)) (fun env s' h => hQ env h.1.1 s' h.1.2 h.2) fun _ _ x => x.1
end Mine
end
section
open PySem PySem.W PyProof.Rows
set_option Elab.async false
set_option linter.unusedVariables false
namespace Mine

/-- plain values -/
inductive PV where
  | none | bool (b : Bool) | int (i : Int) | str (s : Str) (t : Tok) | ref (a : Addr) | ty (n : String) | bi (n : String) | tup (l : List PV)
  deriving Inhabited

/-- a plain list, a plain tuple -/
def LI (h : Heap) (a : Addr) (vs : List Value) : Prop := ∃ n, h.get? a = some { cls := .type "list", dict := none, data := .seq vs.toArray n, slots := #[] }
def TU (h : Heap) (a : Addr) (vs : List Value) : Prop := ∃ n, h.get? a = some { cls := .type "tuple", dict := none, data := .seq vs.toArray n, slots := #[] }

mutual
def VRep (h : Heap) : PV → Value → Prop
  | .none, v => v = .none
  | .bool b, v => v = .bool b
  | .int i, v => ∃ t, v = .int i t
  | .str x t, v => v = .str x t
  | .ref a, v => v = .ref a
  | .ty n, v => v = .type n
  | .bi n, v => v = .builtin n
  | .tup l, v => ∃ a vs, v = .ref a ∧ TU h a vs ∧ VReps h l vs
def VReps (h : Heap) : List PV → List Value → Prop
  | [], vs => vs = []
  | p :: ps, vs => ∃ v r, vs = v :: r ∧ VRep h p v ∧ VReps h ps r
end

def Keeps (h h' : Heap) : Prop := ∀ a vs, TU h a vs → TU h' a vs
theorem Keeps.refl (h : Heap) : Keeps h h := fun _ _ x => x
theorem Keeps.trans {h₁ h₂ h₃ : Heap} (x : Keeps h₁ h₂) (y : Keeps h₂ h₃) : Keeps h₁ h₃ := fun a vs e => y a vs (x a vs e)

mutual
theorem VRep.mono {h h' : Heap} (k : Keeps h h') : ∀ {p : PV} {v : Value}, VRep h p v → VRep h' p v
  | .none, _, x | .bool _, _, x | .int _, _, x | .str _ _, _, x | .ref _, _, x | .ty _, _, x | .bi _, _, x => by simpa only [VRep] using x
  | .tup l, v, x => by
    simp only [VRep] at x ⊢
    obtain ⟨a, vs, e, ht, hr⟩ := x
    exact ⟨a, vs, e, k _ _ ht, VReps.mono k hr⟩
theorem VReps.mono {h h' : Heap} (k : Keeps h h') : ∀ {ps : List PV} {vs : List Value}, VReps h ps vs → VReps h' ps vs
  | [], _, x => by simpa only [VReps] using x
  | p :: ps, vs, x => by
    simp only [VReps] at x ⊢
    obtain ⟨v, r, e, h1, h2⟩ := x
    exact ⟨v, r, e, VRep.mono k h1, VReps.mono k h2⟩
end

theorem VReps.nil {h : Heap} : VReps h [] [] := by simp only [VReps]
theorem VReps.cons {h : Heap} {p ps v vs} (a : VRep h p v) (b : VReps h ps vs) : VReps h (p :: ps) (v :: vs) := by
  simp only [VReps]; exact ⟨v, vs, rfl, a, b⟩
theorem VReps.nil_inv {h : Heap} {vs} (x : VReps h [] vs) : vs = [] := by simpa only [VReps] using x
theorem VReps.cons_inv {h : Heap} {p ps vs} (x : VReps h (p :: ps) vs) : ∃ v r, vs = v :: r ∧ VRep h p v ∧ VReps h ps r := by simpa only [VReps] using x
theorem VReps.length {h : Heap} : ∀ {ps vs}, VReps h ps vs → vs.length = ps.length
  | [], _, x => by rw [x.nil_inv]; rfl
  | p :: ps, vs, x => by obtain ⟨v, r, rfl, _, h2⟩ := x.cons_inv; simp [h2.length]
theorem VReps.get {h : Heap} : ∀ {ps vs}, VReps h ps vs → ∀ (i : Nat) (p : PV), ps[i]? = some p → ∃ v, vs[i]? = some v ∧ VRep h p v
  | [], _, _, i, p, e => by simp at e
  | q :: ps, vs, x, i, p, e => by
    obtain ⟨v, r, rfl, h1, h2⟩ := x.cons_inv
    cases i with
    | zero => simp at e; subst e; exact ⟨v, by simp, h1⟩
    | succ j => simp at e; obtain ⟨v', a, b⟩ := h2.get j p e; exact ⟨v', by simpa using a, b⟩
theorem VReps.append {h : Heap} : ∀ {ps vs qs ws}, VReps h ps vs → VReps h qs ws → VReps h (ps ++ qs) (vs ++ ws)
  | [], _, _, _, x, y => by rw [x.nil_inv]; exact y
  | p :: ps, vs, _, _, x, y => by obtain ⟨v, r, rfl, h1, h2⟩ := x.cons_inv; exact .cons h1 (h2.append y)
theorem VReps.take {h : Heap} : ∀ {ps vs} (n : Nat), VReps h ps vs → VReps h (ps.take n) (vs.take n)
  | [], _, n, x => by rw [x.nil_inv]; simpa using VReps.nil
  | p :: ps, vs, n, x => by
    obtain ⟨v, r, rfl, h1, h2⟩ := x.cons_inv
    cases n with
    | zero => simpa using VReps.nil
    | succ n => exact .cons h1 (h2.take n)
theorem VReps.drop {h : Heap} : ∀ {ps vs} (n : Nat), VReps h ps vs → VReps h (ps.drop n) (vs.drop n)
  | [], _, n, x => by rw [x.nil_inv]; simpa using VReps.nil
  | p :: ps, vs, n, x => by
    obtain ⟨v, r, rfl, h1, h2⟩ := x.cons_inv
    cases n with
    | zero => exact .cons h1 h2
    | succ n => exact h2.drop n
theorem VReps.set {h : Heap} : ∀ {ps vs} (n : Nat) {p v}, VReps h ps vs → VRep h p v → VReps h (ps.set n p) (vs.set n v)
  | [], _, n, _, _, x, _ => by rw [x.nil_inv]; simpa using VReps.nil
  | q :: ps, vs, n, p, v, x, y => by
    obtain ⟨v', r, rfl, h1, h2⟩ := x.cons_inv
    cases n with
    | zero => exact .cons y h2
    | succ n => exact .cons h1 (h2.set n y)
theorem VReps.of_forall {h : Heap} : ∀ {ps : List PV} {vs : List Value}, vs.length = ps.length → (∀ (i : Nat) p v, ps[i]? = some p → vs[i]? = some v → VRep h p v) → VReps h ps vs
  | [], vs, hl, _ => by rw [List.length_eq_zero_iff.mp hl]; exact .nil
  | p :: ps, [], hl, _ => by simp at hl
  | p :: ps, v :: vs, hl, f => .cons (f 0 p v (by simp) (by simp)) (.of_forall (by simpa using hl) fun i q w a b => f (i + 1) q w (by simpa using a) (by simpa using b))

/-- things that the call has made -/
inductive AObj where
  | list (l : List PV)
  | rlist (l : List PV)
  | cell (v : Option PV)
  | range (a b c : Int)
  | raw (o : Obj)

def OptRep (h : Heap) : Option PV → Option Value → Prop
  | none, v => v = none
  | some p, v => ∃ x, v = some x ∧ VRep h p x

def ORep (base h : Heap) (a : Addr) : AObj → Prop
  | .list l => base.get? a = none ∧ ∃ vs, LI h a vs ∧ VReps h l vs
  | .rlist l => ∃ vs, LI h a vs ∧ VReps h l vs
  | .cell v => base.get? a = none ∧ ∃ x, h.IsCell a x ∧ OptRep h v x
  | .range x y z => base.get? a = none ∧ ∃ t u v, IsRange h a x y z t u v
  | .raw o => base.get? a = none ∧ h.get? a = some o ∧ o.cls ≠ .type "tuple"

abbrev AHeap := Addr → Option AObj
def AHeap.set (σ : AHeap) (a : Addr) (o : AObj) : AHeap := fun b => if b = a then some o else σ b
def AHeap.del (σ : AHeap) (a : Addr) : AHeap := fun b => if b = a then none else σ b
@[simp] theorem AHeap.set_same (σ : AHeap) (a : Addr) (o : AObj) : (σ.set a o) a = some o := by simp [AHeap.set]
theorem AHeap.set_ne (σ : AHeap) {a b : Addr} (o : AObj) (h : b ≠ a) : (σ.set a o) b = σ b := by simp [AHeap.set, h]
@[simp] theorem AHeap.set_set (σ : AHeap) (a : Addr) (o o' : AObj) : (σ.set a o).set a o' = σ.set a o' := by
  funext b; simp only [AHeap.set]; split <;> rfl
theorem AHeap.set_comm (σ : AHeap) {a b : Addr} (o o' : AObj) (h : a ≠ b) : (σ.set a o).set b o' = (σ.set b o').set a o := by
  funext c; simp only [AHeap.set]; split <;> split <;> first | rfl | (subst_vars; exact absurd rfl h)
theorem AHeap.set_self (σ : AHeap) {a : Addr} {o : AObj} (h : σ a = some o) : σ.set a o = σ := by
  funext b; simp only [AHeap.set]; split
  · subst_vars; exact h.symm
  · rfl
def AHeap.Sub (σ σ' : AHeap) : Prop := ∀ a o, σ a = some o → σ' a = some o
theorem AHeap.Sub.refl (σ : AHeap) : σ.Sub σ := fun _ _ x => x
theorem AHeap.sub_set {σ : AHeap} {a : Addr} (o : AObj) (h : σ a = none) : σ.Sub (σ.set a o) := fun b o' e => by
  rw [AHeap.set_ne]; exact e
  intro q; subst q; rw [h] at e; cases e

abbrev Locals := List (Str × PV)
def setL (x : Str) (p : PV) : Locals → Locals
  | [] => [(x, p)]
  | (y, q) :: r => if x = y then (x, p) :: r else (y, q) :: setL x p r
theorem lookup_setL (x y : Str) (p : PV) : ∀ μ : Locals, (setL x p μ).lookup y = if y = x then some p else μ.lookup y
  | [] => by
    simp only [setL, List.lookup_cons, List.lookup_nil]
    by_cases h : y = x
    · simp [h]
    · have : (y == x) = false := beq_eq_false_iff_ne.mpr h
      simp [this, h]
  | (z, q) :: r => by
    unfold setL
    by_cases hz : x = z
    · subst hz
      simp only [if_true, List.lookup_cons]
      by_cases h : y = x
      · simp [h]
      · have : (y == x) = false := beq_eq_false_iff_ne.mpr h
        simp [this, h]
    · simp only [hz, if_false, List.lookup_cons]
      by_cases h : y = z
      · subst h
        have hn : ¬ y = x := fun e => hz e.symm
        simp [hn]
      · have : (y == z) = false := beq_eq_false_iff_ne.mpr h
        simp only [this]
        exact lookup_setL x y p r

abbrev St := Locals × AHeap

structure FrameOk (base h : Heap) (L : Addr) (μ : Locals) : Prop where
  new : base.get? L = none
  ns : ∃ m, h.Ns L m ∧ ∀ x p, μ.lookup x = some p → ∃ v, m x = some v ∧ VRep h p v

structure Rep (base : Heap) (os₀ : OsState) (hs : List (Addr × Obj)) (stk : List (Addr × Locals)) (σ : AHeap) (s : Shared) : Prop where
  stays : base.StaysIn s.heap
  gens : s.gens = #[]
  os : s.os = os₀
  hid : ∀ p ∈ hs, s.heap.get? p.1 = some p.2 ∧ base.get? p.1 = none ∧ σ p.1 = none ∧ p.1 ∉ stk.map (·.1) ∧ True
  frames : ∀ f ∈ stk, FrameOk base s.heap f.1 f.2 ∧ σ f.1 = none
  nodup : (stk.map (·.1)).Nodup
  hnd : (hs.map (·.1)).Nodup
  heap : ∀ a o, σ a = some o → ORep base s.heap a o
  tk : 0 < s.toks

theorem ORep.there {base h : Heap} {a : Addr} {o : AObj} (x : ORep base h a o) : ∃ ob, h.get? a = some ob ∧ ob.cls ≠ .type "tuple" ∨ (∃ v, h.IsCell a v) := by
  cases o with
  | list l => obtain ⟨_, vs, ⟨n, h1⟩, _⟩ := x; exact ⟨_, .inl ⟨h1, by show Value.type "list" ≠ Value.type "tuple"; decide⟩⟩
  | rlist l => obtain ⟨vs, ⟨n, h1⟩, _⟩ := x; exact ⟨_, .inl ⟨h1, by show Value.type "list" ≠ Value.type "tuple"; decide⟩⟩
  | cell v => obtain ⟨_, x, h1, _⟩ := x; exact ⟨default, .inr ⟨x, h1⟩⟩
  | range x y z => obtain ⟨_, t, u, v, h1⟩ := x; exact ⟨_, .inl ⟨h1, by show Value.type "range" ≠ Value.type "tuple"; decide⟩⟩
  | raw o => exact ⟨o, .inl ⟨x.2.1, x.2.2⟩⟩
theorem ORep.lt {base h : Heap} {a : Addr} {o : AObj} (x : ORep base h a o) : a < h.objs.size := by
  obtain ⟨ob, h1 | ⟨v, ob, h1, _⟩⟩ := x.there
  · exact Heap.lt_size h1.1
  · exact Heap.lt_size h1

/-- h' keeps what h holds, but for a -/
theorem OptRep.mono {h h' : Heap} (k : Keeps h h') {o : Option PV} {v : Option Value} (x : OptRep h o v) : OptRep h' o v := by
  cases o with
  | none => exact x
  | some p => obtain ⟨y, e, r⟩ := x; exact ⟨y, e, r.mono k⟩
theorem ORep.mono {base h h' : Heap} {a : Addr} {o : AObj} (x : ORep base h a o) (k : Keeps h h') (hk : ∀ ob, h.get? a = some ob → h'.get? a = some ob) : ORep base h' a o := by
  cases o with
  | list l => obtain ⟨h0, vs, ⟨n, h1⟩, h3⟩ := x; exact ⟨h0, vs, ⟨n, hk _ h1⟩, h3.mono k⟩
  | rlist l => obtain ⟨vs, ⟨n, h1⟩, h3⟩ := x; exact ⟨vs, ⟨n, hk _ h1⟩, h3.mono k⟩
  | cell v => obtain ⟨h0, y, ⟨ob, h1, h2⟩, h3⟩ := x; exact ⟨h0, y, ⟨ob, hk _ h1, h2⟩, h3.mono k⟩
  | range x y z => obtain ⟨h0, t, u, v, h1⟩ := x; exact ⟨h0, t, u, v, hk _ h1⟩
  | raw o => exact ⟨x.1, hk _ x.2.1, x.2.2⟩
theorem FrameOk.mono {base h h' : Heap} {L : Addr} {μ : Locals} (x : FrameOk base h L μ) (k : Keeps h h') (hk : ∀ ob, h.get? L = some ob → h'.get? L = some ob) : FrameOk base h' L μ := by
  obtain ⟨h0, m, ⟨ob, es, ep, h1, h2⟩, h3⟩ := x
  exact ⟨h0, m, ⟨ob, es, ep, hk _ h1, h2⟩, fun x p e => let ⟨v, a, b⟩ := h3 x p e; ⟨v, a, b.mono k⟩⟩
theorem FrameOk.lt {base h : Heap} {L : Addr} {μ : Locals} (x : FrameOk base h L μ) : L < h.objs.size := by
  obtain ⟨_, m, hn, _⟩ := x; exact hn.lt

section
variable {base : Heap} {os₀ : OsState} {hid : List (Addr × Obj)} {stk : List (Addr × Locals)} {σ : AHeap} {s : Shared}

/-- nothing that stood has changed -/
theorem Rep.grow (R : Rep base os₀ hid stk σ s) {s' : Shared} (hk : ∀ b o, s.heap.get? b = some o → s'.heap.get? b = some o) (hg : s'.gens = s.gens) (ho : s'.os = s.os) (ht : s.toks ≤ s'.toks := by first | exact Nat.le_refl _ | exact Nat.le_succ _ | assumption | (simp only; omega)) : Rep base os₀ hid stk σ s' := by
  have k : Keeps s.heap s'.heap := fun a vs ⟨n, h1⟩ => ⟨n, hk _ _ h1⟩
  exact ⟨fun b o e => hk _ _ (R.stays b o e), hg.trans R.gens, ho.trans R.os, fun p hp => let ⟨a, b⟩ := R.hid p hp; ⟨hk _ _ a, b⟩,
    fun f hf => ⟨(R.frames f hf).1.mono k fun _ => hk _ _, (R.frames f hf).2⟩, R.nodup, R.hnd, fun a o e => (R.heap a o e).mono k fun _ => hk _ _, Nat.lt_of_lt_of_le R.tk ht⟩

theorem Rep.weaken (R : Rep base os₀ hid stk σ s) {σ' : AHeap} (h : σ'.Sub σ) : Rep base os₀ hid stk σ' s := by
  have hn : ∀ a, σ a = none → σ' a = none := fun a e => by
    cases q : σ' a with
    | none => rfl
    | some o => rw [h _ _ q] at e; cases e
  exact ⟨R.stays, R.gens, R.os, fun p hp => let ⟨a, b, c, d⟩ := R.hid p hp; ⟨a, b, hn _ c, d⟩, fun f hf => ⟨(R.frames f hf).1, hn _ (R.frames f hf).2⟩, R.nodup, R.hnd, fun a o e => R.heap a o (h a o e), R.tk⟩

theorem Rep.locals {L : Addr} {μ μ' : Locals} (R : Rep base os₀ hid ((L, μ) :: stk) σ s) (h : ∀ x p, μ'.lookup x = some p → μ.lookup x = some p) : Rep base os₀ hid ((L, μ') :: stk) σ s := by
  refine ⟨R.stays, R.gens, R.os, R.hid, fun f hf => ?_, R.nodup, R.hnd, R.heap, R.tk⟩
  rcases List.mem_cons.mp hf with rfl | hf
  · obtain ⟨⟨h0, m, hn, h3⟩, h4⟩ := R.frames (L, μ) (List.mem_cons_self ..)
    exact ⟨⟨h0, m, hn, fun x p e => h3 x p (h x p e)⟩, h4⟩
  · exact R.frames f (List.mem_cons_of_mem _ hf)

/-- an address at which nothing told stands but σ's own -/
theorem Rep.put (R : Rep base os₀ hid stk σ s) {s' : Shared} {a : Addr} {o : AObj} (hk : ∀ b ob, b ≠ a → s.heap.get? b = some ob → s'.heap.get? b = some ob)
    (hnt : ∀ vs, ¬ TU s.heap a vs) (hb : base.get? a = none) (hh : ∀ p ∈ hid, p.1 ≠ a) (hs : ∀ f ∈ stk, f.1 ≠ a)
    (hn : ORep base s'.heap a o) (hg : s'.gens = s.gens) (ho : s'.os = s.os) (ht : s.toks ≤ s'.toks := by first | exact Nat.le_refl _ | exact Nat.le_succ _ | assumption | (simp only; omega)) : Rep base os₀ hid stk (σ.set a o) s' := by
  have k : Keeps s.heap s'.heap := fun b vs ⟨n, h1⟩ => ⟨n, hk _ _ (fun e => hnt vs (e ▸ ⟨n, h1⟩)) h1⟩
  refine ⟨fun b ob e => hk _ _ (fun q => ?_) (R.stays b ob e), hg.trans R.gens, ho.trans R.os, fun p hp => ?_, fun f hf => ?_, R.nodup, R.hnd, fun b ob e => ?_, Nat.lt_of_lt_of_le R.tk ht⟩
  · subst q; rw [hb] at e; cases e
  · obtain ⟨a1, b1, c1, d1⟩ := R.hid p hp
    exact ⟨hk _ _ (hh p hp) a1, b1, by rw [AHeap.set_ne _ _ (hh p hp)]; exact c1, d1⟩
  · exact ⟨(R.frames f hf).1.mono k fun _ => hk _ _ (hs f hf), by rw [AHeap.set_ne _ _ (hs f hf)]; exact (R.frames f hf).2⟩
  · by_cases q : b = a
    · subst q; rw [AHeap.set_same] at e; cases e; exact hn
    · rw [AHeap.set_ne _ _ q] at e; exact (R.heap b ob e).mono k fun _ => hk _ _ q

theorem Rep.hid_ne (R : Rep base os₀ hid stk σ s) {a : Addr} {o : AObj} (h : σ a = some o) : ∀ p ∈ hid, p.1 ≠ a := fun p hp q => by
  have := (R.hid p hp).2.2.1; rw [q, h] at this; cases this
theorem Rep.stk_ne (R : Rep base os₀ hid stk σ s) {a : Addr} {o : AObj} (h : σ a = some o) : ∀ f ∈ stk, f.1 ≠ a := fun p hp q => by
  have := (R.frames p hp).2; rw [q, h] at this; cases this

theorem Rep.fresh_hid (R : Rep base os₀ hid stk σ s) : ∀ p ∈ hid, p.1 ≠ s.heap.objs.size := fun p hp => Nat.ne_of_lt (Heap.lt_size (R.hid p hp).1)
theorem Rep.fresh_stk (R : Rep base os₀ hid stk σ s) : ∀ f ∈ stk, f.1 ≠ s.heap.objs.size := fun p hp => Nat.ne_of_lt (R.frames p hp).1.lt
theorem Rep.fresh_σ (R : Rep base os₀ hid stk σ s) : σ s.heap.objs.size = none := by
  cases q : σ s.heap.objs.size with
  | none => rfl
  | some o => exact absurd (R.heap _ _ q).lt (Nat.lt_irrefl _)
theorem Rep.fresh_base (R : Rep base os₀ hid stk σ s) : base.get? s.heap.objs.size = none := R.stays.fresh

/-- a new object -/
theorem Rep.alloc (R : Rep base os₀ hid stk σ s) {ob : Obj} {o : AObj} (hn : ORep base (s.heap.push ob) s.heap.objs.size o) :
    Rep base os₀ hid stk (σ.set s.heap.objs.size o) { s with heap := s.heap.push ob } :=
  R.put (fun b ob' _ e => Heap.get?_push_of_some _ e) (fun vs ⟨_, h1⟩ => absurd (Heap.lt_size h1) (Nat.lt_irrefl _)) R.fresh_base R.fresh_hid R.fresh_stk hn rfl rfl

theorem Keeps.push (h : Heap) (o : Obj) : Keeps h (h.push o) := fun _ _ ⟨n, x⟩ => ⟨n, Heap.get?_push_of_some o x⟩

/-- a name stored -/
theorem Rep.store {L : Addr} {μ : Locals} (R : Rep base os₀ hid ((L, μ) :: stk) σ s) {x : Str} {p : PV} {v : Value} {h' : Heap} {tk : Nat} {m : Str → Option Value} (hm : s.heap.Ns L m)
    (hmm : ∀ x p, μ.lookup x = some p → ∃ v, m x = some v ∧ VRep s.heap p v)
    (hn : h'.Ns L (fun y => if y = x then some v else m y)) (hs : Heap.SameBut L s.heap h') (hv : VRep s.heap p v) (ht : s.toks ≤ tk := by first | exact Nat.le_refl _ | exact Nat.le_succ _) :
    Rep base os₀ hid ((L, setL x p μ) :: stk) σ { s with heap := h', toks := tk } ∧ Keeps s.heap h' := by
  have hnt : ∀ vs, ¬ TU s.heap L vs := fun vs ⟨n, h1⟩ => by
    obtain ⟨o', es, ep, h3, h4, _⟩ := hm
    rw [h1] at h3; cases h3; cases h4
  have hk : ∀ b ob, b ≠ L → s.heap.get? b = some ob → h'.get? b = some ob := fun b ob hb e => (hs.2 b hb).trans e
  have k : Keeps s.heap h' := fun b vs ⟨n, h1⟩ => ⟨n, hk _ _ (fun e => hnt vs (e ▸ ⟨n, h1⟩)) h1⟩
  have hLf := R.frames (L, μ) (List.mem_cons_self ..)
  refine ⟨⟨fun b ob e => hk _ _ (fun q => ?_) (R.stays b ob e), R.gens, R.os, fun p hp => ?_, fun f hf => ?_, R.nodup, R.hnd, fun b ob e => ?_, Nat.lt_of_lt_of_le R.tk ht⟩, k⟩
  · subst q; rw [hLf.1.new] at e; cases e
  · obtain ⟨a1, b1, c1, d1, e1⟩ := R.hid p hp
    exact ⟨hk _ _ (fun q => d1 (by simp [q])) a1, b1, c1, by simpa using d1, e1⟩
  · rcases List.mem_cons.mp hf with rfl | hf
    · refine ⟨⟨hLf.1.new, _, hn, fun y q e => ?_⟩, hLf.2⟩
      simp only [lookup_setL] at e
      by_cases hy : y = x
      · simp only [hy, if_true] at e ⊢; cases e; exact ⟨v, rfl, hv.mono k⟩
      · simp only [hy, if_false] at e ⊢
        obtain ⟨v', a, b⟩ := hmm y q e
        exact ⟨v', a, b.mono k⟩
    · have hne : f.1 ≠ L := fun q => by
        have := R.nodup; simp only [List.map_cons, List.nodup_cons] at this
        exact this.1 (q ▸ List.mem_map_of_mem hf)
      exact ⟨(R.frames f (List.mem_cons_of_mem _ hf)).1.mono k fun _ => hk _ _ hne, (R.frames f (List.mem_cons_of_mem _ hf)).2⟩
  · have hne : b ≠ L := fun q => by rw [q, hLf.2] at e; cases e
    exact (R.heap b ob e).mono k fun _ => hk _ _ hne
end
end Mine
end
section
open PySem PySem.W PyProof.Rows
set_option Elab.async false
set_option linter.unusedVariables false
namespace Mine

structure Lv where
  d : Nat
  calm : Bool

structure AOk (lv : Lv) (A : Around) (frs : List Env) (ls : List Addr) : Prop where
  frames : A.frames = some frs
  frs : ∀ e ∈ frs, e.scope.kind ≠ .module ∧ ∃ L, e.frame = some L ∧ L ∈ ls
  calm : lv.calm = true → A.handled = none
  depth : A.depth + lv.d ≤ 900
  units : A.units + 20 * lv.d ≤ 9000

structure COk (lv : Lv) (A : Around) (env : Env) (ls : List Addr) : Prop where
  ok : ∃ e₀ rest, AOk lv A (e₀ :: rest) (env.locals :: ls) ∧ e₀.frame = env.frame
  kind : env.scope.kind = .function
  globals : env.globals = mainGlobals
  builtins : env.builtins = builtinsNs

def Apart (base : Heap) (hid : List (Addr × Obj)) (σ : AHeap) (a : Addr) : Prop := base.get? a = none ∧ σ a = none ∧ ∀ p ∈ hid, p.1 ≠ a

/-- an exception under way -/
structure ExcAt (base : Heap) (hid : List (Addr × Obj)) (σ : AHeap) (h : Heap) (x : Addr) (cls : String) : Prop where
  apart : Apart base hid σ x
  there : ∃ ob vs, h.get? x = some ob ∧ ob.cls = .type cls ∧ ob.cls ≠ .type "tuple" ∧ ob.data = .fields vs ∧
    (vs[1]? = some .none ∨ ∃ T oT ts, vs[1]? = some (.ref T) ∧ h.get? T = some oT ∧ oT.cls ≠ .type "tuple" ∧ oT.data = .fields ts ∧ 3 < ts.size ∧ T ≠ x ∧ Apart base hid σ T)
/-- an exception that bears a traceback -/
structure ExcNoted (base : Heap) (hid : List (Addr × Obj)) (σ : AHeap) (h : Heap) (x : Addr) (cls : String) : Prop where
  apart : Apart base hid σ x
  there : ∃ ob vs T oT ts, h.get? x = some ob ∧ ob.cls = .type cls ∧ ob.cls ≠ .type "tuple" ∧ ob.data = .fields vs ∧ vs[1]? = some (.ref T) ∧ h.get? T = some oT ∧ oT.cls ≠ .type "tuple" ∧ oT.data = .fields ts ∧ 3 < ts.size ∧ T ≠ x ∧ Apart base hid σ T
theorem ExcNoted.at {base hid σ h x cls} (e : ExcNoted base hid σ h x cls) : ExcAt base hid σ h x cls := by
  obtain ⟨a, ob, vs, T, oT, ts, h1, h2, h3, h4, h5⟩ := e
  exact ⟨a, ob, vs, h1, h2, h3, h4, .inr ⟨T, oT, ts, h5⟩⟩

theorem ExcAt.map {base hid hid' σ σ' h x cls} (e : ExcAt base hid σ h x cls) (f : ∀ a, Apart base hid σ a → Apart base hid' σ' a) : ExcAt base hid' σ' h x cls := by
  obtain ⟨a, ob, vs, h1, h2, h3, h4, h5⟩ := e
  exact ⟨f _ a, ob, vs, h1, h2, h3, h4, h5.imp id fun ⟨T, oT, ts, k1, k2, k3, k4, k5, k6, k7⟩ => ⟨T, oT, ts, k1, k2, k3, k4, k5, k6, f _ k7⟩⟩
section
variable {base : Heap} {os₀ : OsState} {hid : List (Addr × Obj)} {stk : List (Addr × Locals)} {σ : AHeap} {s : Shared}

/-- an object that nothing tells of has changed -/
theorem Rep.aside (R : Rep base os₀ hid stk σ s) {s' : Shared} {a : Addr} (hk : ∀ b ob, b ≠ a → s.heap.get? b = some ob → s'.heap.get? b = some ob)
    (ha : Apart base hid σ a) (hnt : ∀ vs, ¬ TU s.heap a vs) (hs : ∀ f ∈ stk, f.1 ≠ a) (hg : s'.gens = s.gens := by rfl) (ho : s'.os = s.os := by rfl) (ht : s.toks ≤ s'.toks := by exact Nat.le_refl _) : Rep base os₀ hid stk σ s' := by
  have k : Keeps s.heap s'.heap := fun b vs ⟨n, h1⟩ => ⟨n, hk _ _ (fun e => hnt vs (e ▸ ⟨n, h1⟩)) h1⟩
  refine ⟨fun b ob e => hk _ _ (fun q => ?_) (R.stays b ob e), hg.trans R.gens, ho.trans R.os, fun p hp => ?_, fun f hf => ?_, R.nodup, R.hnd, fun b ob e => ?_, Nat.lt_of_lt_of_le R.tk ht⟩
  · subst q; rw [ha.1] at e; cases e
  · obtain ⟨a1, r⟩ := R.hid p hp
    exact ⟨hk _ _ (ha.2.2 p hp) a1, r⟩
  · exact ⟨(R.frames f hf).1.mono k fun _ => hk _ _ (hs f hf), (R.frames f hf).2⟩
  · exact (R.heap b ob e).mono k fun _ => hk _ _ (fun q => by rw [q, ha.2.1] at e; cases e)

theorem stk_not_fields (R : Rep base os₀ hid stk σ s) {a : Addr} {ob : Obj} {vs} (h : s.heap.get? a = some ob) (hd : ob.data = .fields vs) : ∀ f ∈ stk, f.1 ≠ a := fun f hf q => by
  obtain ⟨⟨_, m, ⟨o, es, ep, h1, h2, _⟩, _⟩, _⟩ := R.frames f hf
  rw [q, h] at h1; cases h1; rw [hd] at h2; cases h2
theorem not_tuple_of_cls {h : Heap} {a : Addr} {ob : Obj} (h1 : h.get? a = some ob) (h2 : ob.cls ≠ .type "tuple") : ∀ vs, ¬ TU h a vs := fun vs ⟨n, e⟩ => by
  rw [h1] at e; cases e; exact h2 rfl

/-- slots of frames alone have changed -/
theorem Rep.slots (R : Rep base os₀ hid stk σ s) {S : List Addr} {h' : Heap} (hs : Heap.SlotsOnly S s.heap h') (hS : ∀ b ∈ S, b ∈ stk.map (·.1)) :
    Rep base os₀ hid stk σ { s with heap := h' } ∧ Keeps s.heap h' := by
  have off : ∀ b, b ∉ stk.map (·.1) → h'.get? b = s.heap.get? b := fun b hb => hs.2.1 b fun q => hb (hS b q)
  have k : Keeps s.heap h' := fun b vs ⟨n, h1⟩ => ⟨n, by
    rw [off b]; exact h1
    intro q
    obtain ⟨f, hf, rfl⟩ := List.mem_map.mp q
    obtain ⟨⟨_, m, ⟨o, es, ep, h2, h3, _⟩, _⟩, _⟩ := R.frames f hf
    rw [h1] at h2; cases h2; cases h3⟩
  refine ⟨⟨fun b ob e => ?_, R.gens, R.os, fun p hp => ?_, fun f hf => ?_, R.nodup, R.hnd, fun b ob e => ?_, R.tk⟩, k⟩
  · show h'.get? b = some ob
    rw [off b]; exact R.stays b ob e
    intro hb; obtain ⟨f, hf, rfl⟩ := List.mem_map.mp hb
    rw [(R.frames f hf).1.new] at e; cases e
  · obtain ⟨a1, b1, c1, d1, e1⟩ := R.hid p hp
    exact ⟨by show h'.get? p.1 = _; rw [off _ d1]; exact a1, b1, c1, d1, e1⟩
  · obtain ⟨⟨h0, m, ⟨o, es, ep, h1, h2⟩, h3⟩, h4⟩ := R.frames f hf
    obtain ⟨sl, e⟩ := hs.2.2 _ _ h1
    exact ⟨⟨h0, m, ⟨_, es, ep, e, h2⟩, fun x p q => let ⟨v, a, b⟩ := h3 x p q; ⟨v, a, b.mono k⟩⟩, h4⟩
  · refine (R.heap b ob e).mono k fun o ho => ?_
    show h'.get? b = _
    rw [off b]; exact ho
    intro hb; obtain ⟨f, hf, rfl⟩ := List.mem_map.mp hb
    rw [(R.frames f hf).2] at e; cases e

theorem Rep.funFrames (R : Rep base os₀ hid stk σ s) : ∀ {frs : List Env}, (∀ e ∈ frs, e.scope.kind ≠ .module ∧ ∃ L, e.frame = some L ∧ L ∈ stk.map (·.1)) → s.heap.FunFrames base frs
  | [], _ => trivial
  | e :: r, h => by
    obtain ⟨h1, L, h2, h3⟩ := h e (List.mem_cons_self ..)
    obtain ⟨f, hf, rfl⟩ := List.mem_map.mp h3
    obtain ⟨⟨h0, m, ⟨o, es, ep, h4, h5, _⟩, _⟩, _⟩ := R.frames f hf
    exact ⟨h1, ⟨f.1, o, h2, h0, h4, fun vs q => by rw [h5] at q; cases q⟩, R.funFrames fun e' he => h e' (List.mem_cons_of_mem _ he)⟩

theorem frs_mem {frs : List Env} {ls : List Addr} (h : ∀ e ∈ frs, e.scope.kind ≠ .module ∧ ∃ L, e.frame = some L ∧ L ∈ ls) : ∀ b ∈ frs.filterMap (·.frame), b ∈ ls := fun b hb => by
  obtain ⟨e, he, hf⟩ := List.mem_filterMap.mp hb
  obtain ⟨_, L, h2, h3⟩ := h e he
  rw [h2] at hf; cases hf; exact h3

variable {M : Model} {A : Around} {E : Value → Shared → Prop} {lv : Lv} {env : Env} {frs : List Env}

/-- what comes after the frame's own note: a new traceback entry -/
theorem wp_entry (hA : A.frames = some frs) (hfrs : ∀ e ∈ frs, e.scope.kind ≠ .module ∧ ∃ L, e.frame = some L ∧ L ∈ stk.map (·.1)) (R : Rep base os₀ hid stk σ s)
    {e₀ : Env} {rest : List Env} (hfr : frs = e₀ :: rest) (he₀ : e₀.frame = env.frame) {F : Addr} (hF : env.frame = some F) {x : Addr} {ob : Obj} {vs : Array Value} {cls : String} {head : Value} {b : Bool}
    (hx : s.heap.get? x = some ob) (hc : ob.cls = .type cls) (hct : ob.cls ≠ .type "tuple") (hd : ob.data = .fields vs) (hsz : 1 < vs.size) (ha : Apart base hid σ x) {Q : Unit → Shared → Prop}
    (h : ∀ s', Rep base os₀ hid stk σ s' → ExcNoted base hid σ s'.heap x cls → Q () s') :
    wpAny M A (do setField (.ref x) 1 (← EntryCells.newEntry head (← PySem.frameOf env) .none (rawInt F) .none (← entryPlaceOf F b))) Q E s := by
  unfold PySem.frameOf
  refine wpAny_bind (wpAny_bind (wpAny_frameEnvs hA ?_))
  have hdw : (frs.dropWhile fun y => y.frame != env.frame) = e₀ :: rest := by rw [hfr]; simp [List.dropWhile, he₀]
  rw [hdw]
  unfold frameObject
  refine wpAny_bind (wpAny_bind (wpAny_readyFrames_fun (base := base) (hfr ▸ R.funFrames hfrs) fun h₁ hs₁ => wpAny_pure ?_))
  rw [he₀, hF]
  refine wpAny_pure (wpAny_bind (wpAny_entryPlaceOf fun pl hpl => ?_))
  unfold EntryCells.newEntry newFields
  refine wpAny_bind (wpAny_newObj_type ?_ (hpl.sizeOk5 _ _ _ _ _))
  obtain ⟨R₁, k₁⟩ := R.slots hs₁ (by rw [← hfr]; exact frs_mem hfrs)
  have hxs : x ∉ stk.map (·.1) := fun q => by obtain ⟨f, hf, e⟩ := List.mem_map.mp q; exact stk_not_fields R hx hd f hf e
  have hx₁ : h₁.get? x = some ob := (hs₁.2.1 x fun q => hxs (frs_mem hfrs x (by rw [hfr]; exact q))).trans hx
  generalize hO : ({ cls := Value.type "traceback", dict := none, data := Data.fields ([head, Value.ref F, Value.none, rawInt F, Value.none] ++ (if pl.isEmpty then List.replicate 6 Value.none else pl)).toArray } : Obj) = O
  have hOf : ∃ ts, O.data = .fields ts ∧ 3 < ts.size := ⟨_, by rw [← hO], by simp only [List.size_toArray, List.length_append, List.length_cons, List.length_nil]; omega⟩
  have hOc : O.cls = .type "traceback" := by rw [← hO]
  have hOfr : O.isFreed = false := by obtain ⟨ts, e, _⟩ := hOf; exact Obj.isFreed_of_fields e
  have hTx : h₁.objs.size ≠ x := Nat.ne_of_gt (Heap.lt_size hx₁)
  refine wpAny_setField (s := { s with heap := h₁.push O }) (Heap.get?_push_of_some O hx₁) hd hsz (h _ ?_ ?_)
  · have R₂ : Rep base os₀ hid stk σ { s with heap := h₁.push O } := R₁.grow (fun _ _ e => Heap.get?_push_of_some _ e) rfl rfl
    refine (R₂.aside (a := x) (fun b ob' hb e => ?_) ha (not_tuple_of_cls (Heap.get?_push_of_some O hx₁) hct) (stk_not_fields R hx hd))
    show ((h₁.push O).update x _).get? b = _
    rw [Heap.get?_update_other _ _ (Ne.symm hb)]; exact e
  · have hd₃ := Obj.data_mapFields hd (·.setIfInBounds 1 (Value.ref h₁.objs.size))
    obtain ⟨ts, e1, e2⟩ := hOf
    refine ⟨ha, _, _, h₁.objs.size, O, ts, Heap.get?_update_self _ (Heap.get?_push_of_some O hx₁) (Obj.isFreed_of_fields hd₃), by rw [Obj.cls_mapFields]; exact hc, by rw [Obj.cls_mapFields]; exact hct, hd₃, by simp [hsz], ?_, by rw [hOc]; decide, e1, e2, hTx, R₁.fresh_base, R₁.fresh_σ, R₁.fresh_hid⟩
    rw [Heap.get?_update_other _ _ (Ne.symm hTx)]; exact Heap.get?_push_size _ hOfr

theorem wp_note (hA : A.frames = some frs) (hfrs : ∀ e ∈ frs, e.scope.kind ≠ .module ∧ ∃ L, e.frame = some L ∧ L ∈ stk.map (·.1)) (R : Rep base os₀ hid stk σ s)
    {e₀ : Env} {rest : List Env} (hfr : frs = e₀ :: rest) (he₀ : e₀.frame = env.frame) {x : Addr} {cls : String} (hx : ExcAt base hid σ s.heap x cls) {Q : Unit → Shared → Prop}
    (h : ∀ s', Rep base os₀ hid stk σ s' → ExcNoted base hid σ s'.heap x cls → Q () s') : wpAny M A (noteFrame (.ref x) env) Q E s := by
  obtain ⟨F, hF⟩ : ∃ F, env.frame = some F := by
    obtain ⟨_, L, h2, _⟩ := hfrs e₀ (by rw [hfr]; exact List.mem_cons_self ..)
    exact ⟨L, he₀ ▸ h2⟩
  obtain ⟨ha, ob, vs, h1, h2, h3, h4, h5⟩ := hx
  unfold noteFrame
  simp only [hF]
  rcases h5 with h5 | ⟨T, oT, ts, k1, k2, k3, k4, k5, k6, k7⟩
  · refine wpAny_bind (wpAny_field h1 h4 h5 ?_)
    rw [if_neg (by decide)]
    exact wp_entry hA hfrs R hfr he₀ hF h1 h2 h3 h4 (Array.getElem?_eq_some_iff.mp h5).1 ha h
  · refine wpAny_bind (wpAny_field h1 h4 k1 ?_)
    rw [if_pos (show (Value.ref T != Value.none) = true from by simp)]
    refine wpAny_bind (wpAny_field k2 k4 (x := ts[3]) (by simp [k5]) ?_)
    by_cases hq : (ts[3] == rawInt F) = true
    · rw [if_pos hq]
      exact wpAny_pure (h s R ⟨ha, ob, vs, T, oT, ts, h1, h2, h3, h4, k1, k2, k3, k4, k5, k6, k7⟩)
    · rw [if_neg hq]
      refine wpAny_bind (wpAny_setField k2 k4 k5 ?_)
      have other : ∀ b, b ≠ T → (s.heap.update T (Obj.mapFields (·.setIfInBounds 3 Value.none))).get? b = s.heap.get? b := fun b hb => Heap.get?_update_other _ _ (Ne.symm hb)
      have R' := (R.aside (s' := { s with heap := s.heap.update T (Obj.mapFields (·.setIfInBounds 3 Value.none)) }) (a := T) (fun b ob' hb e => (other b hb).trans e) k7 (not_tuple_of_cls k2 k3) (stk_not_fields R k2 k4))
      exact wp_entry hA hfrs R' hfr he₀ hF ((other x (Ne.symm k6)).trans h1) h2 h3 h4 (Array.getElem?_eq_some_iff.mp k1).1 ha h

theorem wp_flight (R : Rep base os₀ hid stk σ s) {x : Addr} {cls : String} (hx : ExcNoted base hid σ s.heap x cls) {fr : Option Addr} {Q : Unit → Shared → Prop}
    (h : ∀ s', Rep base os₀ hid stk σ s' → ExcNoted base hid σ s'.heap x cls → Q () s') : wpAny M A (setFlight (.ref x) fr) Q E s := by
  obtain ⟨ha, ob, vs, T, oT, ts, h1, h2, h3, h4, k1, k2, k3, k4, k5, k6, k7⟩ := hx
  unfold setFlight
  refine wpAny_bind (wpAny_field h1 h4 k1 ?_)
  rw [if_pos (show (Value.ref T != Value.none) = true from by simp)]
  refine wpAny_setField k2 k4 k5 (h _ ?_ ?_)
  · exact (R.aside (s' := { s with heap := s.heap.update T (Obj.mapFields (·.setIfInBounds 3 (fr.elim .none fun f => rawInt f))) }) (a := T) (fun b ob' hb e => (Heap.get?_update_other _ _ (Ne.symm hb)).trans e) k7 (not_tuple_of_cls k2 k3) (stk_not_fields R k2 k4))
  · refine ⟨ha, ob, vs, T, _, _, (Heap.get?_update_other _ _ k6).trans h1, h2, h3, h4, k1, Heap.get?_update_self _ k2 (Obj.isFreed_of_fields (Obj.data_mapFields k4 _)), by rw [Obj.cls_mapFields]; exact k3, Obj.data_mapFields k4 _, by simpa using k5, k6, k7⟩

theorem wp_leaving (hA : A.frames = some frs) (hfrs : ∀ e ∈ frs, e.scope.kind ≠ .module ∧ ∃ L, e.frame = some L ∧ L ∈ stk.map (·.1)) (R : Rep base os₀ hid stk σ s)
    {e₀ : Env} {rest : List Env} (hfr : frs = e₀ :: rest) (he₀ : e₀.frame = env.frame) {x : Addr} {cls : String} (hx : ExcAt base hid σ s.heap x cls) {Q : Unit → Shared → Prop}
    (h : ∀ s', Rep base os₀ hid stk σ s' → ExcNoted base hid σ s'.heap x cls → Q () s') : wpAny M A (leaving env (.ref x)) Q E s := by
  unfold leaving
  exact wpAny_bind (wp_note hA hfrs R hfr he₀ hx fun s' R' n' => wp_flight R' n' h)

theorem wp_cameBack (R : Rep base os₀ hid stk σ s) {x : Addr} {cls : String} (hx : ExcNoted base hid σ s.heap x cls)
    (h : ∀ s', Rep base os₀ hid stk σ s' → ExcNoted base hid σ s'.heap x cls → E (.ref x) s') : cameBackBy M A env E (.ref x) s := by
  unfold cameBackBy
  obtain ⟨ha, ob, vs, T, oT, ts, h1, h2, h3, h4, k1, r⟩ := id hx
  refine wpAny_bind (wpAny_field h1 h4 k1 ?_)
  rw [if_neg (by simp)]
  exact wp_flight R hx h
end
end Mine
end
section
open PySem PySem.W PyProof.Rows
set_option Elab.async false
set_option linter.unusedVariables false
namespace Mine

structure Gx where
  prog : Program
  w : World
  base : Heap
  os : OsState
  mg : Str → Option Value
  mb : Str → Option Value

structure Gd (G : Gx) : Prop where
  g : G.base.Ns mainGlobals G.mg
  b : G.base.Ns builtinsNs G.mb
  builtins : ∀ x : Str, x ≠ "__name__" → G.mb x = bootBuiltins x
  nolimit : G.base.NoLimit

structure Cx extends Gx where
  lv : Lv
  A : Around
  env : Env

abbrev Cx.M (c : Cx) : Model := model c.prog c.w
abbrev Gx.M (c : Gx) : Model := model c.prog c.w

def Post (c : Cx) {α β : Type} (rep : Heap → β → α → Prop) (Q : β → St → Prop) (hid : List (Addr × Obj)) (stk : List (Addr × Locals)) (h : Heap) (v : α) (s' : Shared) : Prop :=
  ∃ p st', Rep c.base c.os hid ((c.env.locals, st'.1) :: stk) st'.2 s' ∧ rep s'.heap p v ∧ Keeps h s'.heap ∧ Q p st'
def PostX (c : Cx) (X : String → St → Prop) (hid : List (Addr × Obj)) (stk : List (Addr × Locals)) (e : Value) (s' : Shared) : Prop :=
  ∃ x cls st', e = .ref x ∧ Rep c.base c.os hid ((c.env.locals, st'.1) :: stk) st'.2 s' ∧ ExcAt c.base hid st'.2 s'.heap x cls ∧ X cls st'

/-- the tree t, run from st, ends as Q says or raises as X says -/
def WT (c : Cx) {α β : Type} (rep : Heap → β → α → Prop) (t : Sem α) (X : String → St → Prop) (Q : β → St → Prop) (st : St) : Prop :=
  ∀ hid stk s, COk c.lv c.A c.env (stk.map (·.1)) → Rep c.base c.os hid ((c.env.locals, st.1) :: stk) st.2 s → wpAny c.M c.A t (Post c rep Q hid stk s.heap) (PostX c X hid stk) s
/-- the same of a tree over values -/
def W1 (c : Cx) {α β : Type} (rep : Heap → β → α → Prop) (p : PV) (t : Value → Sem α) (X : String → St → Prop) (Q : β → St → Prop) (st : St) : Prop :=
  ∀ v hid stk s, COk c.lv c.A c.env (stk.map (·.1)) → Rep c.base c.os hid ((c.env.locals, st.1) :: stk) st.2 s → VRep s.heap p v → wpAny c.M c.A (t v) (Post c rep Q hid stk s.heap) (PostX c X hid stk) s
def W2 (c : Cx) {α β : Type} (rep : Heap → β → α → Prop) (p q : PV) (t : Value → Value → Sem α) (X : String → St → Prop) (Q : β → St → Prop) (st : St) : Prop :=
  ∀ v u hid stk s, COk c.lv c.A c.env (stk.map (·.1)) → Rep c.base c.os hid ((c.env.locals, st.1) :: stk) st.2 s → VRep s.heap p v → VRep s.heap q u → wpAny c.M c.A (t v u) (Post c rep Q hid stk s.heap) (PostX c X hid stk) s
def WN (c : Cx) {α β : Type} (rep : Heap → β → α → Prop) (ps : List PV) (t : List Value → Sem α) (X : String → St → Prop) (Q : β → St → Prop) (st : St) : Prop :=
  ∀ vs hid stk s, COk c.lv c.A c.env (stk.map (·.1)) → Rep c.base c.os hid ((c.env.locals, st.1) :: stk) st.2 s → VReps s.heap ps vs → wpAny c.M c.A (t vs) (Post c rep Q hid stk s.heap) (PostX c X hid stk) s

inductive AFlow where
  | next | brk | cont
  | ret (p : PV)
def FlowRep (h : Heap) : AFlow → Flow → Prop
  | .next, f => f = .next
  | .brk, f => f = .brk
  | .cont, f => f = .cont
  | .ret p, f => ∃ v, f = .ret v ∧ VRep h p v
def BoolRep (_ : Heap) (b : Bool) (v : Bool) : Prop := v = b
def UnitRep (_ : Heap) (_ : Unit) (_ : Unit) : Prop := True

abbrev WE (c : Cx) (e : Expr) (X : String → St → Prop) (Q : PV → St → Prop) (st : St) : Prop := WT c VRep (eval e c.env) X Q st
abbrev WC (c : Cx) (e : Expr) (X : String → St → Prop) (Q : Bool → St → Prop) (st : St) : Prop := WT c BoolRep (isTrue e c.env (eval e c.env)) X Q st
abbrev WS (c : Cx) (l : List Stmt) (X : String → St → Prop) (Q : AFlow → St → Prop) (st : St) : Prop := WT c FlowRep (execs l c.env) X Q st
abbrev WX (c : Cx) (l : Stmt) (X : String → St → Prop) (Q : AFlow → St → Prop) (st : St) : Prop := WT c FlowRep (exec l c.env) X Q st
abbrev WA (c : Cx) (pos : Pos) (l : List Expr) (X : String → St → Prop) (Q : List PV → St → Prop) (st : St) : Prop := WT c VReps (spliced (backTo pos (starEach l c.env))) X Q st

section
variable {c : Cx} {X : String → St → Prop} {st : St} {α β : Type} {rep : Heap → β → α → Prop} {Q : β → St → Prop}

theorem Post.keeps {c : Cx} {hid stk h h' v s'} (k : Keeps h h') (x : Post c rep Q hid stk h' v s') : Post c rep Q hid stk h v s' :=
  let ⟨p, st', a, b, k', q⟩ := x; ⟨p, st', a, b, k.trans k', q⟩

theorem WT.mono {t : Sem α} {Q Q' : β → St → Prop} {X X' : String → St → Prop} (h : WT c rep t X Q st) (hQ : ∀ p st, Q p st → Q' p st) (hX : ∀ e st, X e st → X' e st) : WT c rep t X' Q' st :=
  fun hid stk s ok R => wpAny_mono (h hid stk s ok R) (fun _ _ ⟨p, st', a, b, k, q⟩ => ⟨p, st', a, b, k, hQ _ _ q⟩) fun _ _ ⟨x, cl, st', a, b, e, q⟩ => ⟨x, cl, st', a, b, e, hX _ _ q⟩

theorem E_BinOp {l op r pos} {Q : PV → St → Prop} (h : WE c l X (fun p st₁ => WE c r X (fun q st₂ => W2 c VRep p q (binaryOp op) X Q st₂) st₁) st) : WE c (.BinOp l op r pos) X Q st :=
  fun hid stk s ok R => wpAny_BinOp (wpAny_mono (h hid stk s ok R) (fun v s₁ ⟨p, st₁, R₁, hv, k₁, h₁⟩ =>
    wpAny_mono (h₁ hid stk s₁ ok R₁) (fun u s₂ ⟨q, st₂, R₂, hu, k₂, h₂⟩ =>
      wpAny_mono (h₂ v u hid stk s₂ ok R₂ (hv.mono k₂) hu) (fun _ _ y => y.keeps (k₁.trans k₂)) fun _ _ y => y) fun _ _ y => y) fun _ _ y => y)

theorem E_Compare {l op r pos} {Q : PV → St → Prop} (h : WE c l X (fun p st₁ => WE c r X (fun q st₂ => W2 c VRep p q (compareOp op) X Q st₂) st₁) st)
    (hm : behindInMarks op r = false) : WE c (.Compare l [op] [r] pos) X Q st :=
  fun hid stk s ok R => wpAny_Compare1 (wpAny_mono (h hid stk s ok R) (fun v s₁ ⟨p, st₁, R₁, hv, k₁, h₁⟩ =>
    wpAny_mono (h₁ hid stk s₁ ok R₁) (fun u s₂ ⟨q, st₂, R₂, hu, k₂, h₂⟩ =>
      wpAny_mono (h₂ v u hid stk s₂ ok R₂ (hv.mono k₂) hu) (fun _ _ y => y.keeps (k₁.trans k₂)) fun _ _ y => y) fun _ _ y => y) fun _ _ y => y) hm

theorem E_UnaryOp {op x pos} {Q : PV → St → Prop} (h : WE c x X (fun p st₁ => W1 c VRep p (unaryOp op) X Q st₁) st) : WE c (.UnaryOp op x pos) X Q st :=
  fun hid stk s ok R => wpAny_UnaryOp (wpAny_mono (h hid stk s ok R) (fun v s₁ ⟨p, st₁, R₁, hv, k₁, h₁⟩ => wpAny_mono (h₁ v hid stk s₁ ok R₁ hv) (fun _ _ y => y.keeps k₁) fun _ _ y => y) fun _ _ y => y)

/-! conditions -/
theorem C_Compare {l op r pos} {Q : Bool → St → Prop} (h : WE c l X (fun p st₁ => WE c r X (fun q st₂ => W2 c VRep p q (compareOp op) X (fun b st₃ => W1 c BoolRep b truthy X Q st₃) st₂) st₁) st)
    (hm : behindInMarks op r = false) : WC c (.Compare l [op] [r] pos) X Q st :=
  fun hid stk s ok R => wpAny_isTrue_Compare1 (wpAny_mono (h hid stk s ok R) (fun v s₁ ⟨p, st₁, R₁, hv, k₁, h₁⟩ =>
    wpAny_mono (h₁ hid stk s₁ ok R₁) (fun u s₂ ⟨q, st₂, R₂, hu, k₂, h₂⟩ =>
      wpAny_mono (h₂ v u hid stk s₂ ok R₂ (hv.mono k₂) hu) (fun b s₃ ⟨pb, st₃, R₃, hb, k₃, h₃⟩ =>
        wpAny_mono (h₃ b hid stk s₃ ok R₃ hb) (fun _ _ y => y.keeps ((k₁.trans k₂).trans k₃)) fun _ _ y => y) fun _ _ y => y) fun _ _ y => y) fun _ _ y => y) hm
theorem C_Not {x pos} {Q : Bool → St → Prop} (h : WC c x X (fun b st₁ => Q (!b) st₁) st) : WC c (.UnaryOp .Not x pos) X Q st :=
  fun hid stk s ok R => wpAny_isTrue_Not (wpAny_mono (h hid stk s ok R) (fun v s₁ ⟨b, st₁, R₁, hv, k₁, h₁⟩ => by cases hv; exact ⟨!v, st₁, R₁, rfl, k₁, h₁⟩) fun _ _ y => y)
theorem C_value {e : Expr} {Q : Bool → St → Prop} (h : WE c e X (fun p st₁ => W1 c BoolRep p truthy X Q st₁) st)
    (he : isTrue e c.env (eval e c.env) = (do let v ← eval e c.env; standAt e.pos; holding [v] (truthy v))) : WC c e X Q st :=
  fun hid stk s ok R => wpAny_isTrue_value (wpAny_mono (h hid stk s ok R) (fun v s₁ ⟨p, st₁, R₁, hv, k₁, h₁⟩ => wpAny_mono (h₁ v hid stk s₁ ok R₁ hv) (fun _ _ y => y.keeps k₁) fun _ _ y => y) fun _ _ y => y) he
/-- allTrue, whatever the number -/
abbrev WAll (c : Cx) (op : BoolOp) (l : List Expr) (X : String → St → Prop) (Q : Bool → St → Prop) (st : St) : Prop := WT c BoolRep (allTrue op l c.env) X Q st
theorem C_BoolOp {op l pos} {Q : Bool → St → Prop} (h : WAll c op l X Q st) : WC c (.BoolOp op l pos) X Q st := fun hid stk s ok R => wpAny_isTrue_BoolOp (h hid stk s ok R)
theorem And_nil {Q : Bool → St → Prop} (h : Q true st) : WAll c .And [] X Q st := fun hid stk s ok R => wpAny_allTrue_And_nil ⟨true, st, R, rfl, .refl _, h⟩
theorem Or_nil {Q : Bool → St → Prop} (h : Q false st) : WAll c .Or [] X Q st := fun hid stk s ok R => wpAny_allTrue_Or_nil ⟨false, st, R, rfl, .refl _, h⟩
theorem And_cons {x l} {Q : Bool → St → Prop} (h : WC c x X (fun b st₁ => if b then WAll c .And l X Q st₁ else Q false st₁) st) : WAll c .And (x :: l) X Q st :=
  fun hid stk s ok R => wpAny_allTrue_And_cons (wpAny_mono (h hid stk s ok R) (fun v s₁ ⟨b, st₁, R₁, hv, k₁, h₁⟩ => by
    cases hv
    cases v
    · rw [if_neg (by decide)] at h₁ ⊢; exact ⟨false, st₁, R₁, rfl, k₁, h₁⟩
    · rw [if_pos rfl] at h₁ ⊢
      exact wpAny_mono (h₁ hid stk s₁ ok R₁) (fun _ _ y => y.keeps k₁) fun _ _ y => y) fun _ _ y => y)
theorem Or_cons {x l} {Q : Bool → St → Prop} (h : WC c x X (fun b st₁ => if b then Q true st₁ else WAll c .Or l X Q st₁) st) : WAll c .Or (x :: l) X Q st :=
  fun hid stk s ok R => wpAny_allTrue_Or_cons (wpAny_mono (h hid stk s ok R) (fun v s₁ ⟨b, st₁, R₁, hv, k₁, h₁⟩ => by
    cases hv
    cases v
    · rw [if_neg (by decide)] at h₁ ⊢; exact wpAny_mono (h₁ hid stk s₁ ok R₁) (fun _ _ y => y.keeps k₁) fun _ _ y => y
    · rw [if_pos rfl] at h₁ ⊢
      exact ⟨true, st₁, R₁, rfl, k₁, h₁⟩) fun _ _ y => y)

/-! names, constants -/
theorem E_local {x pos} {Q : PV → St → Prop} {μ : Locals} {σ : AHeap} {p : PV} (hl : c.env.scope.names.lookup x = some .local) (hv : μ.lookup x = some p) (h : Q p (μ, σ))
    (hd : (x == ("__debug__" : Str)) = false) : WE c (.Name x pos) X Q (μ, σ) := fun hid stk s ok R => by
  obtain ⟨⟨_, m, hn, hm⟩, _⟩ := R.frames _ (List.mem_cons_self ..)
  obtain ⟨v, hmv, hr⟩ := hm x p hv
  exact wpAny_Name (wpAny_loadName_local ok.kind hl hn hmv ⟨p, _, R, hr, .refl _, h⟩) hd

theorem Rep.toks {base os₀ hid stk σ} {s : Shared} (R : Rep base os₀ hid stk σ s) (tk : Nat) (ht : s.toks ≤ tk := by first | exact Nat.le_refl _ | exact Nat.le_succ _ | exact Nat.le_add_right _ 2 | omega) : Rep base os₀ hid stk σ { s with toks := tk } := R.grow (fun _ _ e => e) rfl rfl ht

theorem E_int {i k pos} {Q : PV → St → Prop} (h : Q (.int i) st) : WE c (.Constant (.int i) k pos) X Q st := fun hid stk s ok R => wpAny_Constant_int ⟨.int i, st, R.toks _, ⟨_, rfl⟩, .refl _, h⟩
theorem E_none {k pos} {Q : PV → St → Prop} (h : Q .none st) : WE c (.Constant .none k pos) X Q st := fun hid stk s ok R => (fun _ _ _ => ⟨.none, st, R, rfl, .refl _, h⟩)

/-! statements -/
theorem S_nil {Q : AFlow → St → Prop} (h : Q .next st) : WS c [] X Q st := fun hid stk s ok R => wpAny_execs_nil ⟨.next, st, R, rfl, .refl _, h⟩
theorem S_cons {x l} {Q : AFlow → St → Prop} (h : WX c x X (fun f st₁ => match f with | .next => WS c l X Q st₁ | f => Q f st₁) st) : WS c (x :: l) X Q st :=
  fun hid stk s ok R => wpAny_execs_cons (wpAny_mono (h hid stk s ok R) (fun v s₁ ⟨f, st₁, R₁, hv, k₁, h₁⟩ => by
    cases f with
    | next => cases hv; exact wpAny_mono (h₁ hid stk s₁ ok R₁) (fun _ _ y => y.keeps k₁) fun _ _ y => y
    | brk => cases hv; exact ⟨.brk, st₁, R₁, rfl, k₁, h₁⟩
    | cont => cases hv; exact ⟨.cont, st₁, R₁, rfl, k₁, h₁⟩
    | ret p => obtain ⟨u, rfl, hu⟩ := hv; exact ⟨.ret p, st₁, R₁, ⟨u, rfl, hu⟩, k₁, h₁⟩) fun _ _ y => y)

/-- a name stored -/
theorem W1_store {x : Str} {p : PV} {Q : Unit → St → Prop} {μ : Locals} {σ : AHeap} (hl : c.env.scope.names.lookup x = some .local) (h : Q () (setL x p μ, σ)) : W1 c UnitRep p (fun v => storeName c.env x v) X Q (μ, σ) :=
  fun v hid stk s ok R hv => by
    obtain ⟨⟨_, m, hn, hm⟩, _⟩ := R.frames _ (List.mem_cons_self ..)
    refine wpAny_storeName_local hl hn (fun h' hn' hs => ?_) (by rw [ok.kind]; rfl)
    obtain ⟨R', k⟩ := R.store (tk := s.toks + 1) hn hm hn' hs hv
    exact ⟨(), (setL x p μ, σ), R', trivial, k, h⟩

theorem S_Assign {x pos' value pos} {Q : AFlow → St → Prop} (h : WE c value X (fun p st₁ => W1 c UnitRep p (fun v => storeName c.env x v) X (fun _ st₂ => Q .next st₂) st₁) st)
    (hs : swapsWith value (some (.Name x pos')) pos.line c.env = pure false) : WX c (.Assign [.Name x pos'] value pos) X Q st :=
  fun hid stk s ok R => wpAny_Assign_Name (wpAny_mono (h hid stk s ok R) (fun v s₁ ⟨p, st₁, R₁, hv, k₁, h₁⟩ =>
    wpAny_mono (h₁ v hid stk s₁ ok R₁ hv) (fun _ _ ⟨_, st₂, R₂, _, k₂, q⟩ => ⟨.next, st₂, R₂, rfl, k₁.trans k₂, q⟩) fun _ _ y => y) fun _ _ y => y) hs
theorem S_Expr {e pos} {Q : AFlow → St → Prop} (h : WE c e X (fun _ st₁ => Q .next st₁) st) (hi : interactive c.env = false) (hs : swapsWith e none pos.line c.env = pure false) : WX c (.Expr e pos) X Q st :=
  fun hid stk s ok R => wpAny_Expr_any (wpAny_mono (h hid stk s ok R) (fun v s₁ ⟨p, st₁, R₁, hv, k₁, h₁⟩ => ⟨.next, st₁, R₁, rfl, k₁, h₁⟩) fun _ _ y => y) hi hs
theorem S_If {test body orelse pos} {Q : AFlow → St → Prop} (h : WC c test X (fun b st₁ => if b then WS c body X Q st₁ else WS c orelse X Q st₁) st) : WX c (.If test body orelse pos) X Q st :=
  fun hid stk s ok R => wpAny_If (wpAny_mono (h hid stk s ok R) (fun v s₁ ⟨b, st₁, R₁, hv, k₁, h₁⟩ => by
    cases hv
    cases v
    · rw [if_neg (by decide)] at h₁ ⊢; exact wpAny_mono (h₁ hid stk s₁ ok R₁) (fun _ _ y => y.keeps k₁) fun _ _ y => y
    · rw [if_pos rfl] at h₁ ⊢; exact wpAny_mono (h₁ hid stk s₁ ok R₁) (fun _ _ y => y.keeps k₁) fun _ _ y => y) fun _ _ y => y)
theorem S_Return {e pos} {Q : AFlow → St → Prop} (h : WE c e X (fun p st₁ => Q (.ret p) st₁) st) : WX c (.Return (some e) pos) X Q st :=
  fun hid stk s ok R => wpAny_Return_some (wpAny_mono (h hid stk s ok R) (fun v s₁ ⟨p, st₁, R₁, hv, k₁, h₁⟩ => ⟨.ret p, st₁, R₁, ⟨v, rfl, hv⟩, k₁, h₁⟩) fun _ _ y => y)
theorem S_Break {pos} {Q : AFlow → St → Prop} (h : Q .brk st) : WX c (.Break pos) X Q st := fun hid stk s ok R => wpAny_Break ⟨.brk, st, R, rfl, .refl _, h⟩
theorem S_Continue {pos} {Q : AFlow → St → Prop} (h : Q .cont st) : WX c (.Continue pos) X Q st := fun hid stk s ok R => wpAny_Continue ⟨.cont, st, R, rfl, .refl _, h⟩
/-- what is raised within a loop's own run -/
theorem PostX.noted {hid stk s x} {E : Value → Shared → Prop} (ok : COk c.lv c.A c.env (stk.map (·.1))) (h : PostX c X hid stk x s)
    (hE : ∀ x cls st' s', Rep c.base c.os hid ((c.env.locals, st'.1) :: stk) st'.2 s' → ExcNoted c.base hid st'.2 s'.heap x cls → X cls st' → E (.ref x) s') : notedBy c.M c.A c.env E x s := by
  obtain ⟨x, cls, st', rfl, R, hx, q⟩ := h
  obtain ⟨e₀, rest, a, he⟩ := ok.ok
  exact wp_note a.frames (by simpa using a.frs) R rfl he hx fun s' R' n' => hE _ _ _ _ R' n' q

def LoopR (c : Cx) (X : String → St → Prop) (Q : AFlow → St → Prop) (hid : List (Addr × Obj)) (stk : List (Addr × Locals)) (h : Heap) (r : Result) (s' : Shared) : Prop := match r with
  | .ok f => Post c FlowRep Q hid stk h f s'
  | .error e => ∃ x cls st', e = .ref x ∧ Rep c.base c.os hid ((c.env.locals, st'.1) :: stk) st'.2 s' ∧ ExcNoted c.base hid st'.2 s'.heap x cls ∧ X cls st'

theorem LoopR.back {hid stk h r s'} {Q : AFlow → St → Prop} (x : LoopR c X Q hid stk h r s') : match (generalizing := false) r with
    | .ok f => Post c FlowRep Q hid stk h f s'
    | .error e => cameBackBy c.M c.A c.env (PostX c X hid stk) e s' := by
  cases r with
  | ok f => exact x
  | error e =>
    obtain ⟨x, cls, st', rfl, R, hx, q⟩ := x
    exact wp_cameBack R hx fun s'' R' n' => ⟨x, cls, st', rfl, R', n'.at, q⟩

theorem S_While {test body orelse pos} {Q : AFlow → St → Prop} (I : Nat → St → Prop) (n : Nat) (h0 : I n st)
    (turn : ∀ n st, I n st → WC c test X (fun b st₁ => if b then WS c body X (fun f st₂ => match f with
        | .next | .cont => ∃ m, m < n ∧ I m st₂
        | .brk => Q .next st₂
        | .ret p => Q (.ret p) st₂) st₁ else WS c orelse X Q st₁) st) : WX c (.While test body orelse pos) X Q st := fun hid stk s ok R => by
  refine wpAny_While (codeAny_mono (R := LoopR c X Q hid stk s.heap) ?_ fun r s' x => x.back)
  refine codeAny_whileLoop (fun n s' => ∃ st', Rep c.base c.os hid ((c.env.locals, st'.1) :: stk) st'.2 s' ∧ Keeps s.heap s'.heap ∧ I n st') (fun n s' ⟨st', R', k', hI⟩ => ?_) n ⟨st, R, .refl _, h0⟩
  have hE : ∀ e s'', PostX c X hid stk e s'' → notedBy c.M c.A c.env (fun e s' => LoopR c X Q hid stk s.heap (.error e) s') e s'' :=
    fun e s'' hx => hx.noted ok fun x cls st' s' R n q => ⟨x, cls, st', rfl, R, n, q⟩
  refine wpAny_mono (turn n st' hI hid stk s' ok R') (fun v s₁ hy => ?_) hE
  obtain ⟨b, st₁, R₁, hv, k₁, h₁⟩ := hy
  cases hv
  cases v
  · rw [if_neg (by decide)] at h₁ ⊢
    exact wpAny_mono (h₁ hid stk s₁ ok R₁) (fun f s₂ y => y.keeps (k'.trans k₁)) hE
  · rw [if_pos rfl] at h₁ ⊢
    refine wpAny_mono (h₁ hid stk s₁ ok R₁) (fun f s₂ hy => ?_) hE
    obtain ⟨fl, st₂, R₂, hf, k₂, h₂⟩ := hy
    have k := k'.trans (k₁.trans k₂)
    cases fl with
    | next => cases hf; obtain ⟨m, hm, hI⟩ := h₂; exact ⟨m, hm, st₂, R₂, k, hI⟩
    | cont => cases hf; obtain ⟨m, hm, hI⟩ := h₂; exact ⟨m, hm, st₂, R₂, k, hI⟩
    | brk => cases hf; exact ⟨.next, st₂, R₂, rfl, k, h₂⟩
    | ret p => obtain ⟨u, rfl, hu⟩ := hf; exact ⟨.ret p, st₂, R₂, ⟨u, rfl, hu⟩, k, h₂⟩
end
end Mine
end
section
open PySem PySem.W PyProof.Rows
set_option Elab.async false
set_option linter.unusedVariables false
namespace Mine

def valPV : Value → PV
  | .none => .none | .bool b => .bool b | .int i _ => .int i | .str x t => .str x t | .ref a => .ref a | .type n => .ty n | .builtin n => .bi n
  | _ => .none
def Value.simple : Value → Bool
  | .ellipsis | .notImplemented | .float .. | .bytes .. => false
  | _ => true
theorem valPV_rep {v : Value} (h : Value.simple v = true) (hp : Heap) : VRep hp (valPV v) v := by
  cases v <;> first | (cases h; done) | (simp only [valPV, VRep]; done) | (simp only [valPV, VRep]; exact ⟨_, rfl⟩)

section
variable {c : Cx} {X : String → St → Prop} {st : St}

theorem E_global {x pos} {Q : PV → St → Prop} {v : Value} (hG : Gd c.toGx) (hl : c.env.scope.names.lookup x = some .globalImplicit) (hv : c.mg x = some v) (hs : Value.simple v = true) (h : Q (valPV v) st)
    (hd : (x == ("__debug__" : Str)) = false) : WE c (.Name x pos) X Q st := fun hid stk s ok R =>
  Calls.Name_function_global ok.kind hl (Calls.loadGlobal_global (by rw [ok.globals]; exact hG.g.keeps R.stays) hv ⟨_, st, R, valPV_rep hs _, .refl _, h⟩) hd
theorem E_builtin {x pos} {Q : PV → St → Prop} {v : Value} (hG : Gd c.toGx) (hl : c.env.scope.names.lookup x = some .globalImplicit) (hm : c.mg x = none) (hn : x ≠ "__name__") (hv : bootBuiltins x = some v) (hs : Value.simple v = true) (h : Q (valPV v) st)
    (hd : (x == ("__debug__" : Str)) = false) : WE c (.Name x pos) X Q st := fun hid stk s ok R =>
  Calls.Name_function_global ok.kind hl (Calls.loadGlobal_builtin (by rw [ok.globals]; exact hG.g.keeps R.stays) hm (by rw [ok.builtins]; exact hG.b.keeps R.stays) ((hG.builtins x hn).trans hv) ⟨_, st, R, valPV_rep hs _, .refl _, h⟩) hd

/-! cells -/
theorem E_cell {x pos} {Q : PV → St → Prop} {a : Addr} {p : PV} (hl : c.env.scope.names.lookup x = some .cell) (hc : c.env.cells.lookup x = some a) (hv : st.2 a = some (.cell (some p))) (h : Q p st)
    (hd : (x == ("__debug__" : Str)) = false) : WE c (.Name x pos) X Q st := fun hid stk s ok R => by
  obtain ⟨_, y, hy, z, rfl, hz⟩ := R.heap _ _ hv
  exact wpAny_Name (wpAny_loadName_cell ok.kind hl hc hy ⟨p, st, R, hz, .refl _, h⟩) hd
theorem W1_storeCell {x : Str} {p : PV} {Q : Unit → St → Prop} {μ : Locals} {σ : AHeap} {a : Addr} {o : Option PV} (hl : c.env.scope.names.lookup x = some .cell) (hc : c.env.cells.lookup x = some a) (hv : σ a = some (.cell o))
    (h : Q () (μ, σ.set a (.cell (some p)))) : W1 c UnitRep p (fun v => storeName c.env x v) X Q (μ, σ) := fun v hid stk s ok R hr => by
  obtain ⟨hb, y, hy, _⟩ := R.heap _ _ hv
  refine wpAny_storeName_cell ok.kind hl hc hy fun h' hc' hs' => ?_
  have hnt : ∀ vs, ¬ TU s.heap a vs := fun vs ⟨n, e⟩ => by obtain ⟨o', e1, e2⟩ := hy; rw [e] at e1; cases e1; cases e2
  have hk : ∀ b ob, b ≠ a → s.heap.get? b = some ob → h'.get? b = some ob := fun b ob hne e => (hs'.2 b hne).trans e
  have k : Keeps s.heap h' := fun b vs ⟨n, h1⟩ => ⟨n, hk _ _ (fun e => hnt vs (e ▸ ⟨n, h1⟩)) h1⟩
  refine ⟨(), (μ, σ.set a (.cell (some p))), ?_, trivial, k, h⟩
  exact R.put (s' := { s with heap := h' }) hk hnt hb (R.hid_ne hv) (R.stk_ne hv) ⟨hb, _, hc', v, rfl, hr.mono k⟩ rfl rfl
end

/-! calls -/
def CallR (G : Gx) (X : String → AHeap → Prop) (Q : PV → AHeap → Prop) (hid : List (Addr × Obj)) (stk : List (Addr × Locals)) (h : Heap) (r : Result) (s' : Shared) : Prop := match r with
  | .ok (.ret v) => ∃ p σ', Rep G.base G.os hid stk σ' s' ∧ VRep s'.heap p v ∧ Keeps h s'.heap ∧ Q p σ'
  | .ok _ => False
  | .error e => ∃ x cls σ', e = .ref x ∧ Rep G.base G.os hid stk σ' s' ∧ ExcAt G.base hid σ' s'.heap x cls ∧ X cls σ'
/-- a call, keywords too -/
def CallK (G : Gx) (lv : Lv) (f : Value) (ps : List PV) (kw : List (Str × PV)) (X : String → AHeap → Prop) (Q : PV → AHeap → Prop) (σ : AHeap) : Prop :=
  ∀ A frs hid stk s vs ks, AOk lv A frs (stk.map (·.1)) → Rep G.base G.os hid stk σ s → VReps s.heap ps vs → VReps s.heap (kw.map (·.2)) ks → codeAny G.M A (.call f ⟨vs, (kw.map (·.1)).zip ks⟩) (CallR G X Q hid stk s.heap) s
abbrev CallS (G : Gx) (lv : Lv) (f : Value) (ps : List PV) (X : String → AHeap → Prop) (Q : PV → AHeap → Prop) (σ : AHeap) : Prop := CallK G lv f ps [] X Q σ

theorem CallK.mono {G lv f ps kw} {X X' : String → AHeap → Prop} {Q Q' : PV → AHeap → Prop} {σ} (h : CallK G lv f ps kw X Q σ) (hX : ∀ e σ, X e σ → X' e σ) (hQ : ∀ p σ, Q p σ → Q' p σ) : CallK G lv f ps kw X' Q' σ :=
  fun A frs hid stk s vs ks ok R hv hk => codeAny_mono (h A frs hid stk s vs ks ok R hv hk) fun r s' x => by
    match r, x with
    | .ok (.ret v), ⟨p, σ', a, b, k, q⟩ => exact ⟨p, σ', a, b, k, hQ _ _ q⟩
    | .error e, ⟨x, cls, σ', a, b, k, q⟩ => exact ⟨x, cls, σ', a, b, k, hX _ _ q⟩

theorem WN_call {c : Cx} {X : String → St → Prop} {Q : PV → St → Prop} {μ σ} {f : Value} {ps : List PV} (h : CallS c.toGx c.lv f ps (fun e σ' => X e (μ, σ')) (fun p σ' => Q p (μ, σ')) σ) :
    WN c VRep ps (fun vs => call f vs) X Q (μ, σ) := fun vs hid stk s ok R hv => by
  obtain ⟨e₀, rest, a, _⟩ := ok.ok
  refine wpAny_call (codeAny_mono (h c.A (e₀ :: rest) hid ((c.env.locals, μ) :: stk) s vs [] a R hv .nil) fun r s' x => ?_)
  match r, x with
  | .ok (.ret v), ⟨p, σ', a, b, k, q⟩ => exact ⟨p, (μ, σ'), a, b, k, q⟩
  | .error e, ⟨x, cls, σ', a, b, k, q⟩ => exact ⟨x, cls, (μ, σ'), a, b, k, q⟩

/-- the state without its first frame -/
theorem Rep.pop {base os₀ hid f stk σ} {s : Shared} (R : Rep base os₀ hid (f :: stk) σ s) : Rep base os₀ hid stk σ s := by
  refine ⟨R.stays, R.gens, R.os, fun p hp => ?_, fun g hg => R.frames g (List.mem_cons_of_mem _ hg), (List.nodup_cons.mp (by simpa using R.nodup)).2, R.hnd, R.heap, R.tk⟩
  obtain ⟨a, b, c, d, e⟩ := R.hid p hp
  exact ⟨a, b, c, fun q => d (by simp at q ⊢; exact .inr q), e⟩

def addCells : List (Str × Addr) → (Str → Option PV) → AHeap → AHeap
  | [], _, σ => σ
  | (n, a) :: r, b, σ => (addCells r b σ).set a (.cell (b n))

theorem addCells_off {b : Str → Option PV} {σ : AHeap} {a : Addr} : ∀ {cs : List (Str × Addr)}, (∀ p ∈ cs, p.2 ≠ a) → addCells cs b σ a = σ a
  | [], _ => rfl
  | (n, d) :: r, h => by
    show ((addCells r b σ).set d _) a = _
    rw [AHeap.set_ne _ _ (Ne.symm (h (n, d) (List.mem_cons_self ..)))]
    exact addCells_off fun p hp => h p (List.mem_cons_of_mem _ hp)

section
variable {k : Str → Option NameKind} {h : Heap}
theorem bindL_off {x : Str} : ∀ {names : List Str} {vs : List Value} {m : Str → Option Value}, x ∉ names → bindL k (names.zip vs) m x = m x
  | [], _, _, _ => rfl
  | _ :: _, [], _, _ => rfl
  | n :: ns, v :: vs, m, hx => by
    show bindL k (ns.zip vs) _ x = m x
    rw [bindL_off (fun q => hx (List.mem_cons_of_mem _ q))]
    have : x ≠ n := fun e => hx (e ▸ List.mem_cons_self ..)
    split
    · simp [this]
    · rfl
theorem bindL_rep : ∀ {names : List Str} {ps : List PV} {vs : List Value} {m : Str → Option Value}, VReps h ps vs → names.Nodup → ∀ x p, ((names.zip ps).filter fun b => k b.1 == some .local).lookup x = some p → ∃ v, bindL k (names.zip vs) m x = some v ∧ VRep h p v
  | [], _, _, _, _, _, x, p, e => by simp at e
  | _ :: _, [], _, _, _, _, x, p, e => by simp at e
  | n :: ns, q :: ps, vs, m, hv, hnd, x, p, e => by
    obtain ⟨v, r, rfl, h1, h2⟩ := hv.cons_inv
    obtain ⟨hn, hnd'⟩ := List.nodup_cons.mp hnd
    show ∃ w, bindL k (ns.zip r) _ x = some w ∧ _
    simp only [List.zip_cons_cons, List.filter_cons] at e
    by_cases hx : x = n
    · subst hx
      rw [bindL_off hn]
      by_cases hk : k x = some .local
      · simp only [hk, beq_self_eq_true, if_true, List.lookup_cons] at e ⊢
        cases e; exact ⟨v, rfl, h1⟩
      · exfalso
        have hkb : (k x == some NameKind.local) = false := beq_eq_false_iff_ne.mpr hk
        simp only [hkb, Bool.false_eq_true, if_false] at e
        exact hn (List.of_mem_zip (List.mem_filter.mp (mem_of_lookup e)).1).1
    · refine bindL_rep h2 hnd' x p ?_
      split at e
      · rw [List.lookup_cons] at e
        have : (x == n) = false := beq_eq_false_iff_ne.mpr hx
        simpa only [this] using e
      · exact e
theorem bindC_off {x : Str} : ∀ {names : List Str} {vs : List Value} {m : Str → Option Value}, x ∉ names → bindC k (names.zip vs) m x = m x
  | [], _, _, _ => rfl
  | _ :: _, [], _, _ => rfl
  | n :: ns, v :: vs, m, hx => by
    show bindC k (ns.zip vs) _ x = m x
    rw [bindC_off (fun q => hx (List.mem_cons_of_mem _ q))]
    have : x ≠ n := fun e => hx (e ▸ List.mem_cons_self ..)
    split
    · rfl
    · simp [this]
theorem bindC_rep : ∀ {names : List Str} {ps : List PV} {vs : List Value}, VReps h ps vs → names.Nodup → names.length = ps.length → ∀ x, k x ≠ some .local → OptRep h ((names.zip ps).lookup x) (bindC k (names.zip vs) (fun _ => none) x) := by
  have main : ∀ {names : List Str} {ps : List PV} {vs : List Value} {m : Str → Option Value}, VReps h ps vs → names.Nodup → names.length = ps.length → ∀ x, k x ≠ some .local → x ∈ names → OptRep h ((names.zip ps).lookup x) (bindC k (names.zip vs) m x) := by
    intro names
    induction names with
    | nil => intro ps vs m _ _ _ x _ hx; cases hx
    | cons n ns ih =>
      intro ps vs m hv hnd hl x hk hx
      cases ps with
      | nil => simp at hl
      | cons q ps =>
        obtain ⟨v, r, rfl, h1, h2⟩ := hv.cons_inv
        obtain ⟨hn, hnd'⟩ := List.nodup_cons.mp hnd
        show OptRep h (((n, q) :: ns.zip ps).lookup x) (bindC k (ns.zip r) _ x)
        rw [List.lookup_cons]
        by_cases e : x = n
        · subst e
          rw [bindC_off hn]
          simp only [beq_self_eq_true, hk, if_false, if_true]
          exact ⟨v, rfl, h1⟩
        · have hb : (x == n) = false := beq_eq_false_iff_ne.mpr e
          simp only [hb]
          rcases List.mem_cons.mp hx with q | q
          · exact absurd q e
          · exact ih h2 hnd' (by simpa using hl) x hk q
  intro names ps vs hv hnd hl x hk
  by_cases hx : x ∈ names
  · exact main hv hnd hl x hk hx
  · rw [bindC_off hx]
    have : (names.zip ps).lookup x = none := by
      cases q : (names.zip ps).lookup x with
      | none => rfl
      | some p => exact absurd (List.of_mem_zip (mem_of_lookup q)).1 hx
    rw [this]; rfl
end

theorem AOk.body {lv : Lv} {n : Nat} {A : Around} {frs : List Env} {ls : List Addr} (ok : AOk ⟨n + 1, lv.calm⟩ A frs ls) {env : Env} (hk : env.scope.kind = .function) (hf : env.frame = some env.locals)
    (hg : env.globals = mainGlobals) (hb : env.builtins = builtinsNs) : COk ⟨n, lv.calm⟩ (A.deeper env) env ls := by
  refine ⟨⟨env, frs, ⟨Around.frames_deeper ok.frames, fun e he => ?_, fun hc => ok.calm hc, ?_, ?_⟩, rfl⟩, hk, hg, hb⟩
  · rcases List.mem_cons.mp he with rfl | he
    · exact ⟨by rw [hk]; decide, _, hf, List.mem_cons_self ..⟩
    · obtain ⟨a, L, b, d⟩ := ok.frs e he
      exact ⟨a, L, b, List.mem_cons_of_mem _ d⟩
  · have := ok.depth; show A.depth + 1 + n ≤ 900; simp only at this; omega
  · have := ok.units; show A.units + 3 + 20 * n ≤ 9000; simp only at this; omega

/-- a def of the text, called: its parameters are names, its cells are new -/
theorem call_def {G : Gx} {n : Nat} {calm : Bool} {a : Addr} {o : Obj} {fd : FuncData} {body : List Stmt} {ps : List PV} {X : String → AHeap → Prop} {Q : PV → AHeap → Prop} {σ : AHeap} (names : List Str)
    (hG : Gd G) (ho : G.base.get? a = some o) (hd : o.data = .func fd) (hbody : fd.body = .stmts body) (hcd : G.base.CodeRec fd.code fd.qualname)
    (hclo : fd.closure = []) (hgl : fd.globals = mainGlobals) (hbu : fd.builtins = builtinsNs) (hk : fd.scope.kind = .function) (hco : fd.scope.isCoroutine = false) (hgen : fd.scope.isGenerator = false)
    (hnames : names.Nodup) (hlen : names.length = ps.length)
    (hbind : ∀ vs : List Value, vs.length = names.length → bindArgs fd ⟨vs, []⟩ = pure (names.zip vs))
    (hkind : ∀ i, names.all (fun x => fd.scope.names.lookup x == some .local || (fd.scope.names.lookup x == some .cell && ((cellsFrom i fd.scope.names []).lookup x).isSome)) = true)
    (hcells : ∀ i, (cellsFrom i fd.scope.names []).all (fun p => fd.scope.names.lookup p.1 != some .local && ((cellsFrom i fd.scope.names []).lookup p.1 == some p.2)) = true)
    (h : ∀ (c : Cx) (L : Addr), c.toGx = G → c.lv = ⟨n, calm⟩ → c.env.scope = fd.scope → c.env.cells = cellsFrom (L + 1) fd.scope.names [] → c.env.qual = fd.qualname ++ ".<locals>." → (∀ b, L ≤ b → σ b = none) →
      WS c body (fun e st => X e st.2) (fun f st => Q (match f with | .ret p => p | _ => .none) st.2) ((names.zip ps).filter (fun b => fd.scope.names.lookup b.1 == some .local), addCells (cellsFrom (L + 1) fd.scope.names []) (fun x => (names.zip ps).lookup x) σ)) :
    CallS G ⟨n + 1, calm⟩ (.ref a) ps X Q σ := fun A frs hid stk s vs ks ok R hv hks => by
  have hlen' : vs.length = names.length := by rw [hlen]; exact hv.length
  refine codeAny_call_function (by have := ok.depth; simp only at this; show A.depth < 1000; omega) (R.stays _ _ ho) hd hco hgen hbody (hcd.keeps R.stays) ?_
  show wpAny _ _ (bindArgs fd ⟨vs, []⟩) _ _ s
  rw [hbind vs hlen', hclo]
  refine wpAny_pure (newFunctionEnv_cells_toks hk (fun x hx => ?_) fun env he s' hin htk => ⟨(hG.nolimit.keeps R.stays).keeps hin.toInCall.keep, ?_⟩)
  · have h1 := List.all_eq_true.mp (hkind (s.heap.objs.size + 1)) x.1 (List.of_mem_zip hx).1
    simp only [Bool.or_eq_true, Bool.and_eq_true, beq_iff_eq] at h1
    exact h1
  · have hL : env.locals = s.heap.objs.size := by rw [he]; rfl
    have hsc : env.scope = fd.scope := by rw [he]; rfl
    have hce : env.cells = cellsFrom (s.heap.objs.size + 1) fd.scope.names [] := by rw [he]; rfl
    obtain ⟨h', tk, rfl, hkeep⟩ := hin.done
    have hbase : ∀ b, s.heap.objs.size ≤ b → G.base.get? b = none := fun b hb => by
      cases q : G.base.get? b with
      | none => rfl
      | some ob => exact absurd (Heap.lt_size (R.stays b ob q)) (Nat.not_lt.mpr hb)
    have hσ : ∀ b, s.heap.objs.size ≤ b → σ b = none := fun b hb => by
      cases q : σ b with
      | none => rfl
      | some ob => exact absurd (R.heap b ob q).lt (Nat.not_lt.mpr hb)
    have k : Keeps s.heap h' := fun b vs ⟨n, e⟩ => ⟨n, hkeep _ _ e⟩
    -- the state of the body
    have hcs : ∀ p ∈ cellsFrom (s.heap.objs.size + 1) fd.scope.names [], s.heap.objs.size < p.2 := fun p hp => by
      have := hin.above p.1 p.2 (by rw [hce]; exact hp); rw [hL] at this; exact this
    have R₁ : ∀ (cs : List (Str × Addr)), (∀ p ∈ cs, p ∈ cellsFrom (s.heap.objs.size + 1) fd.scope.names []) →
        Rep G.base G.os hid ((env.locals, (names.zip ps).filter (fun b => fd.scope.names.lookup b.1 == some .local)) :: stk) (addCells cs (fun x => (names.zip ps).lookup x) σ) { s with heap := h', toks := tk } := by
      intro cs hsub
      have R0 := R.grow (s' := { s with heap := h', toks := tk }) hkeep rfl rfl htk
      have hoff : ∀ b, b < s.heap.objs.size → addCells cs (fun x => (names.zip ps).lookup x) σ b = σ b := fun b hb => addCells_off fun p hp q => Nat.lt_asymm hb (q ▸ hcs p (hsub p hp))
      refine ⟨R0.stays, R0.gens, R0.os, fun p hp => ?_, fun f hf => ?_, ?_, R0.hnd, ?_, R0.tk⟩
      · obtain ⟨a1, b1, c1, d1, e1⟩ := R0.hid p hp
        have hlt := Heap.lt_size (R.hid p hp).1
        refine ⟨a1, b1, by rw [hoff _ hlt]; exact c1, fun q => ?_, e1⟩
        simp only [List.map_cons, List.mem_cons] at q
        rcases q with q | q
        · rw [hL] at q; exact Nat.ne_of_lt hlt q
        · exact d1 q
      · rcases List.mem_cons.mp hf with rfl | hf
        · refine ⟨⟨by rw [hL]; exact hbase _ (Nat.le_refl _), _, hin.toInCall.ns, fun x p e => ?_⟩, ?_⟩
          · obtain ⟨v, e1, e2⟩ := bindL_rep (k := fun x => fd.scope.names.lookup x) (m := fun _ => none) (hv.mono k) hnames x p e
            have hko : env.kindOf = fun x => fd.scope.names.lookup x := by funext x; unfold Env.kindOf; rw [hsc]
            rw [hko]
            exact ⟨v, e1, e2⟩
          · show addCells cs _ σ env.locals = none
            rw [hL, addCells_off (fun p hp q => Nat.ne_of_gt (hcs p (hsub p hp)) q)]
            exact hσ _ (Nat.le_refl _)
        · obtain ⟨a1, b1⟩ := R0.frames f hf
          exact ⟨a1, by rw [hoff _ (R.frames f hf).1.lt]; exact b1⟩
      · simp only [List.map_cons, List.nodup_cons]
        refine ⟨fun q => ?_, R0.nodup⟩
        obtain ⟨f, hf, e⟩ := List.mem_map.mp q
        rw [hL] at e; exact Nat.ne_of_lt (R.frames f hf).1.lt e
      · induction cs with
        | nil => exact R0.heap
        | cons p r ih =>
          obtain ⟨x, d⟩ := p
          intro b ob e
          by_cases q : b = d
          · subst q
            have e' : some (AObj.cell ((names.zip ps).lookup x)) = some ob := by
              have := AHeap.set_same (addCells r (fun x => (names.zip ps).lookup x) σ) b (.cell ((names.zip ps).lookup x))
              exact this.symm.trans e
            cases e'
            have hm := hsub (x, b) (List.mem_cons_self ..)
            have hc1 := List.all_eq_true.mp (hcells (s.heap.objs.size + 1)) (x, b) hm
            simp only [Bool.and_eq_true, bne_iff_ne, beq_iff_eq] at hc1
            refine ⟨hbase _ (Nat.le_of_lt (hcs _ hm)), _, hin.cell x b (by rw [hce]; exact hc1.2), ?_⟩
            have hko : env.kindOf = fun x => fd.scope.names.lookup x := by funext x; unfold Env.kindOf; rw [hsc]
            rw [hko]
            exact bindC_rep (hv.mono k) hnames hlen x hc1.1
          · have e' : addCells r (fun x => (names.zip ps).lookup x) σ b = some ob := by
              have := AHeap.set_ne (addCells r (fun x => (names.zip ps).lookup x) σ) (.cell ((names.zip ps).lookup x)) q
              exact this.symm.trans e
            exact ih (fun p hp => hsub p (List.mem_cons_of_mem _ hp)) (fun b hb => addCells_off fun p hp q => Nat.lt_asymm hb (q ▸ hcs p (hsub p (List.mem_cons_of_mem _ hp)))) b ob e'
    have hok := AOk.body (lv := ⟨n + 1, calm⟩) ok (env := env) (by rw [hsc]; exact hk) (by rw [he]; rfl) (by rw [he]; exact hgl) (by rw [he]; exact hbu)
    have hW := h ⟨G, ⟨n, calm⟩, A.deeper env, env⟩ s.heap.objs.size rfl rfl hsc hce (by rw [he]; rfl) hσ hid stk _ hok (R₁ _ fun _ hp => hp)
    obtain ⟨e₀, rest, ao, he₀⟩ := hok.ok
    refine codeAny_func (wpAny_mono hW (fun f s₂ hp => ?_) fun e s₂ hx => ?_)
    · obtain ⟨fl, st', R', hf, k', q⟩ := hp
      cases fl with
      | next => cases hf; exact ⟨.none, st'.2, R'.pop, rfl, k.trans k', q⟩
      | brk => cases hf; exact ⟨.none, st'.2, R'.pop, rfl, k.trans k', q⟩
      | cont => cases hf; exact ⟨.none, st'.2, R'.pop, rfl, k.trans k', q⟩
      | ret p => obtain ⟨v, rfl, hv'⟩ := hf; exact ⟨p, st'.2, R'.pop, hv', k.trans k', q⟩
    · obtain ⟨x, cls, st', rfl, R', hx', q⟩ := hx
      exact wp_leaving ao.frames (by simpa using ao.frs) R' rfl he₀ hx' fun s₃ R₃ n₃ => ⟨x, cls, st'.2, rfl, R₃.pop, n₃.at, q⟩
end Mine
end
section
open PySem PySem.W PyProof.Rows
set_option Elab.async false
set_option linter.unusedVariables false
namespace Mine

def AObj.items? : AObj → Option (List PV)
  | .list l | .rlist l => some l
  | _ => none
/-- the items of the list at a -/
def seqAt (σ : AHeap) (a : Addr) : Option (List PV) := (σ a).bind AObj.items?

theorem LI.isList {h : Heap} {a : Addr} {vs : List Value} (x : LI h a vs) : h.IsList a vs.toArray := let ⟨n, e⟩ := x; ⟨_, e, rfl, n, rfl⟩
theorem TU.isTuple {h : Heap} {a : Addr} {vs : List Value} (x : TU h a vs) : h.IsTuple a vs.toArray := let ⟨n, e⟩ := x; ⟨_, e, rfl, n, rfl⟩

theorem LI.not_TU {h : Heap} {a : Addr} {vs : List Value} (x : LI h a vs) : ∀ ws, ¬ TU h a ws := fun ws ⟨n', e'⟩ => by
  obtain ⟨n, e⟩ := x
  have := congrArg Obj.cls (Option.some.inj (e.symm.trans e'))
  exact absurd this (by show Value.type "list" ≠ Value.type "tuple"; decide)

section
variable {base : Heap} {os₀ : OsState} {hid : List (Addr × Obj)} {stk : List (Addr × Locals)} {σ : AHeap} {s : Shared}

theorem Rep.seq (R : Rep base os₀ hid stk σ s) {a : Addr} {l : List PV} (h : seqAt σ a = some l) : ∃ vs, LI s.heap a vs ∧ VReps s.heap l vs := by
  unfold seqAt at h
  cases q : σ a with
  | none => rw [q] at h; cases h
  | some o =>
    rw [q] at h
    cases o with
    | list l' => cases h; exact (R.heap _ _ q).2
    | rlist l' => cases h; exact R.heap _ _ q
    | cell v => cases h
    | range x y z => cases h
    | raw o => cases h

/-- a list of ours, written over -/
theorem Rep.listUpd (R : Rep base os₀ hid stk σ s) {a : Addr} {l l' : List PV} (hv : σ a = some (.list l)) {h' : Heap} {tk : Nat} {ws : List Value}
    (hk : ∀ b ob, b ≠ a → s.heap.get? b = some ob → h'.get? b = some ob) (hn : LI h' a ws) (hw : VReps s.heap l' ws) (ht : s.toks ≤ tk := by first | exact Nat.le_refl _ | exact Nat.le_succ _ | assumption) :
    Rep base os₀ hid stk (σ.set a (.list l')) { s with heap := h', toks := tk } ∧ Keeps s.heap h' := by
  obtain ⟨hb, vs, ⟨n, e⟩, _⟩ := R.heap _ _ hv
  have hnt : ∀ vs, ¬ TU s.heap a vs := LI.not_TU ⟨n, e⟩
  have k : Keeps s.heap h' := fun b vs ⟨n, h1⟩ => ⟨n, hk _ _ (fun e => hnt vs (e ▸ ⟨n, h1⟩)) h1⟩
  exact ⟨R.put (s' := { s with heap := h', toks := tk }) hk hnt hb (R.hid_ne hv) (R.stk_ne hv) ⟨hb, ws, hn, hw.mono k⟩ rfl rfl ht, k⟩

theorem LI.upd {h : Heap} {a : Addr} {vs ws : List Value} (x : LI h a vs) {f : Array Value → Array Value} (hf : f vs.toArray = ws.toArray) : LI (h.update a (Obj.mapSeq f)) a ws := by
  obtain ⟨n, e⟩ := x
  have : ∃ m, Obj.mapSeq f { cls := .type "list", dict := none, data := .seq vs.toArray n, slots := #[] } = { cls := .type "list", dict := none, data := .seq ws.toArray m, slots := #[] } := by
    simp only [Obj.mapSeq, hf]; exact ⟨_, rfl⟩
  obtain ⟨m, hm⟩ := this
  exact ⟨m, by rw [Heap.get?_update_self _ e (by rw [hm]; rfl), hm]⟩
theorem upd_other {h : Heap} {a : Addr} {f : Obj → Obj} : ∀ b ob, b ≠ a → h.get? b = some ob → (h.update a f).get? b = some ob := fun b ob hb e => (Heap.get?_update_other _ _ (Ne.symm hb)).trans e
end

section
variable {c : Cx} {X : String → St → Prop} {st : St} {μ : Locals} {σ : AHeap}

/-! arguments -/
theorem A_nil {pos} {Q : List PV → St → Prop} (h : Q [] st) : WA c pos [] X Q st := fun hid stk s ok R => Calls.spliced_nil ⟨[], st, R, .nil, .refl _, h⟩
theorem A_cons {pos e rest} {Q : List PV → St → Prop} (h : WE c e X (fun p st₁ => WA c pos rest X (fun ps st₂ => Q (p :: ps) st₂) st₁) st)
    (he : starEach (e :: rest) c.env = (false, eval e c.env) :: starEach rest c.env) : WA c pos (e :: rest) X Q st := fun hid stk s ok R => by
  rw [he]
  exact Calls.spliced_cons (wpAny_mono (h hid stk s ok R) (fun v s₁ ⟨p, st₁, R₁, hv, k₁, h₁⟩ =>
    wpAny_mono (h₁ hid stk s₁ ok R₁) (fun vs s₂ ⟨ps, st₂, R₂, hvs, k₂, q⟩ => ⟨p :: ps, st₂, R₂, .cons (hv.mono k₂) hvs, k₁.trans k₂, q⟩) fun _ _ y => y) fun _ _ y => y)

/-! calls -/
def pvVal : PV → Value
  | .bi id => .builtin id
  | .ty T => .type T
  | .ref a => .ref a
  | _ => .none
/-- a thing that may be called so -/
def CallF (c : Cx) : PV → Prop
  | .bi _ | .ty _ => True
  | .ref a => ∃ o fd, c.base.get? a = some o ∧ o.data = .func fd
  | _ => False

theorem E_Call {func e rest pos} {Q : PV → St → Prop} (h : WE c func X (fun fv st₁ => CallF c fv ∧ WA c pos (e :: rest) X (fun ps st₂ => WN c VRep ps (fun vs => call (pvVal fv) vs) X Q st₂) st₁) st)
    (hev : eval (.Call func (e :: rest) [] pos) c.env = (do callWith pos (← eval func c.env) [] (backTo pos (starEach (e :: rest) c.env)) (backToKw pos (keywordEach [] c.env))))
    (he : starEach (e :: rest) c.env = (false, eval e c.env) :: starEach rest c.env)
    (hplain : (backTo pos (starEach rest c.env)).any (·.1) = false) : WE c (.Call func (e :: rest) [] pos) X Q st := fun hid stk s ok R => by
  rw [hev]
  refine wpAny_bind (wpAny_mono (h hid stk s ok R) (fun v s₁ hp => ?_) fun _ _ y => y)
  obtain ⟨fv, st₁, R₁, hv, k₁, hF, h₁⟩ := hp
  have fin : ∀ vs s₂, Post c VReps (fun ps st₂ => WN c VRep ps (fun vs => call (pvVal fv) vs) X Q st₂) hid stk s₁.heap vs s₂ → wpAny c.M c.A (call (pvVal fv) vs) (Post c VRep Q hid stk s.heap) (PostX c X hid stk) s₂ :=
    fun vs s₂ ⟨ps, st₂, R₂, hvs, k₂, q⟩ => wpAny_mono (q vs hid stk s₂ ok R₂ hvs) (fun _ _ y => y.keeps (k₁.trans k₂)) fun _ _ y => y
  show wpAny _ _ (callWith pos v [] (backTo pos (starEach (e :: rest) c.env)) []) _ _ s₁
  cases fv with
  | bi id =>
    simp only [VRep] at hv; subst hv
    exact callWith_builtin1 (wpAny_mono (h₁ hid stk s₁ ok R₁) fin fun _ _ y => y) he hplain
  | ty T =>
    simp only [VRep] at hv; subst hv
    exact callWith_type1 (wpAny_mono (h₁ hid stk s₁ ok R₁) fin fun _ _ y => y) he hplain
  | ref a =>
    simp only [VRep] at hv; subst hv
    obtain ⟨o, fd, ho, hfd⟩ := hF
    exact callWith_def hfd (wpAny_mono (h₁ hid stk s₁ ok R₁) (fun vs s₂ hq => ⟨(let ⟨_, _, R₂, _⟩ := hq; R₂.stays _ _ ho), fin vs s₂ hq⟩) fun _ _ y => y) he
  | none => exact hF.elim
  | bool b => exact hF.elim
  | int i => exact hF.elim
  | str x => exact hF.elim
  | tup l => exact hF.elim

/-! methods of lists -/
theorem E_MethList {o name apos e rest pos id} {Q : PV → St → Prop} (slot : Slot "list" name id) (hty : typeOf (.builtin id) = pure (.type "method_descriptor"))
    (h : WE c o X (fun ov st₁ => (∃ a l, ov = .ref a ∧ seqAt st₁.2 a = some l) ∧ WA c pos (e :: rest) X (fun ps st₂ => WN c VRep (ov :: ps) (fun vs => call (.builtin id) vs) X Q st₂) st₁) st)
    (hbase : attributeBase o name c.env (eval o c.env) = eval o c.env)
    (hfew : ((backTo pos (starEach (e :: rest) c.env)).all (fun x => !x.1) && (backToKw pos (keywordEach [] c.env)).all (fun x => x.1.isSome)
      && decide ((e :: rest).length + ([] : List Keyword).length + (if ([] : List Keyword).isEmpty then 0 else 1) < 30)) = true)
    (hline : (apos.endLine == pos.line) = true)
    (he : starEach (e :: rest) c.env = (false, eval e c.env) :: starEach rest c.env)
    (hplain : (backTo pos (starEach rest c.env)).any (·.1) = false) : WE c (.Call (.Attribute o name apos) (e :: rest) [] pos) X Q st := fun hid stk s ok R => by
  refine wpAny_Call_method hbase hfew hline F.plainAttrs_list slot hty (wpAny_mono (h hid stk s ok R) (fun v s₁ hp => ?_) fun _ _ y => y)
  obtain ⟨ov, st₁, R₁, hv, k₁, ⟨a, l, rfl, hs⟩, h₁⟩ := hp
  simp only [VRep] at hv; subst hv
  obtain ⟨vs, hL, _⟩ := R₁.seq hs
  refine ⟨hL.isList.typeIs, fun b hb => ?_, callWith_method1 (wpAny_mono (h₁ hid stk s₁ ok R₁) (fun vs s₂ hq => ?_) fun _ _ y => y) he hplain⟩
  · cases hb; obtain ⟨n, e⟩ := hL; exact ⟨_, e, rfl⟩
  · obtain ⟨ps, st₂, R₂, hvs, k₂, q⟩ := hq
    exact wpAny_mono (q (.ref a :: vs) hid stk s₂ ok R₂ (.cons rfl hvs)) (fun _ _ y => y.keeps (k₁.trans k₂)) fun _ _ y => y
theorem E_MethList0 {o name apos pos id} {Q : PV → St → Prop} (slot : Slot "list" name id) (hty : typeOf (.builtin id) = pure (.type "method_descriptor"))
    (h : WE c o X (fun ov st₁ => (∃ a l, ov = .ref a ∧ seqAt st₁.2 a = some l) ∧ WN c VRep [ov] (fun vs => call (.builtin id) vs) X Q st₁) st)
    (hbase : attributeBase o name c.env (eval o c.env) = eval o c.env)
    (hline : (apos.endLine == pos.line) = true) : WE c (.Call (.Attribute o name apos) [] [] pos) X Q st := fun hid stk s ok R => by
  refine wpAny_Call_method hbase rfl hline F.plainAttrs_list slot hty (wpAny_mono (h hid stk s ok R) (fun v s₁ hp => ?_) fun _ _ y => y)
  obtain ⟨ov, st₁, R₁, hv, k₁, ⟨a, l, rfl, hs⟩, h₁⟩ := hp
  simp only [VRep] at hv; subst hv
  obtain ⟨vs, hL, _⟩ := R₁.seq hs
  refine ⟨hL.isList.typeIs, fun b hb => ?_, callWith_method0 ?_⟩
  · cases hb; obtain ⟨n, e⟩ := hL; exact ⟨_, e, rfl⟩
  · exact wpAny_mono (h₁ [.ref a] hid stk s₁ ok R₁ (.cons rfl .nil)) (fun _ _ y => y.keeps k₁) fun _ _ y => y

/-! items -/
def GetI (c : Cx) (p q : PV) (X : String → St → Prop) (Q : PV → St → Prop) (st : St) : Prop :=
  ∀ v u hid stk s, COk c.lv c.A c.env (stk.map (·.1)) → Rep c.base c.os hid ((c.env.locals, st.1) :: stk) st.2 s → VRep s.heap p v → VRep s.heap q u →
    (∃ T id, s.TypeIs v T ∧ typeLookup (.type T) "__getitem__" = pure (some (.builtin id))) ∧ wpAny c.M c.A (getItem v u) (Post c VRep Q hid stk s.heap) (PostX c X hid stk) s
def notSlice : Expr → Bool
  | .Slice .. => false
  | _ => true
theorem subscripted_not {slice : Expr} (h : notSlice slice = true) (o i : Value) : subscripted slice false o i = operate [o, i] (getItem o i) := by
  cases slice <;> first | (cases h; done) | with_unfolding_all rfl
theorem E_Subscript {value slice pos} {Q : PV → St → Prop} (h : WE c value X (fun p st₁ => WE c slice X (fun q st₂ => GetI c p q X Q st₂) st₁) st)
    (hs : notSlice slice = true) : WE c (.Subscript value slice pos) X Q st := fun hid stk s ok R => by
  show wpAny _ _ (do
    let o ← eval value c.env
    let i ← holding [o] (eval slice c.env)
    standAt pos
    let r ← subscripted slice (← getitemInPython o) o i
    letTemporaryGo value o r
    pure r) _ _ s
  refine wpAny_bind (wpAny_mono (h hid stk s ok R) (fun v s₁ hp => ?_) fun _ _ y => y)
  obtain ⟨p, st₁, R₁, hv, k₁, h₁⟩ := hp
  refine wpAny_bind (wpAny_holding (wpAny_mono (h₁ hid stk s₁ ok R₁) (fun u s₂ hq => ?_) fun _ _ y => y))
  obtain ⟨q, st₂, R₂, hu, k₂, h₂⟩ := hq
  refine wpAny_bind (wpAny_standAt ?_)
  obtain ⟨⟨T, id, hT, hl⟩, hg⟩ := h₂ v u hid stk s₂ ok R₂ (hv.mono k₂) hu
  exact tail_any (value := value) (slice := slice) hT hl (wpAny_mono hg (fun _ _ y => y.keeps (k₁.trans k₂)) fun _ _ y => y) (subscripted_not hs v u)

theorem get_list {a : Addr} {l : List PV} {i : Int} {p : PV} {Q : PV → St → Prop} (hs : seqAt σ a = some l) (h0 : 0 ≤ i) (hx : l[i.toNat]? = some p) (hz : l.length ≤ 16777216) (h : Q p (μ, σ)) : GetI c (.ref a) (.int i) X Q (μ, σ) :=
  fun v u hid stk s ok R hv hu => by
    simp only [VRep] at hv hu; subst hv
    obtain ⟨t, rfl⟩ := hu
    obtain ⟨vs, hL, hvs⟩ := R.seq hs
    obtain ⟨x, hx', hr⟩ := hvs.get _ _ hx
    have hlt : i.toNat < l.length := (List.getElem?_eq_some_iff.mp hx).1
    exact ⟨⟨"list", _, hL.isList.typeIs, slot_list_getitem.lookup⟩, wpAny_getItem_list hL.isList h0 (by omega) (by simpa using hx') ⟨p, (μ, σ), R, hr, .refl _, h⟩⟩

/-- a plain list's item, stored -/
theorem wp_setItem {M : Model} {A : Around} {E : Value → Shared → Prop} {prog : Program} {w : World} {s : Shared} {a : Addr} {ws : List Value} {i : Int} {t : Tok} {v : Value} {Q : Unit → Shared → Prop} (hL : LI s.heap a ws) (h0 : 0 ≤ i) (hi : i < ws.length) (hz : ws.length ≤ 16777216)
    (h : Q () { s with heap := s.heap.update a (Obj.mapSeq (·.setIfInBounds i.toNat v)) }) : wpAny (model prog w) A (setItem (.ref a) (.int i t) v) Q E s := by
  have hT := hL.isList.typeIs
  obtain ⟨n, e⟩ := hL
  have hfit : i < 2 ^ 63 := by omega
  unfold setItem
  refine wpAny_holding (wpAny_bind (wpAny_sequenceKey hT (by decide) ?_))
  refine wpAny_bind (wpAny_callSpecial?_slot (name := Str.ofString "__setitem__") hT slot_list_setitem (wpAny_call_entry slot_list_setitem hT entry_list_setitem ?_ (args_list_setitem _ _ _)))
  show wpAny _ _ (Builtin.List.listSubscript? (.int i t) >>= _) _ _ s
  refine wpAny_bind (wpAny_listSubscript_int (fitsIndex_of h0 hfit) ?_)
  clear hfit hz
  obtain ⟨j, rfl⟩ := Int.eq_ofNat_of_zero_le h0
  have hj : j < ws.toArray.size := by simp; omega
  show wpAny _ _ ((seqItemAt a j >>= fun r => pure (r.map (j, ·))) >>= _) _ _ s
  refine wpAny_bind (wpAny_bind (wpAny_seqItemAt e rfl (wpAny_pure ?_)))
  rw [Array.getElem?_eq_getElem hj]
  show wpAny _ _ (setSeqItemAt a j v >>= _) _ _ s
  refine wpAny_bind (wpAny_setSeqItemAt e rfl ?_)
  first
    | exact wpAny_bind (wpAny_pure (wpAny_pure ⟨.none, rfl, wpAny_pure h⟩))
    | exact wpAny_pure ⟨.none, rfl, wpAny_pure h⟩

def W3 (c : Cx) {α β : Type} (rep : Heap → β → α → Prop) (p q r : PV) (t : Value → Value → Value → Sem α) (X : String → St → Prop) (Q : β → St → Prop) (st : St) : Prop :=
  ∀ v u w hid stk s, COk c.lv c.A c.env (stk.map (·.1)) → Rep c.base c.os hid ((c.env.locals, st.1) :: stk) st.2 s → VRep s.heap p v → VRep s.heap q u → VRep s.heap r w → wpAny c.M c.A (t v u w) (Post c rep Q hid stk s.heap) (PostX c X hid stk) s

theorem set_list {a : Addr} {l : List PV} {i : Int} {p : PV} {Q : Unit → St → Prop} (hs : σ a = some (.list l)) (h0 : 0 ≤ i) (hi : i < l.length) (hz : l.length ≤ 16777216) (h : Q () (μ, σ.set a (.list (l.set i.toNat p)))) :
    W3 c UnitRep (.ref a) (.int i) p (fun o i v => setItem o i v) X Q (μ, σ) := fun v1 v2 v3 hid stk s ok R h1 h2 h3 => by
  simp only [VRep] at h1 h2; subst h1
  obtain ⟨t, rfl⟩ := h2
  obtain ⟨hb, ws, hL, hws⟩ := R.heap _ _ hs
  have hlen := hws.length
  refine wp_setItem (M := c.M) hL h0 (by omega) (by omega) ?_
  obtain ⟨R', k⟩ := R.listUpd (tk := s.toks) (ws := ws.set i.toNat v3) hs upd_other (hL.upd (f := fun x => x.setIfInBounds i.toNat v3) (by simp)) (hws.set i.toNat h3)
  exact ⟨(), (μ, _), R', trivial, k, h⟩
theorem S_AssignSub {o i pos' value pos} {Q : AFlow → St → Prop}
    (h : WE c value X (fun p st₁ => WE c o X (fun po st₂ => WE c i X (fun pi st₃ => W3 c UnitRep po pi p (fun o i v => setItem o i v) X (fun _ st₄ => Q .next st₄) st₃) st₂) st₁) st)
    (hs : swapsWith value (some (.Subscript o i pos')) pos.line c.env = pure false) : WX c (.Assign [.Subscript o i pos'] value pos) X Q st := fun hid stk s ok R =>
  wpAny_Assign_Subscript (wpAny_mono (h hid stk s ok R) (fun v s₁ ⟨p, st₁, R₁, hv, k₁, h₁⟩ =>
    wpAny_mono (h₁ hid stk s₁ ok R₁) (fun vo s₂ ⟨po, st₂, R₂, hvo, k₂, h₂⟩ =>
      wpAny_mono (h₂ hid stk s₂ ok R₂) (fun vi s₃ ⟨pi, st₃, R₃, hvi, k₃, h₃⟩ =>
        wpAny_mono (h₃ vo vi v hid stk s₃ ok R₃ (hvo.mono k₃) hvi (hv.mono (k₂.trans k₃))) (fun _ s₄ ⟨_, st₄, R₄, _, k₄, q⟩ => ⟨.next, st₄, R₄, rfl, (k₁.trans k₂).trans (k₃.trans k₄), q⟩) fun _ _ y => y) fun _ _ y => y) fun _ _ y => y) fun _ _ y => y) hs

/-! list calls -/
theorem len_seq {a : Addr} {l : List PV} {Q : PV → St → Prop} (hs : seqAt σ a = some l) (hz : l.length ≤ 16777216) (h : Q (.int l.length) (μ, σ)) : WN c VRep [.ref a] (fun vs => call (.builtin "len") vs) X Q (μ, σ) := fun vs hid stk s ok R hv => by
  obtain ⟨v1, r1, rfl, h1, hv⟩ := hv.cons_inv
  rw [hv.nil_inv]
  simp only [VRep] at h1; subst h1
  obtain ⟨ws, hL, hws⟩ := R.seq hs
  have hlen := hws.length
  refine len_list hL.isList (by simp; omega) ⟨.int l.length, (μ, σ), R.toks _, ⟨s.toks + 1, ?_⟩, .refl _, h⟩
  simp [hlen]
theorem append_list {a : Addr} {l : List PV} {p : PV} {Q : PV → St → Prop} (hs : σ a = some (.list l)) (hz : l.length ≤ 16777216) (h : Q .none (μ, σ.set a (.list (l ++ [p])))) :
    WN c VRep [.ref a, p] (fun vs => call (.builtin "list.append") vs) X Q (μ, σ) := fun vs hid stk s ok R hv => by
  obtain ⟨v1, r1, rfl, h1, hv⟩ := hv.cons_inv
  obtain ⟨v2, r2, rfl, h2, hv⟩ := hv.cons_inv
  rw [hv.nil_inv]
  simp only [VRep] at h1; subst h1
  obtain ⟨hb, ws, hL, hws⟩ := R.heap _ _ hs
  have hlen := hws.length
  refine wpAny_list_append_plain (items := ws.toArray) hL (fun h' hp hsb => ?_) (by simp [sizeLine_eq]; omega)
  have hn : LI h' a (ws ++ [v2]) := by simpa [LI, Heap.PlainList] using hp
  obtain ⟨R', k⟩ := R.listUpd (tk := s.toks) hs (fun b ob hne e => (hsb.2 b hne).trans e) hn (hws.append (.cons h2 .nil))
  exact ⟨.none, (μ, _), R', by simp only [VRep], k, h⟩

/-! truth -/
theorem truthy_b {b : Bool} {Q : Bool → St → Prop} (h : Q b st) : W1 c BoolRep (.bool b) truthy X Q st := fun v hid stk s ok R hv => by
  simp only [VRep] at hv; subst hv; exact wpAny_truthy_bool ⟨b, st, R, rfl, .refl _, h⟩
theorem truthy_l {a : Addr} {l : List PV} {Q : Bool → St → Prop} (hs : seqAt σ a = some l) (hz : l.length ≤ 16777216) (h : Q (!l.isEmpty) (μ, σ)) : W1 c BoolRep (.ref a) truthy X Q (μ, σ) := fun v hid stk s ok R hv => by
  simp only [VRep] at hv; subst hv
  obtain ⟨ws, hL, hws⟩ := R.seq hs
  have hlen := hws.length
  refine wpAny_truthy_list hL.isList (by simp; omega) ⟨!l.isEmpty, (μ, σ), R.toks _, ?_, .refl _, h⟩
  show (!ws.toArray.isEmpty) = !l.isEmpty
  cases l <;> cases ws <;> simp_all

/-! ints -/
theorem W2_ints {op : Operator} {i j r : Int} {Q : PV → St → Prop} (hop : ∀ {prog : Program} {w : World} {A : Around} {E : Value → Shared → Prop} {s : Shared} {t u : Tok} {Q : Value → Shared → Prop}, Q (.int r s.toks) { s with toks := s.toks + 1 } → wpAny (model prog w) A (binaryOp op (.int i t) (.int j u)) Q E s)
    (h : Q (.int r) st) : W2 c VRep (.int i) (.int j) (binaryOp op) X Q st := fun v u hid stk s ok R hv hu => by
  simp only [VRep] at hv hu; obtain ⟨t, rfl⟩ := hv; obtain ⟨t', rfl⟩ := hu
  exact hop ⟨.int r, st, R.toks _, ⟨_, rfl⟩, .refl _, h⟩
theorem bin_add {i j : Int} {Q : PV → St → Prop} (h : Q (.int (i + j)) st) : W2 c VRep (.int i) (.int j) (binaryOp .Add) X Q st := W2_ints (fun q => PyProof.Rows.add_int q) h
theorem bin_sub {i j : Int} {Q : PV → St → Prop} (h : Q (.int (i - j)) st) : W2 c VRep (.int i) (.int j) (binaryOp .Sub) X Q st := W2_ints (fun q => PyProof.Rows.sub_int q) h
theorem bin_mul {i j : Int} {Q : PV → St → Prop} (h : Q (.int (i * j)) st) (hm : IntMulOk i j) : W2 c VRep (.int i) (.int j) (binaryOp .Mult) X Q st := W2_ints (fun q => PySem.P.mul_int q hm) h
theorem bin_mod {i j : Int} {Q : PV → St → Prop} (hb : j ≠ 0) (h : Q (.int (i.fmod j)) st) : W2 c VRep (.int i) (.int j) (binaryOp .Mod) X Q st := W2_ints (fun q => PyProof.Rows.mod_int hb q) h
theorem bin_shr {i j : Int} {Q : PV → St → Prop} (hb : 0 ≤ j) (h : Q (.int (i.fdiv (2 ^ j.toNat))) st) : W2 c VRep (.int i) (.int j) (binaryOp .RShift) X Q st := W2_ints (fun q => PyProof.Rows.rshift_int hb q) h

theorem W2_cmp {op : CmpOp} {i j : Int} {r : Bool} {Q : PV → St → Prop} (hop : ∀ {prog : Program} {w : World} {A : Around} {E : Value → Shared → Prop} {s : Shared} {t u : Tok} {Q : Value → Shared → Prop}, Q (.bool r) s → wpAny (model prog w) A (compareOp op (.int i t) (.int j u)) Q E s)
    (h : Q (.bool r) st) : W2 c VRep (.int i) (.int j) (compareOp op) X Q st := fun v u hid stk s ok R hv hu => by
  simp only [VRep] at hv hu; obtain ⟨t, rfl⟩ := hv; obtain ⟨t', rfl⟩ := hu
  exact hop ⟨.bool r, st, R, rfl, .refl _, h⟩
theorem cmp_lt {i j : Int} {Q : PV → St → Prop} (h : Q (.bool (decide (i < j))) st) : W2 c VRep (.int i) (.int j) (compareOp .Lt) X Q st := W2_cmp (fun q => PySem.P.lt_int q) h
theorem cmp_le {i j : Int} {Q : PV → St → Prop} (h : Q (.bool (decide (i ≤ j))) st) : W2 c VRep (.int i) (.int j) (compareOp .LtE) X Q st := W2_cmp (fun q => PySem.P.le_int q) h
theorem cmp_gt {i j : Int} {Q : PV → St → Prop} (h : Q (.bool (decide (i > j))) st) : W2 c VRep (.int i) (.int j) (compareOp .Gt) X Q st := W2_cmp (fun q => PySem.P.gt_int q) h
theorem cmp_ge {i j : Int} {Q : PV → St → Prop} (h : Q (.bool (decide (i ≥ j))) st) : W2 c VRep (.int i) (.int j) (compareOp .GtE) X Q st := W2_cmp (fun q => PySem.P.ge_int q) h
theorem cmp_eq {i j : Int} {Q : PV → St → Prop} (h : Q (.bool (i == j)) st) : W2 c VRep (.int i) (.int j) (compareOp .Eq) X Q st := W2_cmp (fun q => PySem.P.eq_int q) h
end
end Mine
end
section
open PySem PySem.W PyProof.Rows
set_option Elab.async false
set_option linter.unusedVariables false
namespace Mine

/-- st' tells no more than st -/
def St.le (st' st : St) : Prop := (∀ x p, st'.1.lookup x = some p → st.1.lookup x = some p) ∧ st'.2.Sub st.2
theorem St.le_refl (st : St) : St.le st st := ⟨fun _ _ h => h, .refl _⟩
theorem lookup_append_left {x : Str} {p : PV} : ∀ {μ ν : Locals}, μ.lookup x = some p → (μ ++ ν).lookup x = some p
  | [], _, h => by cases h
  | (y, q) :: r, ν, h => by
    rw [List.cons_append, List.lookup_cons]
    rw [List.lookup_cons] at h
    split at h
    · assumption
    · exact lookup_append_left h
theorem St.le_app {μ ν : Locals} {σ σ' : AHeap} (h : σ.Sub σ') : St.le (μ, σ) (μ ++ ν, σ') := ⟨fun _ _ e => lookup_append_left e, h⟩

section
variable {c : Cx} {X : String → St → Prop} {st : St}
theorem WT.le {α β : Type} {rep : Heap → β → α → Prop} {t : Sem α} {Q : β → St → Prop} {st' : St} (h : WT c rep t X Q st') (hl : St.le st' st) : WT c rep t X Q st :=
  fun hid stk s ok R => h hid stk s ok ((R.weaken hl.2).locals hl.1)

/-! continuations that stand once -/
def seqQ (c : Cx) (l : List Stmt) (X : String → St → Prop) (Q : AFlow → St → Prop) : AFlow → St → Prop
  | .next, st => WS c l X Q st
  | .brk, st => Q .brk st
  | .cont, st => Q .cont st
  | .ret p, st => Q (.ret p) st
theorem seqQ_next {l : List Stmt} {Q : AFlow → St → Prop} (h : WS c l X Q st) : seqQ c l X Q .next st := h
theorem seqQ_cont {l : List Stmt} {Q : AFlow → St → Prop} (h : Q .cont st) : seqQ c l X Q .cont st := h
theorem seqQ_ret {l : List Stmt} {Q : AFlow → St → Prop} {p} (h : Q (.ret p) st) : seqQ c l X Q (.ret p) st := h
theorem S_seq {x l} {Q : AFlow → St → Prop} (h : WX c x X (seqQ c l X Q) st) : WS c (x :: l) X Q st :=
  S_cons (WT.mono h (fun f st q => by cases f <;> exact q) fun _ _ q => q)
theorem S_last {x} {Q : AFlow → St → Prop} (h : WX c x X Q st) : WS c [x] X Q st :=
  S_cons (WT.mono h (fun f st q => by cases f with | next => exact S_nil q | brk => exact q | cont => exact q | ret p => exact q) fun _ _ q => q)

def ifQ (c : Cx) (body orelse : List Stmt) (X : String → St → Prop) (Q : AFlow → St → Prop) (b : Bool) (st : St) : Prop := if b then WS c body X Q st else WS c orelse X Q st
theorem ifQ_true {l r : List Stmt} {Q : AFlow → St → Prop} (h : WS c l X Q st) : ifQ c l r X Q true st := h
theorem ifQ_false {l r : List Stmt} {Q : AFlow → St → Prop} (h : WS c r X Q st) : ifQ c l r X Q false st := h
theorem ifQ_dec {l r : List Stmt} {Q : AFlow → St → Prop} {b : Bool} (h1 : b = true → WS c l X Q st) (h2 : b = false → WS c r X Q st) : ifQ c l r X Q b st := by
  cases b
  · exact h2 rfl
  · exact h1 rfl
theorem S_if {test body orelse pos} {Q : AFlow → St → Prop} (h : WC c test X (ifQ c body orelse X Q) st) : WX c (.If test body orelse pos) X Q st := S_If h

def andQ (c : Cx) (l : List Expr) (X : String → St → Prop) (Q : Bool → St → Prop) (b : Bool) (st : St) : Prop := if b then WAll c .And l X Q st else Q false st
theorem andQ_false {l} {Q : Bool → St → Prop} (h : Q false st) : andQ c l X Q false st := h
theorem andQ_dec {l} {Q : Bool → St → Prop} {b : Bool} (h1 : b = true → WAll c .And l X Q st) (h2 : b = false → Q false st) : andQ c l X Q b st := by
  cases b
  · exact h2 rfl
  · exact h1 rfl
theorem And_step {x l} {Q : Bool → St → Prop} (h : WC c x X (andQ c l X Q) st) : WAll c .And (x :: l) X Q st := And_cons h
def orQ (c : Cx) (l : List Expr) (X : String → St → Prop) (Q : Bool → St → Prop) (b : Bool) (st : St) : Prop := if b then Q true st else WAll c .Or l X Q st
theorem orQ_true {l} {Q : Bool → St → Prop} (h : Q true st) : orQ c l X Q true st := h
theorem orQ_dec {l} {Q : Bool → St → Prop} {b : Bool} (h1 : b = true → Q true st) (h2 : b = false → WAll c .Or l X Q st) : orQ c l X Q b st := by
  cases b
  · exact h2 rfl
  · exact h1 rfl
theorem Or_step {x l} {Q : Bool → St → Prop} (h : WC c x X (orQ c l X Q) st) : WAll c .Or (x :: l) X Q st := Or_cons h
/-- the last of a chain -/
theorem And_last {x} {Q : Bool → St → Prop} (h : WC c x X Q st) : WAll c .And [x] X Q st :=
  And_cons (WT.mono h (fun b st q => by cases b; exact q; exact And_nil q) fun _ _ q => q)
theorem Or_last {x} {Q : Bool → St → Prop} (h : WC c x X Q st) : WAll c .Or [x] X Q st :=
  Or_cons (WT.mono h (fun b st q => by cases b; exact Or_nil q; exact q) fun _ _ q => q)

def loopQ (I : Nat → St → Prop) (n : Nat) (Q : AFlow → St → Prop) : AFlow → St → Prop
  | .next, st | .cont, st => ∃ m st₃, m < n ∧ I m st₃ ∧ St.le st₃ st
  | .brk, st => Q .next st
  | .ret p, st => Q (.ret p) st
theorem loopQ_brk {I n} {Q : AFlow → St → Prop} (h : Q .next st) : loopQ I n Q .brk st := h
theorem loopQ_next {I : Nat → St → Prop} {n} {Q : AFlow → St → Prop} (m : Nat) {st₃ : St} (hm : m < n) (h : I m st₃) (hl : St.le st₃ st) : loopQ I n Q .next st := ⟨m, st₃, hm, h, hl⟩
theorem loopQ_cont {I : Nat → St → Prop} {n} {Q : AFlow → St → Prop} (m : Nat) {st₃ : St} (hm : m < n) (h : I m st₃) (hl : St.le st₃ st) : loopQ I n Q .cont st := ⟨m, st₃, hm, h, hl⟩

/-- a while by what holds between its turns; what a turn leaves behind may be forgotten -/
theorem S_while {test body orelse pos} {Q : AFlow → St → Prop} (I : Nat → St → Prop) (n : Nat) (st₀ : St) (h0 : I n st₀) (hl0 : St.le st₀ st)
    (turn : ∀ n st, I n st → WC c test X (fun b st₁ => (b = true → WS c body X (loopQ I n Q) st₁) ∧ (b = false → WS c orelse X Q st₁)) st) : WX c (.While test body orelse pos) X Q st := by
  refine S_While (fun n st => ∃ st₀, I n st₀ ∧ St.le st₀ st) n ⟨st₀, h0, hl0⟩ fun n st ⟨st₀, hI, hl⟩ => WT.le ?_ hl
  refine (turn n st₀ hI).mono (fun b st₁ h₁ => ?_) fun _ _ x => x
  cases b
  · exact h₁.2 rfl
  · refine WT.mono (h₁.1 rfl) (fun f st₂ h₂ => ?_) fun _ _ x => x
    cases f with
    | next => obtain ⟨m, st₃, h1, h2, h3⟩ := h₂; exact ⟨m, h1, st₃, h2, h3⟩
    | cont => obtain ⟨m, st₃, h1, h2, h3⟩ := h₂; exact ⟨m, h1, st₃, h2, h3⟩
    | brk => exact h₂
    | ret p => exact h₂
end

theorem at_set_same {σ : AHeap} {a : Addr} {o : AObj} : (σ.set a o) a = some o := AHeap.set_same ..
theorem at_set_ne {σ : AHeap} {a b : Addr} {o o' : AObj} (h : b ≠ a) (h2 : σ b = some o) : (σ.set a o') b = some o := by rw [AHeap.set_ne _ _ h]; exact h2
theorem seq_of {σ : AHeap} {a : Addr} {l : List PV} (h : σ a = some (.list l)) : seqAt σ a = some l := by simp [seqAt, h, AObj.items?]
theorem seq_ofr {σ : AHeap} {a : Addr} {l : List PV} (h : σ a = some (.rlist l)) : seqAt σ a = some l := by simp [seqAt, h, AObj.items?]
end Mine
end
section
open PySem PySem.W PyProof.Rows
set_option Elab.async false
set_option linter.unusedVariables false
namespace Mine

section
variable {base : Heap} {os₀ : OsState} {hid hs hs' : List (Addr × Obj)} {stk : List (Addr × Locals)} {σ : AHeap} {s : Shared}

/-- hidden things have changed -/
theorem Rep.hidChange (R : Rep base os₀ (hs ++ hid) stk σ s) {h' : Heap} {tk : Nat} (hm : hs'.map (·.1) = hs.map (·.1)) (hn : ∀ p ∈ hs', h'.get? p.1 = some p.2 ∧ p.2.cls ≠ .type "tuple")
    (hk : ∀ b o, b ∉ hs.map (·.1) → s.heap.get? b = some o → h'.get? b = some o) (hcl : ∀ p ∈ hs, p.2.cls ≠ .type "tuple") (ht : s.toks ≤ tk := by first | exact Nat.le_refl _ | exact Nat.le_succ _ | assumption) : Rep base os₀ (hs' ++ hid) stk σ { s with heap := h', toks := tk } ∧ Keeps s.heap h' := by
  have hin : ∀ b, b ∈ hs.map (·.1) → ∃ p ∈ hs ++ hid, p.1 = b := fun b hb => let ⟨p, hp, e⟩ := List.mem_map.mp hb; ⟨p, List.mem_append_left _ hp, e⟩
  have hin' : ∀ b, b ∈ hs.map (·.1) → ∃ p ∈ hs, p.1 = b := fun b hb => let ⟨p, hp, e⟩ := List.mem_map.mp hb; ⟨p, hp, e⟩
  have k : Keeps s.heap h' := fun b vs ⟨n, e⟩ => ⟨n, hk b _ (fun q => by
    obtain ⟨p, hp, rfl⟩ := hin' b q
    obtain ⟨a1, _, _, _, e1⟩ := R.hid p (List.mem_append_left _ hp)
    rw [a1] at e; exact hcl p hp (by rw [Option.some.inj e])) e⟩
  have hnd : ((hs' ++ hid).map (·.1)).Nodup := by have := R.hnd; rw [List.map_append] at this ⊢; rw [hm]; exact this
  refine ⟨⟨fun b o e => hk b o (fun q => ?_) (R.stays b o e), R.gens, R.os, fun p hp => ?_, fun f hf => ⟨(R.frames f hf).1.mono k fun _ => hk _ _ fun q => ?_, (R.frames f hf).2⟩, R.nodup, hnd, fun b o e => (R.heap b o e).mono k fun _ => hk _ _ fun q => ?_, Nat.lt_of_lt_of_le R.tk ht⟩, k⟩
  · obtain ⟨p, hp, rfl⟩ := hin b q
    rw [(R.hid p hp).2.1] at e; cases e
  · rcases List.mem_append.mp hp with hp | hp
    · have : p.1 ∈ hs.map (·.1) := hm ▸ List.mem_map_of_mem hp
      obtain ⟨q, hq, e⟩ := hin _ this
      obtain ⟨_, b1, c1, d1, _⟩ := R.hid q hq
      exact ⟨(hn p hp).1, e ▸ b1, e ▸ c1, e ▸ d1, trivial⟩
    · obtain ⟨a1, r⟩ := R.hid p (List.mem_append_right _ hp)
      refine ⟨hk _ _ (fun q => ?_) a1, r⟩
      have := R.hnd
      rw [List.map_append, List.nodup_append] at this
      exact this.2.2 _ q _ (List.mem_map_of_mem hp) rfl
  · obtain ⟨p, hp, e⟩ := hin _ q
    exact (R.hid p hp).2.2.2.1 (e ▸ List.mem_map_of_mem hf)
  · obtain ⟨p, hp, e'⟩ := hin _ q
    have := (R.hid p hp).2.2.1
    rw [e', e] at this; cases this
theorem Rep.hidDrop (R : Rep base os₀ (hs ++ hid) stk σ s) : Rep base os₀ hid stk σ s :=
  ⟨R.stays, R.gens, R.os, fun p hp => R.hid p (List.mem_append_right _ hp), R.frames, R.nodup, by have := R.hnd; rw [List.map_append, List.nodup_append] at this; exact this.2.1, R.heap, R.tk⟩
/-- hidden things have gone wrong and are forgotten -/
theorem Rep.hidForget (R : Rep base os₀ (hs ++ hid) stk σ s) {h' : Heap} {tk : Nat} (hk : ∀ b o, b ∉ hs.map (·.1) → s.heap.get? b = some o → h'.get? b = some o) (hcl : ∀ p ∈ hs, p.2.cls ≠ .type "tuple") (ht : s.toks ≤ tk := by first | exact Nat.le_refl _ | exact Nat.le_succ _ | assumption) : Rep base os₀ hid stk σ { s with heap := h', toks := tk } ∧ Keeps s.heap h' := by
  have hin : ∀ b, b ∈ hs.map (·.1) → ∃ p ∈ hs ++ hid, p.1 = b := fun b hb => let ⟨p, hp, e⟩ := List.mem_map.mp hb; ⟨p, List.mem_append_left _ hp, e⟩
  have hin' : ∀ b, b ∈ hs.map (·.1) → ∃ p ∈ hs, p.1 = b := fun b hb => let ⟨p, hp, e⟩ := List.mem_map.mp hb; ⟨p, hp, e⟩
  have k : Keeps s.heap h' := fun b vs ⟨n, e⟩ => ⟨n, hk b _ (fun q => by
    obtain ⟨p, hp, rfl⟩ := hin' b q
    obtain ⟨a1, _, _, _, e1⟩ := R.hid p (List.mem_append_left _ hp)
    rw [a1] at e; exact hcl p hp (by rw [Option.some.inj e])) e⟩
  refine ⟨⟨fun b o e => hk b o (fun q => ?_) (R.stays b o e), R.gens, R.os, fun p hp => ?_, fun f hf => ⟨(R.frames f hf).1.mono k fun _ => hk _ _ fun q => ?_, (R.frames f hf).2⟩, R.nodup, R.hidDrop.hnd, fun b o e => (R.heap b o e).mono k fun _ => hk _ _ fun q => ?_, Nat.lt_of_lt_of_le R.tk ht⟩, k⟩
  · obtain ⟨p, hp, rfl⟩ := hin b q
    rw [(R.hid p hp).2.1] at e; cases e
  · obtain ⟨a1, r⟩ := R.hid p (List.mem_append_right _ hp)
    refine ⟨hk _ _ (fun q => ?_) a1, r⟩
    have := R.hnd
    rw [List.map_append, List.nodup_append] at this
    exact this.2.2 _ q _ (List.mem_map_of_mem hp) rfl
  · obtain ⟨p, hp, e⟩ := hin _ q
    exact (R.hid p hp).2.2.2.1 (e ▸ List.mem_map_of_mem hf)
  · obtain ⟨p, hp, e'⟩ := hin _ q
    have := (R.hid p hp).2.2.1
    rw [e', e] at this; cases this
/-- a new hidden thing -/
theorem Rep.hidNew (R : Rep base os₀ hid stk σ s) {ob : Obj} (hc : ob.cls ≠ .type "tuple") (hf : ob.isFreed = false) : Rep base os₀ ((s.heap.objs.size, ob) :: hid) stk σ { s with heap := s.heap.push ob } := by
  have R' := R.grow (s' := { s with heap := s.heap.push ob }) (fun _ _ e => Heap.get?_push_of_some _ e) rfl rfl
  refine ⟨R'.stays, R'.gens, R'.os, fun p hp => ?_, R'.frames, R'.nodup, ?_, R'.heap, R'.tk⟩
  · rcases List.mem_cons.mp hp with rfl | hp
    · refine ⟨Heap.get?_push_size _ hf, R.fresh_base, R.fresh_σ, fun q => ?_, trivial⟩
      obtain ⟨f, hf, e⟩ := List.mem_map.mp q
      exact R.fresh_stk f hf e
    · exact R'.hid p hp
  · simp only [List.map_cons, List.nodup_cons]
    exact ⟨fun q => by obtain ⟨p, hp, e⟩ := List.mem_map.mp q; exact R.fresh_hid p hp e, R.hnd⟩
end

/-- an iterator at work: Sk k tells its hidden things ahead of item k -/
structure IterAt (G : Gx) (target : Expr) (it : Addr) (Sk : Nat → List (Addr × Obj) → Prop) (KP : Heap → Prop) (P : AHeap → Prop) (items : List PV) : Prop where
  mono : ∀ h h', Keeps h h' → KP h → KP h'
  next : ∀ k p, items[k]? = some p → ∀ A hid stk σ s hs E Q, A.handled = none → Sk k hs → KP s.heap → P σ → Rep G.base G.os (hs ++ hid) stk σ s →
    (∀ v s', (∀ Q' E' A', (∀ s'' hs'', Sk (k + 1) hs'' → Rep G.base G.os (hs'' ++ hid) stk σ s'' → Keeps s'.heap s''.heap → Q' () s'') → wpAny G.M A' (letOwnedTupleGo target (.ref it) v) Q' E' s') → VRep s'.heap p v → Keeps s.heap s'.heap → Q (some v) s') → wpAny G.M A (pyNext (.ref it)) Q E s
  stop : ∀ A hid stk σ s hs E Q, A.handled = none → Sk items.length hs → KP s.heap → P σ → Rep G.base G.os (hs ++ hid) stk σ s →
    (∀ s', Rep G.base G.os hid stk σ s' → Keeps s.heap s'.heap → Q none s') → wpAny G.M A (pyNext (.ref it)) Q E s
  self : ∀ k A hid stk σ s hs E Q, Sk k hs → Rep G.base G.os (hs ++ hid) stk σ s → Q (.ref it) s → wpAny G.M A (pyIter (.ref it)) Q E s

theorem letOwned_other {prog : Program} {w : World} {A : Around} {E : Value → Shared → Prop} {s : Shared} {target : Expr} {it : Addr} {v : Value} {ob : Obj} {Q : Unit → Shared → Prop} (ho : s.heap.get? it = some ob)
    (hc : ∀ n, ob.cls = .type n → ["enumerate", "zip", "dict_itemiterator", "dict_reverseitemiterator", "odict_iterator", "itertools.zip_longest", "itertools.pairwise"].contains n = false) (h : Q () s) : wpAny (model prog w) A (letOwnedTupleGo target (.ref it) v) Q E s := by
  have key : ∀ a : Addr, wpAny (model prog w) A (do
      let o ← load it
      match o.cls, o.data with
      | .type n, .fields vs =>
        if ["enumerate", "zip", "dict_itemiterator", "dict_reverseitemiterator", "odict_iterator", "itertools.zip_longest", "itertools.pairwise"].contains n && vs[0]? == some (rawInt a) then
          rule "for.unpacks-the-owned-tuple"
          updateField it 0 .none
      | _, _ => pure ()) Q E s := fun a => by
    refine wpAny_bind (wpAny_load ho ?_)
    obtain ⟨cl, d, dt, sl⟩ := ob
    cases cl with
    | type n =>
      cases dt with
      | fields vs =>
        have := hc n rfl
        simp only [this, Bool.false_and, Bool.false_eq_true, if_false]
        exact wpAny_pure h
      | _ => exact wpAny_pure h
    | _ => exact wpAny_pure h
  unfold letOwnedTupleGo
  cases target <;> first
    | exact wpAny_pure h
    | (cases v <;> first | exact wpAny_pure h | exact key _)

section
variable {G : Gx}
def IsLIt (a : Addr) (k : Nat) (o : Obj) : Prop := o.cls = .type "list_iterator" ∧ o.data = .fields #[.ref a, .int k 0]
theorem iter_list (target : Expr) (it a : Addr) (l : List PV) : IterAt G target it (fun k hs => ∃ o, hs = [(it, o)] ∧ IsLIt a k o) (fun _ => True) (fun σ => seqAt σ a = some l) l where
  mono := fun _ _ _ _ => trivial
  next := fun k p hp A hid stk σ s hs E Q hh hsk _ hσ R hQ => by
    obtain ⟨o, rfl, hc, hd⟩ := hsk
    obtain ⟨vs, hL, hvs⟩ := R.seq hσ
    obtain ⟨v, hv, hr⟩ := hvs.get _ _ hp
    have ho := (R.hid (it, o) (List.mem_cons_self ..)).1
    refine wpAny_pyNext_list_item ⟨_, ho, hc, hd⟩ hL.isList (by simpa using hv) fun h' hit' hs' => ?_
    obtain ⟨o', ho', hc', hd'⟩ := hit'
    obtain ⟨R', kp⟩ := R.hidChange (hs' := [(it, o')]) (tk := s.toks) (h' := h') rfl (fun q hq => by simp at hq; subst hq; exact ⟨ho', by rw [hc']; decide⟩) (fun b ob hb e => (hs'.2 b (by simpa using hb)).trans e) (fun q hq => by simp at hq; subst hq; show o.cls ≠ _; rw [hc]; decide)
    exact hQ v _ (fun Q' E' A' hq => letOwned_other ho' (fun n e => by rw [hc'] at e; cases e; rfl) (hq _ _ ⟨o', rfl, hc', by simpa using hd'⟩ R' (.refl _))) (hr.mono kp) kp
  stop := fun A hid stk σ s hs E Q hh hsk _ hσ R hQ => by
    obtain ⟨o, rfl, hc, hd⟩ := hsk
    obtain ⟨vs, hL, hvs⟩ := R.seq hσ
    have ho := (R.hid (it, o) (List.mem_cons_self ..)).1
    refine wpAny_pyNext_list_end hh ⟨_, ho, hc, hd⟩ hL.isList (by simp [hvs.length]) fun h' he => ?_
    obtain ⟨R', k⟩ := R.hidForget (tk := s.toks) (h' := h') (fun b o hb e => he b o (by simpa using hb) e) (fun q hq => by simp at hq; subst hq; show o.cls ≠ _; rw [hc]; decide)
    exact hQ _ R' k
  self := fun k A hid stk σ s hs E Q hsk R hQ => by
    obtain ⟨o, rfl, hc, hd⟩ := hsk
    have ho := (R.hid (it, o) (List.mem_cons_self ..)).1
    exact wpAny_pyIter_listiter ⟨_, ho, hc, hd⟩ hQ

/-- the ints from a by c -/
def rangeL (a c : Int) (n : Nat) : List PV := (List.range n).map fun (i : Nat) => PV.int (a + (i : Int) * c)
@[simp] theorem rangeL_length (a c : Int) (n : Nat) : (rangeL a c n).length = n := by simp [rangeL]
theorem rangeL_get {a c : Int} {n k : Nat} {p : PV} (h : (rangeL a c n)[k]? = some p) : k < n ∧ p = .int (a + (k : Int) * c) := by
  simp only [rangeL, List.getElem?_map] at h
  cases q : (List.range n)[k]? with
  | none => rw [q] at h; cases h
  | some j =>
    rw [q] at h
    obtain ⟨h1, h2⟩ := List.getElem?_eq_some_iff.mp q
    simp at h1 h2
    subst h2
    exact ⟨h1, (Option.some.inj h).symm⟩
theorem iter_range (target : Expr) (it : Addr) (a c : Int) (n : Nat) : IterAt G target it (fun k hs => hs = [(it, { cls := .type "range_iterator", dict := none, data := .fields #[rawInt (a + (k : Int) * c), rawInt ((n : Int) - (k : Int)), rawInt c], slots := #[] })]) (fun _ => True) (fun _ => True) (rangeL a c n) where
  mono := fun _ _ _ _ => trivial
  next := fun k p hp A hid stk σ s hs E Q hh hsk _ hσ R hQ => by
    subst hsk
    obtain ⟨hk, rfl⟩ := rangeL_get hp
    have ho := (R.hid _ (List.mem_cons_self ..)).1
    refine wpAny_pyNext_range_item ho (by omega) fun h' hit' hs' => ?_
    obtain ⟨R', kp⟩ := R.hidChange (hs' := [(it, { cls := .type "range_iterator", dict := none, data := .fields #[rawInt (a + ((k + 1 : Nat) : Int) * c), rawInt ((n : Int) - ((k + 1 : Nat) : Int)), rawInt c], slots := #[] })]) (tk := s.toks + 1) (h' := h') rfl (fun q hq => by
      simp at hq; subst hq
      refine ⟨?_, by show Value.type "range_iterator" ≠ Value.type "tuple"; decide⟩
      have e1 : a + ((k + 1 : Nat) : Int) * c = a + (k : Int) * c + c := by push_cast; rw [Int.add_mul, Int.one_mul, Int.add_assoc]
      have e2 : (n : Int) - ((k + 1 : Nat) : Int) = (n : Int) - (k : Int) - 1 := by push_cast; omega
      have e1' : a + ((k : Int) + 1) * c = a + (k : Int) * c + c := by rw [Int.add_mul, Int.one_mul, Int.add_assoc]
      have e2' : (n : Int) - ((k : Int) + 1) = (n : Int) - (k : Int) - 1 := by omega
      first | (rw [e1, e2]; exact hit') | (rw [e1', e2']; exact hit')) (fun b ob hb e => (hs'.2 b (by simpa using hb)).trans e) (fun q hq => by simp at hq; subst hq; show Value.type "range_iterator" ≠ Value.type "tuple"; decide)
    exact hQ _ _ (fun Q' E' A' hq => letOwned_other (R'.hid _ (List.mem_cons_self ..)).1 (fun n e => by cases e; rfl) (hq _ _ rfl R' (.refl _))) ⟨_, rfl⟩ kp
  stop := fun A hid stk σ s hs E Q hh hsk _ hσ R hQ => by
    subst hsk
    have ho := (R.hid _ (List.mem_cons_self ..)).1
    refine wpAny_pyNext_range_end hh ho (by simp) fun h' he => ?_
    obtain ⟨R', k⟩ := R.hidForget (tk := s.toks) (h' := h') (fun b o hb e => he b o (by simpa using hb) e) (fun q hq => by simp at hq; subst hq; show Value.type "range_iterator" ≠ Value.type "tuple"; decide)
    exact hQ _ R' k
  self := fun k A hid stk σ s hs E Q hsk R hQ => by
    subst hsk
    have ho := (R.hid _ (List.mem_cons_self ..)).1
    exact wpAny_pyIter_rangeiter ho hQ
end

section
variable {c : Cx} {X : String → St → Prop} {st : St} {μ : Locals} {σ : AHeap}

/-- a value that can be gone through: its items, and what must stay so of the state -/
def ItOk (c : Cx) (target : Expr) (p : PV) (st : St) (items : List PV) (P : AHeap → Prop) : Prop :=
  ∀ v hid stk s E Q, COk c.lv c.A c.env (stk.map (·.1)) → Rep c.base c.os hid ((c.env.locals, st.1) :: stk) st.2 s → VRep s.heap p v →
    (∀ it Sk KP hs s', IterAt c.toGx target it Sk KP P items → Sk 0 hs → KP s'.heap → Rep c.base c.os (hs ++ hid) ((c.env.locals, st.1) :: stk) st.2 s' → Keeps s.heap s'.heap → Q (.ref it) s') → wpAny c.M c.A (pyIter v) Q E s

theorem it_list {target : Expr} {a : Addr} {l : List PV} (h : seqAt σ a = some l) : ItOk c target (.ref a) (μ, σ) l (fun σ => seqAt σ a = some l) := fun v hid stk s E Q ok R hv hQ => by
  simp only [VRep] at hv; subst hv
  obtain ⟨vs, hL, _⟩ := R.seq h
  refine wpAny_pyIter_list hL.isList (hQ _ _ _ [(s.heap.objs.size, { cls := .type "list_iterator", data := .fields #[.ref a, .int 0 0] })] _ (iter_list target s.heap.objs.size a l) ⟨_, rfl, rfl, rfl⟩ trivial ?_ (Keeps.push _ _))
  exact R.hidNew (by show Value.type "list_iterator" ≠ Value.type "tuple"; decide) rfl
/-- the target of a loop takes an item -/
abbrev WAsg (c : Cx) (target : Expr) (p : PV) (X : String → St → Prop) (Q : St → Prop) (st : St) : Prop := W1 c UnitRep p (fun v => assign target c.env v) X (fun _ st => Q st) st

def forQ (I : Nat → St → Prop) (k : Nat) (Q : AFlow → St → Prop) : AFlow → St → Prop
  | .next, st | .cont, st => ∃ st₃, I k st₃ ∧ St.le st₃ st
  | .brk, st => Q .next st
  | .ret p, st => Q (.ret p) st
theorem forQ_next {I : Nat → St → Prop} {k} {Q : AFlow → St → Prop} {st₃ : St} (h : I k st₃) (hl : St.le st₃ st) : forQ I k Q .next st := ⟨st₃, h, hl⟩
theorem PostX.hidDrop {hid hs stk x s} (h : PostX c X (hs ++ hid) stk x s) : PostX c X hid stk x s := by
  obtain ⟨x, cls, st', rfl, R, hx, q⟩ := h
  exact ⟨x, cls, st', rfl, R.hidDrop, hx.map fun a ha => ⟨ha.1, ha.2.1, fun p hp => ha.2.2 p (List.mem_append_right _ hp)⟩, q⟩

/-- the iterator over an expression -/
def WI (c : Cx) (target iter : Expr) (X : String → St → Prop) (Q : List PV → (AHeap → Prop) → St → Prop) (st : St) : Prop :=
  ∀ hid stk s, COk c.lv c.A c.env (stk.map (·.1)) → Rep c.base c.os hid ((c.env.locals, st.1) :: stk) st.2 s →
    wpAny c.M c.A (eval iter c.env) (fun v s₁ => wpAny c.M c.A (pyIter v) (fun itv s₂ => ∃ it Sk KP hs items P st₁, itv = .ref it ∧ IterAt c.toGx target it Sk KP P items ∧ Sk 0 hs ∧ KP s₂.heap ∧
      Rep c.base c.os (hs ++ hid) ((c.env.locals, st₁.1) :: stk) st₁.2 s₂ ∧ Keeps s.heap s₂.heap ∧ Q items P st₁) (PostX c X hid stk) s₁) (PostX c X hid stk) s
theorem WI_of {target iter} {Q : List PV → (AHeap → Prop) → St → Prop} (h : WE c iter X (fun p st₁ => ∃ items P, ItOk c target p st₁ items P ∧ Q items P st₁) st) : WI c target iter X Q st := fun hid stk s ok R => by
  refine wpAny_mono (h hid stk s ok R) (fun v s₁ hp => ?_) fun _ _ y => y
  obtain ⟨p, st₁, R₁, hv, k₁, items, P, hit, q⟩ := hp
  exact hit v hid stk s₁ _ _ ok R₁ hv fun it Sk KP hs s₂ IT hS0 hK0 R₂ k₂ => ⟨it, Sk, KP, hs, items, P, st₁, rfl, IT, hS0, hK0, R₂, k₁.trans k₂, q⟩
/-- a for over items -/
theorem S_forI {target iter body orelse pos} {Q : AFlow → St → Prop} (hcalm : c.lv.calm = true) (I : Nat → St → Prop)
    (h : WI c target iter X (fun items P st₁ => ∃ st₀, I 0 st₀ ∧ St.le st₀ st₁ ∧ (∀ k st, I k st → P st.2) ∧
      (∀ k p st, items[k]? = some p → I k st → WAsg c target p X (fun st' => WS c body X (forQ I (k + 1) Q) st') st) ∧ (∀ st, I items.length st → WS c orelse X Q st)) st)
    (hf : ∀ x, foldedSetIterable iter c.env x = pure x) : WX c (.For target iter body orelse pos) X Q st := fun hid stk s ok R => by
  have hh : c.A.handled = none := by obtain ⟨_, _, a, _⟩ := ok.ok; exact a.calm hcalm
  refine wpAny_For (wpAny_mono (h hid stk s ok R) (fun v s₁ hp => wpAny_mono hp (fun itv s₂ hp => ?_) fun _ _ y => y) fun _ _ y => y) hf
  obtain ⟨it, Sk, KP, hs, items, P, st₁, rfl, IT, hS0, hK0, R₂, k₂, st₀, h0, hl0, hP, turn, fin⟩ := hp
  refine codeAny_mono (R := LoopR c X Q hid stk s.heap) ?_ fun r s' x => x.back
  have hE : ∀ e s'', PostX c X hid stk e s'' → notedBy c.M c.A c.env (fun e s' => LoopR c X Q hid stk s.heap (.error e) s') e s'' :=
    fun e s'' hx => hx.noted ok fun x cls st' s' R n q => ⟨x, cls, st', rfl, R, n, q⟩
  -- the loop, its owned tuple and all
  refine codeAny_loop' rfl (fun n s' => ∃ k hs st', n = items.length - k ∧ k ≤ items.length ∧ Sk k hs ∧ KP s'.heap ∧ I k st' ∧ Rep c.base c.os (hs ++ hid) ((c.env.locals, st'.1) :: stk) st'.2 s' ∧ Keeps s.heap s'.heap) ?_ items.length
    ⟨0, hs, st₀, by simp, Nat.zero_le _, hS0, hK0, h0, (R₂.weaken hl0.2).locals hl0.1, k₂⟩
  rintro n s' ⟨k, hs', st', rfl, hle, hSk, hKP, hI, R', k'⟩
  show wpAny _ _ ((forTurn target (.ref it) body orelse c.env).onRaise (fun x => do noteFrame x c.env; theTreesLotGoes x)) _ _ s'
  refine wpAny_noted ?_
  simp only [forTurn]
  refine wpAny_bind (wpAny_standAt (wpAny_bind (wpAny_onRaise ?_)))
  rcases Nat.lt_or_ge k items.length with hlt | hge
  · have hx : items[k]? = some items[k] := List.getElem?_eq_getElem hlt
    refine IT.next k _ hx _ _ _ _ _ _ _ _ hh hSk hKP (hP _ _ hI) R' fun v s₃ own hv₃ k₃ => ?_
    refine wpAny_bind (own _ _ _ fun s₄ hs₄ hSk₄ R₄ k₄ => ?_)
    refine wpAny_bind (wpAny_mono (turn k _ st' hx hI v (hs₄ ++ hid) stk s₄ ok R₄ (hv₃.mono k₄)) (fun _ s₅ h₅ => ?_) fun e s'' y => hE e s'' y.hidDrop)
    obtain ⟨_, st₅, R₅, _, k₅, h₅⟩ := h₅
    refine wpAny_bind (wpAny_mono (h₅ (hs₄ ++ hid) stk s₅ ok R₅) (fun f s₆ h₆ => ?_) fun e s'' y => hE e s'' y.hidDrop)
    obtain ⟨fl, st₆, R₆, hf₆, k₆, h₆⟩ := h₆
    have kk := (k'.trans k₃).trans (k₄.trans (k₅.trans k₆))
    have again : (∃ st₃, I (k + 1) st₃ ∧ St.le st₃ st₆) → ∃ m, m < items.length - k ∧ (∃ k hs st', m = items.length - k ∧ k ≤ items.length ∧ Sk k hs ∧ KP s₆.heap ∧ I k st' ∧ Rep c.base c.os (hs ++ hid) ((c.env.locals, st'.1) :: stk) st'.2 s₆ ∧ Keeps s.heap s₆.heap) := by
      rintro ⟨st₃, hI₃, hl₃⟩
      exact ⟨items.length - (k + 1), by omega, k + 1, hs₄, st₃, rfl, hlt, hSk₄, IT.mono _ _ (k₃.trans (k₄.trans (k₅.trans k₆))) hKP, hI₃, (R₆.weaken hl₃.2).locals hl₃.1, kk⟩
    cases fl with
    | next => cases hf₆; exact wpAny_pure (.inl ⟨rfl, again h₆⟩)
    | cont => cases hf₆; exact wpAny_pure (.inl ⟨rfl, again h₆⟩)
    | brk => cases hf₆; exact wpAny_pure ⟨.next, st₆, R₆.hidDrop, rfl, kk, h₆⟩
    | ret p => obtain ⟨u, rfl, hu⟩ := hf₆; exact wpAny_pure ⟨.ret p, st₆, R₆.hidDrop, ⟨u, rfl, hu⟩, kk, h₆⟩
  · have hk : k = items.length := by omega
    subst hk
    refine IT.stop _ _ _ _ _ _ _ _ hh hSk hKP (hP _ _ hI) R' fun s₃ R₃ k₃ => ?_
    refine wpAny_pure (.inr ⟨rfl, codeAny_block ?_⟩)
    exact wpAny_mono (fin st' hI hid stk s₃ ok R₃) (fun f s₄ y => y.keeps (k'.trans k₃)) hE
theorem S_for {target iter body orelse pos} {Q : AFlow → St → Prop} (hcalm : c.lv.calm = true) (I : Nat → St → Prop)
    (h : WE c iter X (fun p st₁ => ∃ items P st₀, ItOk c target p st₁ items P ∧ I 0 st₀ ∧ St.le st₀ st₁ ∧ (∀ k st, I k st → P st.2) ∧
      (∀ k p st, items[k]? = some p → I k st → WAsg c target p X (fun st' => WS c body X (forQ I (k + 1) Q) st') st) ∧ (∀ st, I items.length st → WS c orelse X Q st)) st)
    (hf : ∀ x, foldedSetIterable iter c.env x = pure x) : WX c (.For target iter body orelse pos) X Q st :=
  S_forI hcalm I (WI_of (WT.mono h (fun p st₁ ⟨items, P, st₀, a, b⟩ => ⟨items, P, a, st₀, b⟩) fun _ _ y => y)) hf
end
end Mine
end
section
open PySem PySem.W PyProof.Rows PySem.SeqAt
set_option Elab.async false
set_option linter.unusedVariables false
namespace Mine

/-- p == q comes out as b, at most n deep -/
inductive EqR (σ : AHeap) : Nat → PV → PV → Bool → Prop
  | int {n} (i j : Int) : EqR σ n (.int i) (.int j) (i == j)
  | str {n} (x y : Str) (t u : Tok) : EqR σ n (.str x t) (.str y u) (x == y)
  | none {n} : EqR σ n .none .none true
  | int_none {n} (i : Int) : EqR σ n (.int i) .none false
  | none_int {n} (i : Int) : EqR σ n .none (.int i) false
  | int_str {n} (i : Int) (x : Str) (t : Tok) : EqR σ n (.int i) (.str x t) false
  | str_int {n} (x : Str) (t : Tok) (i : Int) : EqR σ n (.str x t) (.int i) false
  | none_str {n} (x : Str) (t : Tok) : EqR σ n .none (.str x t) false
  | str_none {n} (x : Str) (t : Tok) : EqR σ n (.str x t) .none false
  | int_list {n a l} (i : Int) (h : seqAt σ a = some l) : EqR σ n (.int i) (.ref a) false
  | list_int {n a l} (i : Int) (h : seqAt σ a = some l) : EqR σ n (.ref a) (.int i) false
  | none_list {n a l} (h : seqAt σ a = some l) : EqR σ n .none (.ref a) false
  | list_none {n a l} (h : seqAt σ a = some l) : EqR σ n (.ref a) .none false
  | str_list {n a l} (x : Str) (t : Tok) (h : seqAt σ a = some l) : EqR σ n (.str x t) (.ref a) false
  | list_str {n a l} (x : Str) (t : Tok) (h : seqAt σ a = some l) : EqR σ n (.ref a) (.str x t) false
  | same {n} (a : Addr) : EqR σ n (.ref a) (.ref a) true
  | lists {n a b l m} {e : Nat → Bool} (hne : a ≠ b) (ha : seqAt σ a = some l) (hb : seqAt σ b = some m) (hlen : l.length = m.length) (h : ∀ (j : Nat) p q, l[j]? = some p → m[j]? = some q → EqR σ n p q (e j)) : EqR σ (n + 1) (.ref a) (.ref b) ((List.range l.length).all e)
  | lens {n a b l m} (hne : a ≠ b) (ha : seqAt σ a = some l) (hb : seqAt σ b = some m) (hlen : l.length ≠ m.length) : EqR σ n (.ref a) (.ref b) false
  | tups {n l m} {e : Nat → Bool} (h : ∀ (j : Nat) p q, l[j]? = some p → m[j]? = some q → EqR σ n p q (e j)) : EqR σ (n + 1) (.tup l) (.tup m) ((List.range (min l.length m.length)).all e && l.length == m.length)

section
variable {base : Heap} {os₀ : OsState} {hid : List (Addr × Obj)} {stk : List (Addr × Locals)} {σ : AHeap} {s : Shared}

theorem VReps.pt {h : Heap} {ps : List PV} {vs : List Value} (x : VReps h ps vs) {j : Nat} (hj : j < vs.toArray.size) : ∃ p, ps[j]? = some p ∧ VRep h p vs.toArray[j] := by
  have hj' : j < ps.length := by rw [← x.length]; simpa using hj
  obtain ⟨v, hv, hr⟩ := x.get j ps[j] (List.getElem?_eq_getElem hj')
  refine ⟨ps[j], List.getElem?_eq_getElem hj', ?_⟩
  have : vs.toArray[j] = v := by
    have hj'' : j < vs.length := by simpa using hj
    rw [List.getElem?_eq_getElem hj''] at hv
    simpa using Option.some.inj hv
  rw [this]; exact hr

theorem EqR.refl_true {h : Heap} {n : Nat} {p q : PV} {b : Bool} (x : EqR σ n p q b) : ∀ {v : Value}, VRep h p v → VRep h q v → b = true := by
  induction x with
  | int i j => intro v hv hu; obtain ⟨t, rfl⟩ := hv; obtain ⟨t', e⟩ := hu; cases e; simp
  | str i j t u => intro v hv hu; simp only [VRep] at hv hu; subst hv; cases hu; simp
  | none => intros; rfl
  | int_none i => intro v hv hu; obtain ⟨t, rfl⟩ := hv; simp only [VRep] at hu; cases hu
  | none_int i => intro v hv hu; obtain ⟨t, rfl⟩ := hu; simp only [VRep] at hv; cases hv
  | int_str i x t => intro v hv hu; obtain ⟨t, rfl⟩ := hv; simp only [VRep] at hu; cases hu
  | str_int i t x => intro v hv hu; obtain ⟨t, rfl⟩ := hu; simp only [VRep] at hv; cases hv
  | none_str x t => intro v hv hu; simp only [VRep] at hv hu; subst hv; cases hu
  | str_none x t => intro v hv hu; simp only [VRep] at hv hu; subst hv; cases hu
  | int_list i h => intro v hv hu; obtain ⟨t, rfl⟩ := hv; simp only [VRep] at hu; cases hu
  | list_int i h => intro v hv hu; obtain ⟨t, rfl⟩ := hu; simp only [VRep] at hv; cases hv
  | none_list h => intro v hv hu; simp only [VRep] at hv hu; rw [hv] at hu; cases hu
  | list_none h => intro v hv hu; simp only [VRep] at hv hu; rw [hv] at hu; cases hu
  | str_list x t h => intro v hv hu; simp only [VRep] at hv hu; subst hv; cases hu
  | list_str x t h => intro v hv hu; simp only [VRep] at hv hu; subst hv; cases hu
  | same a => intros; rfl
  | lists hne ha hb hlen h ih => intro v hv hu; simp only [VRep] at hv hu; rw [hv] at hu; cases hu; exact absurd rfl hne
  | lens hne ha hb hlen => intro v hv hu; simp only [VRep] at hv hu; rw [hv] at hu; cases hu; exact absurd rfl hne
  | @tups n l m e hh ih =>
    intro v hv hu; simp only [VRep] at hv hu
    obtain ⟨a, vs, rfl, ⟨k, hL⟩, hvs⟩ := hv
    obtain ⟨b, ws, e', ⟨k', hM⟩, hws⟩ := hu
    cases e'
    rw [hL] at hM
    have hvw : vs.toArray = ws.toArray := by
      have := congrArg Obj.data (Option.some.inj hM)
      simp only [Data.seq.injEq] at this
      exact this.1
    have hvw' : vs = ws := by simpa using hvw
    subst hvw'
    have e1 := hvs.length; have e2 := hws.length
    have hlm : l.length = m.length := by omega
    rw [hlm]
    simp only [Nat.min_self, beq_self_eq_true, Bool.and_true, List.all_eq_true, List.mem_range]
    intro j hj
    obtain ⟨v, hv, hr⟩ := hvs.get j l[j] (List.getElem?_eq_getElem (by omega))
    obtain ⟨v', hv', hr'⟩ := hws.get j m[j] (List.getElem?_eq_getElem hj)
    rw [hv] at hv'; cases hv'
    exact ih j _ _ (List.getElem?_eq_getElem (by omega)) (List.getElem?_eq_getElem hj) hr hr'

theorem EqR.at (R : Rep base os₀ hid stk σ s) {n : Nat} {p q : PV} {b : Bool} (h : EqR σ n p q b) : ∀ {A : Around} {v u : Value}, A.units + n < cLine → VRep s.heap p v → VRep s.heap q u → EqAt A s v u b := by
  induction h with
  | int i j => intro A v u _ hv hu; obtain ⟨t, rfl⟩ := hv; obtain ⟨t', rfl⟩ := hu; exact .int_int _ _ _ _
  | str x y t t' => intro A v u _ hv hu; simp only [VRep] at hv hu; subst hv hu; exact .str_str _ _ _ _
  | none => intro A v u _ hv hu; simp only [VRep] at hv hu; subst hv hu; exact .same _
  | int_none i => intro A v u _ hv hu; simp only [VRep] at hu; obtain ⟨t, rfl⟩ := hv; subst hu; exact .int_none _ _
  | none_int i => intro A v u _ hv hu; simp only [VRep] at hv; obtain ⟨t, rfl⟩ := hu; subst hv; exact .none_int _ _
  | int_str i x t' => intro A v u _ hv hu; obtain ⟨t, rfl⟩ := hv; simp only [VRep] at hu; subst hu; exact .int_str _ _ _ _
  | str_int i t' x => intro A v u _ hv hu; obtain ⟨t, rfl⟩ := hu; simp only [VRep] at hv; subst hv; exact .str_int _ _ _ _
  | none_str x t => intro A v u _ hv hu; simp only [VRep] at hv hu; subst hv hu; exact .none_str _ _
  | str_none x t => intro A v u _ hv hu; simp only [VRep] at hv hu; subst hv hu; exact .str_none _ _
  | int_list i h => intro A v u hU hv hu; simp only [VRep] at hu; obtain ⟨t, rfl⟩ := hv; subst hu; obtain ⟨_, hL, _⟩ := R.seq h; exact .int_list _ _ hL.isList (by omega)
  | list_int i h => intro A v u hU hv hu; simp only [VRep] at hv; obtain ⟨t, rfl⟩ := hu; subst hv; obtain ⟨_, hL, _⟩ := R.seq h; exact .list_int _ _ hL.isList (by omega)
  | none_list h => intro A v u hU hv hu; simp only [VRep] at hv hu; subst hv hu; obtain ⟨_, hL, _⟩ := R.seq h; exact .none_list hL.isList (by omega)
  | list_none h => intro A v u hU hv hu; simp only [VRep] at hv hu; subst hv hu; obtain ⟨_, hL, _⟩ := R.seq h; exact .list_none hL.isList (by omega)
  | str_list x t h => intro A v u hU hv hu; simp only [VRep] at hv hu; subst hv hu; obtain ⟨_, hL, _⟩ := R.seq h; exact .str_list _ _ hL.isList (by omega)
  | list_str x t h => intro A v u hU hv hu; simp only [VRep] at hv hu; subst hv hu; obtain ⟨_, hL, _⟩ := R.seq h; exact .list_str _ _ hL.isList (by omega)
  | same a => intro A v u _ hv hu; simp only [VRep] at hv hu; subst hv hu; exact .same _
  | @lists n a b l m e hne ha hb hlen h ih =>
    intro A v u hU hv hu; simp only [VRep] at hv hu; subst hv hu
    obtain ⟨vs, hL, hvs⟩ := R.seq ha
    obtain ⟨ws, hM, hws⟩ := R.seq hb
    have e1 := hvs.length; have e2 := hws.length
    have := RcAt.lists (A := A) (s := s) (e := e) hL.isList hM.isList (by simp; omega) (by omega) fun j h1 h2 => by
      obtain ⟨p, hp, hr⟩ := hvs.pt h1
      obtain ⟨q, hq, hr'⟩ := hws.pt h2
      exact ih j p q hp hq (A := A.in1) (by show A.units + 1 + n < cLine; omega) hr hr'
    refine EqAt.of_refs hne ?_
    simpa [e1] using this
  | @lens n a b l m hne ha hb hlen =>
    intro A v u hU hv hu; simp only [VRep] at hv hu; subst hv hu
    obtain ⟨vs, hL, hvs⟩ := R.seq ha
    obtain ⟨ws, hM, hws⟩ := R.seq hb
    have e1 := hvs.length; have e2 := hws.length
    exact EqAt.of_refs hne (RcAt.lists_lengths hL.isList hM.isList (by simp; omega) (by omega))
  | @tups n l m e h ih =>
    intro A v u hU hv hu; simp only [VRep] at hv hu
    obtain ⟨a, vs, rfl, hL, hvs⟩ := hv
    obtain ⟨b, ws, rfl, hM, hws⟩ := hu
    have e1 := hvs.length; have e2 := hws.length
    by_cases hab : a = b
    · subst hab
      have hb := (EqR.tups h).refl_true (v := .ref a) (by simp only [VRep]; exact ⟨a, vs, rfl, hL, hvs⟩) (by simp only [VRep]; exact ⟨a, ws, rfl, hM, hws⟩)
      rw [hb]; exact .same _
    · have := RcAt.tuples (A := A) (s := s) (e := e) hL.isTuple hM.isTuple (by omega) fun j h1 h2 => by
        obtain ⟨p, hp, hr⟩ := hvs.pt h1
        obtain ⟨q, hq, hr'⟩ := hws.pt h2
        exact ih j p q hp hq (A := A.in1) (by show A.units + 1 + n < cLine; omega) hr hr'
      refine EqAt.of_refs hab ?_
      simpa [e1, e2] using this
end

/-- what == asks of two values at the top -/
inductive EqTop (σ : AHeap) (n : Nat) : PV → PV → Bool → Prop
  | flat {p q b} (h : EqR σ n p q b) (hp : ∀ a, p ≠ .ref a ∨ ∀ a, q ≠ .ref a) : EqTop σ n p q b
  | lists {a b l m} {e : Nat → Bool} (ha : seqAt σ a = some l) (hb : seqAt σ b = some m) (hlen : l.length = m.length) (h : ∀ (j : Nat) p q, l[j]? = some p → m[j]? = some q → EqR σ n p q (e j)) : EqTop σ n (.ref a) (.ref b) ((List.range l.length).all e)
  | lens {a b l m} (ha : seqAt σ a = some l) (hb : seqAt σ b = some m) (hlen : l.length ≠ m.length) : EqTop σ n (.ref a) (.ref b) false

section
variable {c : Cx} {X : String → St → Prop} {st : St} {μ : Locals} {σ : AHeap}

theorem COk.units {lv A env ls} (ok : COk lv A env ls) : A.units ≤ 9000 := by obtain ⟨_, _, a, _⟩ := ok.ok; have := a.units; omega

theorem cmp_lists_eq {a b l m} {e : Nat → Bool} {n : Nat} {Q : PV → St → Prop} (ha : seqAt σ a = some l) (hb : seqAt σ b = some m) (hlen : l.length = m.length) (h : ∀ (j : Nat) p q, l[j]? = some p → m[j]? = some q → EqR σ n p q (e j)) (hn : n ≤ 100)
    (hQ : Q (.bool ((List.range l.length).all e)) (μ, σ)) : W2 c VRep (.ref a) (.ref b) (compareOp .Eq) X Q (μ, σ) := fun v u hid stk s ok R hv hu => by
  simp only [VRep] at hv hu; subst hv hu
  obtain ⟨vs, hL, hvs⟩ := R.seq ha
  obtain ⟨ws, hM, hws⟩ := R.seq hb
  have e1 := hvs.length; have e2 := hws.length
  have hU := ok.units
  refine eq_listAt (e := e) hL.isList hM.isList (by simp; omega) (by rw [cLine_is]; omega) (fun j h1 h2 => ?_) ⟨.bool ((List.range l.length).all e), (μ, σ), R, by simp [VRep, e1], .refl _, hQ⟩
  obtain ⟨p, hp, hr⟩ := hvs.pt h1
  obtain ⟨q, hq, hr'⟩ := hws.pt h2
  exact (h j p q hp hq).at R (A := c.A.in1) (by rw [cLine_is]; show c.A.units + 1 + n < 9900; omega) hr hr'
theorem cmp_lists_ne {a b l m} {e : Nat → Bool} {n : Nat} {Q : PV → St → Prop} (ha : seqAt σ a = some l) (hb : seqAt σ b = some m) (hlen : l.length = m.length) (h : ∀ (j : Nat) p q, l[j]? = some p → m[j]? = some q → EqR σ n p q (e j)) (hn : n ≤ 100)
    (hQ : Q (.bool (!(List.range l.length).all e)) (μ, σ)) : W2 c VRep (.ref a) (.ref b) (compareOp .NotEq) X Q (μ, σ) := fun v u hid stk s ok R hv hu => by
  simp only [VRep] at hv hu; subst hv hu
  obtain ⟨vs, hL, hvs⟩ := R.seq ha
  obtain ⟨ws, hM, hws⟩ := R.seq hb
  have e1 := hvs.length; have e2 := hws.length
  have hU := ok.units
  refine RcNeAt.lists (A := c.A) (e := e) hL.isList hM.isList (by simp; omega) (by rw [cLine_is]; omega) (fun j h1 h2 => ?_) c.prog c.w _ _ ⟨.bool (!(List.range l.length).all e), (μ, σ), R, by simp [VRep, e1], .refl _, hQ⟩
  obtain ⟨p, hp, hr⟩ := hvs.pt h1
  obtain ⟨q, hq, hr'⟩ := hws.pt h2
  exact (h j p q hp hq).at R (A := c.A.in1) (by rw [cLine_is]; show c.A.units + 1 + n < 9900; omega) hr hr'
theorem cmp_lens_eq {a b l m} {Q : PV → St → Prop} (ha : seqAt σ a = some l) (hb : seqAt σ b = some m) (hlen : l.length ≠ m.length) (hQ : Q (.bool false) (μ, σ)) : W2 c VRep (.ref a) (.ref b) (compareOp .Eq) X Q (μ, σ) := fun v u hid stk s ok R hv hu => by
  simp only [VRep] at hv hu; subst hv hu
  obtain ⟨vs, hL, hvs⟩ := R.seq ha
  obtain ⟨ws, hM, hws⟩ := R.seq hb
  have e1 := hvs.length; have e2 := hws.length
  have hU := ok.units
  exact eq_list_lengthsAt hL.isList hM.isList (by simp; omega) (by rw [cLine_is]; omega) ⟨.bool false, (μ, σ), R, rfl, .refl _, hQ⟩
theorem cmp_lens_ne {a b l m} {Q : PV → St → Prop} (ha : seqAt σ a = some l) (hb : seqAt σ b = some m) (hlen : l.length ≠ m.length) (hQ : Q (.bool true) (μ, σ)) : W2 c VRep (.ref a) (.ref b) (compareOp .NotEq) X Q (μ, σ) := fun v u hid stk s ok R hv hu => by
  simp only [VRep] at hv hu; subst hv hu
  obtain ⟨vs, hL, hvs⟩ := R.seq ha
  obtain ⟨ws, hM, hws⟩ := R.seq hb
  have e1 := hvs.length; have e2 := hws.length
  have hU := ok.units
  exact RcNeAt.lists_lengths (A := c.A) hL.isList hM.isList (by simp; omega) (by rw [cLine_is]; omega) c.prog c.w _ _ ⟨.bool true, (μ, σ), R, rfl, .refl _, hQ⟩

/-! in -/
open Classical in
theorem any_rep {h : Heap} {l : List PV} {vs : List Value} (hvs : VReps h l vs) (f : PV → Bool) : vs.toArray.any (fun v => decide (∃ q ∈ l, VRep h q v ∧ f q = true)) = l.any f := by
  rw [Bool.eq_iff_iff]
  simp only [List.any_toArray, List.any_eq_true, decide_eq_true_eq]
  constructor
  · rintro ⟨v, _, q, hq, _, hf⟩; exact ⟨q, hq, hf⟩
  · rintro ⟨q, hq, hf⟩
    obtain ⟨j, hj, rfl⟩ := List.getElem_of_mem hq
    obtain ⟨v, hv, hr⟩ := hvs.get j _ (List.getElem?_eq_getElem hj)
    exact ⟨v, List.mem_of_getElem? hv, _, hq, hr, hf⟩
open Classical in
theorem any_eqAt {base os₀ hid stk} {s : Shared} (R : Rep base os₀ hid stk σ s) {l : List PV} {vs : List Value} (hvs : VReps s.heap l vs) {p : PV} {u : Value} (hu : VRep s.heap p u) {n : Nat} {f : PV → Bool} (h : ∀ q ∈ l, EqR σ n q p (f q)) {A : Around} (hU : A.units + n < cLine) :
    ∀ y, y ∈ vs.toArray → EqAt A s y u (decide (∃ q ∈ l, VRep s.heap q y ∧ f q = true)) := fun y hy => by
  by_cases hc : ∃ q ∈ l, VRep s.heap q y ∧ f q = true
  · rw [decide_eq_true hc]
    obtain ⟨q, hq, hr, hf⟩ := hc
    rw [← hf]; exact (h q hq).at R hU hr hu
  · rw [decide_eq_false hc]
    obtain ⟨j, hj, rfl⟩ := Array.getElem_of_mem hy
    obtain ⟨q, hq, hr⟩ := hvs.pt hj
    have hm := List.mem_of_getElem? hq
    have hf : f q = false := by
      cases e : f q with
      | false => rfl
      | true => exact absurd ⟨q, hm, hr, e⟩ hc
    rw [← hf]; exact (h q hm).at R hU hr hu
theorem cmp_in {a l p} {n : Nat} {f : PV → Bool} {Q : PV → St → Prop} (ha : seqAt σ a = some l) (h : ∀ q ∈ l, EqR σ n q p (f q)) (hn : n ≤ 100) (hQ : Q (.bool (l.any f)) (μ, σ)) : W2 c VRep p (.ref a) (compareOp .In) X Q (μ, σ) := fun v u hid stk s ok R hv hu => by
  simp only [VRep] at hu; subst hu
  obtain ⟨vs, hL, hvs⟩ := R.seq ha
  have hU := ok.units
  exact in_listAt _ hL.isList (any_eqAt R hvs hv h (A := c.A.in1) (by rw [cLine_is]; show c.A.units + 1 + n < 9900; omega)) ⟨.bool (l.any f), (μ, σ), R, by rw [any_rep hvs]; rfl, .refl _, hQ⟩
theorem cmp_notInT {l p} {n : Nat} {f : PV → Bool} {Q : PV → St → Prop} (h : ∀ q ∈ l, EqR σ n q p (f q)) (hn : n ≤ 100) (hQ : Q (.bool (!l.any f)) (μ, σ)) : W2 c VRep p (.tup l) (compareOp .NotIn) X Q (μ, σ) := fun v u hid stk s ok R hv hu => by
  simp only [VRep] at hu
  obtain ⟨a, vs, rfl, hT, hvs⟩ := hu
  have hU := ok.units
  exact notIn_tupleAt _ hT.isTuple (any_eqAt R hvs hv h (A := c.A.in1) (by rw [cLine_is]; show c.A.units + 1 + n < 9900; omega)) ⟨.bool (!l.any f), (μ, σ), R, by rw [any_rep hvs]; rfl, .refl _, hQ⟩
end
end Mine
end
section
open PySem PySem.W PyProof.Rows
set_option Elab.async false
set_option linter.unusedVariables false
namespace Mine

section
variable {c : Cx} {X : String → St → Prop} {st : St} {μ : Locals} {σ : AHeap}

theorem E_Tuple {elts k pos} {Q : PV → St → Prop} (h : WA c pos elts X (fun ps st₁ => ps.length ≤ 1000 ∧ Q (.tup ps) st₁) st) : WE c (.Tuple elts k pos) X Q st := fun hid stk s ok R =>
  Tuple_ (wpAny_mono (h hid stk s ok R) (fun vs s₁ ⟨ps, st₁, R₁, hvs, k₁, hz, q⟩ => by
    have e1 := hvs.length
    refine wpAny_newObj_type ⟨.tup ps, st₁, R₁.grow (fun _ _ e => Heap.get?_push_of_some _ e) rfl rfl, ?_, k₁.trans (Keeps.push _ _), q⟩ (by show vs.toArray.size ≤ sizeLine; rw [sizeLine_eq]; simp; omega)
    simp only [VRep]
    exact ⟨s₁.heap.objs.size, vs, rfl, ⟨0, Heap.get?_push_size _ rfl⟩, hvs.mono (Keeps.push _ _)⟩) fun _ _ y => y)
/-- a new list -/
theorem Rep.newList {base os₀ hid stk} {s : Shared} (R : Rep base os₀ hid stk σ s) {l : List PV} {vs : List Value} (hvs : VReps s.heap l vs) :
    Rep base os₀ hid stk (σ.set s.heap.objs.size (.list l)) { s with heap := s.heap.push { cls := .type "list", dict := none, data := .seq vs.toArray, slots := #[] } } :=
  R.alloc ⟨R.fresh_base, vs, ⟨0, Heap.get?_push_size _ rfl⟩, hvs.mono (Keeps.push _ _)⟩
theorem E_List {elts pos} {Q : PV → St → Prop} (h : WA c pos elts X (fun ps st₁ => ps.length ≤ 1000 ∧ ∀ a, st₁.2 a = none → Q (.ref a) (st₁.1, st₁.2.set a (.list ps))) st) : WE c (.List elts pos) X Q st := fun hid stk s ok R =>
  List_ (wpAny_mono (h hid stk s ok R) (fun vs s₁ ⟨ps, st₁, R₁, hvs, k₁, hz, q⟩ => by
    have e1 := hvs.length
    exact wpAny_newObj_type ⟨.ref s₁.heap.objs.size, (st₁.1, st₁.2.set s₁.heap.objs.size (.list ps)), R₁.newList hvs, rfl, k₁.trans (Keeps.push _ _), q _ R₁.fresh_σ⟩ (by show vs.toArray.size ≤ sizeLine; rw [sizeLine_eq]; simp; omega)) fun _ _ y => y)

/-! targets -/
theorem Asg_local {x : Str} {pos} {p : PV} {Q : St → Prop} (hl : c.env.scope.names.lookup x = some .local) (h : Q (setL x p μ, σ)) : WAsg c (.Name x pos) p X Q (μ, σ) := fun v hid stk s ok R hv =>
  wpAny_assign_Name (W1_store (X := X) (Q := fun _ st => Q st) hl h v hid stk s ok R hv)
theorem Asg_cell {x : Str} {pos} {p : PV} {a : Addr} {o : Option PV} {Q : St → Prop} (hl : c.env.scope.names.lookup x = some .cell) (hc : c.env.cells.lookup x = some a) (hv : σ a = some (.cell o)) (h : Q (μ, σ.set a (.cell (some p)))) : WAsg c (.Name x pos) p X Q (μ, σ) := fun v hid stk s ok R hr =>
  wpAny_assign_Name (W1_storeCell (X := X) (Q := fun _ st => Q st) hl hc hv h v hid stk s ok R hr)

/-- names one after the other -/
def asgAll (c : Cx) (X : String → St → Prop) : List Expr → List PV → (St → Prop) → St → Prop
  | e :: es, p :: ps, Q, st => WAsg c e p X (fun st' => asgAll c X es ps Q st') st
  | _, _, Q, st => Q st
theorem asgAll_nil {Q : St → Prop} (h : Q st) : asgAll c X [] [] Q st := h
theorem asgAll_cons {e es p ps} {Q : St → Prop} (h : WAsg c e p X (fun st' => asgAll c X es ps Q st') st) : asgAll c X (e :: es) (p :: ps) Q st := h
theorem asgAll_wp {hid stk} (ok : COk c.lv c.A c.env (stk.map (·.1))) : ∀ {es : List Expr} {ps : List PV} {vs : List Value} {Q : St → Prop} {st : St} {s : Shared}, (assignEach es c.env).map (·.2) = es.map (fun e => assign e c.env) → es.length = ps.length →
    Rep c.base c.os hid ((c.env.locals, st.1) :: stk) st.2 s → VReps s.heap ps vs → asgAll c X es ps Q st → wpAny c.M c.A (assignInOrder (es.map fun e => assign e c.env) vs) (Post c UnitRep (fun _ st => Q st) hid stk s.heap) (PostX c X hid stk) s
  | [], [], vs, Q, st, s, _, _, R, hv, h => by rw [hv.nil_inv]; exact wpAny_pure ⟨(), st, R, trivial, .refl _, h⟩
  | e :: es, p :: ps, vs, Q, st, s, he, hl, R, hv, h => by
    obtain ⟨v, r, rfl, h1, h2⟩ := hv.cons_inv
    refine wpAny_bind (wpAny_holding (wpAny_mono (h v hid stk s ok R h1) (fun _ s₁ hp => ?_) fun _ _ y => y))
    obtain ⟨_, st₁, R₁, _, k₁, q⟩ := hp
    have he' : (assignEach es c.env).map (·.2) = es.map (fun e => assign e c.env) := by
      have := he
      simp only [List.map_cons] at this
      have e2 : assignEach (e :: es) c.env = (match e with | .Starred .. => true | _ => false, (assignEach (e :: es) c.env).head!.2) :: assignEach es c.env := by cases e <;> rfl
      rw [e2, List.map_cons] at this
      exact (List.cons.inj this).2
    exact wpAny_mono (asgAll_wp ok he' (by simpa using hl) R₁ (h2.mono k₁) q) (fun _ _ y => y.keeps k₁) fun _ _ y => y
  | [], _ :: _, _, _, _, _, _, hl, _, _, _ => by simp at hl
  | _ :: _, [], _, _, _, _, _, hl, _, _, _ => by simp at hl

/-- a tuple is taken apart -/
theorem Asg_Tuple {elts k pos ps} {Q : St → Prop} (hcalm : c.lv.calm = true) (h : asgAll c X elts ps Q st) (he : (assignEach elts c.env).map (·.2) = elts.map (fun e => assign e c.env)) (hl : elts.length = ps.length)
    (hstar : (assignEach elts c.env).findIdx? (·.1) = none) : WAsg c (.Tuple elts k pos) (.tup ps) X Q st := fun v hid stk s ok R hv => by
  have hh : c.A.handled = none := by obtain ⟨_, _, a, _⟩ := ok.ok; exact a.calm hcalm
  simp only [VRep] at hv
  obtain ⟨a, vs, rfl, hT, hvs⟩ := hv
  have e1 := hvs.length
  have hlen : (assignEach elts c.env).length = vs.toArray.size := by
    have := congrArg List.length he
    simp only [List.length_map] at this
    rw [this]; simp; omega
  refine wpAny_assign_Tuple hh hT.isTuple hlen hstar fun h' hx => ?_
  have R' := R.grow (s' := { s with heap := h' }) (fun b o e => hx b o (Nat.ne_of_lt (Heap.lt_size e)) e) rfl rfl
  have k' : Keeps s.heap h' := fun b vs ⟨n, e⟩ => ⟨n, hx b _ (Nat.ne_of_lt (Heap.lt_size e)) e⟩
  rw [he]
  exact wpAny_mono (asgAll_wp ok he hl R' (by simpa using hvs.mono k') h) (fun _ _ y => y.keeps k') fun _ _ y => y

theorem S_AssignTup {elts k tpos value pos} {Q : AFlow → St → Prop} (h : WE c value X (fun p st₁ => WAsg c (.Tuple elts k tpos) p X (fun st₂ => Q .next st₂) st₁) st)
    (hs : swapsWithSole [.Tuple elts k tpos] value pos.line c.env = pure false) (hw : swappedStores [.Tuple elts k tpos] value c.env = pure none) : WX c (.Assign [.Tuple elts k tpos] value pos) X Q st := fun hid stk s ok R =>
  Assign_Tuple (wpAny_mono (h hid stk s ok R) (fun v s₁ ⟨p, st₁, R₁, hv, k₁, h₁⟩ =>
    wpAny_mono (h₁ v hid stk s₁ ok R₁ hv) (fun _ _ ⟨_, st₂, R₂, _, k₂, q⟩ => ⟨.next, st₂, R₂, rfl, k₁.trans k₂, q⟩) fun _ _ y => y) fun _ _ y => y) hs hw

/-! ranges -/
theorem call_range2 {a b : Int} {Q : PV → St → Prop} (h : ∀ r, σ r = none → Q (.ref r) (μ, σ.set r (.range a b 1))) : WN c VRep [.int a, .int b] (fun vs => call (.type "range") vs) X Q (μ, σ) := fun vs hid stk s ok R hv => by
  obtain ⟨v1, r1, rfl, h1, hv⟩ := hv.cons_inv
  obtain ⟨v2, r2, rfl, h2, hv⟩ := hv.cons_inv
  rw [hv.nil_inv]
  obtain ⟨t1, rfl⟩ := h1
  obtain ⟨t2, rfl⟩ := h2
  refine call_range_2 ⟨.ref s.heap.objs.size, (μ, σ.set s.heap.objs.size (.range a b 1)), Rep.toks (R.alloc (o := .range a b 1) (ob := { cls := .type "range", data := .fields #[.int a t1, .int b t2, .int 1 s.toks] }) ⟨R.fresh_base, t1, t2, s.toks, Heap.get?_push_size _ rfl⟩) _, rfl, Keeps.push _ _, h _ R.fresh_σ⟩
theorem call_range1 {b : Int} {Q : PV → St → Prop} (h : ∀ r, σ r = none → Q (.ref r) (μ, σ.set r (.range 0 b 1))) : WN c VRep [.int b] (fun vs => call (.type "range") vs) X Q (μ, σ) := fun vs hid stk s ok R hv => by
  obtain ⟨v1, r1, rfl, h1, hv⟩ := hv.cons_inv
  rw [hv.nil_inv]
  obtain ⟨t1, rfl⟩ := h1
  refine call_range_1 ⟨.ref s.heap.objs.size, (μ, σ.set s.heap.objs.size (.range 0 b 1)), Rep.toks (R.alloc (o := .range 0 b 1) (ob := { cls := .type "range", data := .fields #[.int 0 s.toks, .int b t1, .int 1 (s.toks + 1)] }) ⟨R.fresh_base, s.toks, t1, s.toks + 1, Heap.get?_push_size _ rfl⟩) _, rfl, Keeps.push _ _, h _ R.fresh_σ⟩
theorem it_range {target : Expr} {r : Addr} {a b : Int} (h : σ r = some (.range a b 1)) (ha : -1000000 ≤ a) (ha' : a ≤ 1000000) (hb : -1000000 ≤ b) (hb' : b ≤ 1000000) : ItOk c target (.ref r) (μ, σ) (rangeL a 1 (b - a).toNat) (fun _ => True) := fun v hid stk s E Q ok R hv hQ => by
  simp only [VRep] at hv; subst hv
  obtain ⟨_, t, u, w, hr⟩ := R.heap _ _ h
  refine wpAny_pyIter_range hr (small_one (by omega) (by omega) (by omega) (by omega)) (hQ _ _ _ _ _ (iter_range target s.heap.objs.size a 1 (b - a).toNat) rfl trivial ?_ (Keeps.push _ _))
  have hsz : Builtin.Range.rangeSize a b 1 = (((b - a).toNat : Nat) : Int) := by rw [rangeSize_one]; split <;> omega
  have := R.hidNew (ob := { cls := .type "range_iterator", data := .fields #[rawInt a, rawInt (Builtin.Range.rangeSize a b 1), rawInt 1] }) (by show Value.type "range_iterator" ≠ Value.type "tuple"; decide) rfl
  rw [hsz] at this ⊢
  simpa using this

/-! copies, sums of lists -/
theorem call_listOf {a : Addr} {l : List PV} {Q : PV → St → Prop} (hs : seqAt σ a = some l) (hz : l.length ≤ 16777216) (h : ∀ b, σ b = none → Q (.ref b) (μ, σ.set b (.list l))) : WN c VRep [.ref a] (fun vs => call (.type "list") vs) X Q (μ, σ) := fun vs hid stk s ok R hv => by
  obtain ⟨v1, r1, rfl, h1, hv⟩ := hv.cons_inv
  rw [hv.nil_inv]
  simp only [VRep] at h1; subst h1
  obtain ⟨ws, ⟨n, hL⟩, hws⟩ := R.seq hs
  have e1 := hws.length
  refine call_list_seq a (.inl rfl) hL rfl rfl (fun h' c' hk hn => ?_) (by rw [sizeLine_eq]; simp; omega)
  have k : Keeps s.heap h' := fun b vs ⟨n, e⟩ => ⟨n, hk _ _ e⟩
  exact ⟨.ref s.heap.objs.size, (μ, σ.set s.heap.objs.size (.list l)), R.put (s' := { s with heap := h' }) (fun b ob _ e => hk b ob e) (fun vs ⟨_, h1⟩ => absurd (Heap.lt_size h1) (Nat.lt_irrefl _)) R.fresh_base R.fresh_hid R.fresh_stk ⟨R.fresh_base, ws, ⟨c', hn⟩, hws.mono k⟩ rfl rfl, rfl, k, h _ R.fresh_σ⟩
theorem bin_addL {a b : Addr} {l m : List PV} {Q : PV → St → Prop} (ha : seqAt σ a = some l) (hb : seqAt σ b = some m) (hz : l.length + m.length ≤ 16777216) (h : ∀ r, σ r = none → Q (.ref r) (μ, σ.set r (.list (l ++ m)))) : W2 c VRep (.ref a) (.ref b) (binaryOp .Add) X Q (μ, σ) := fun v u hid stk s ok R hv hu => by
  simp only [VRep] at hv hu; subst hv hu
  obtain ⟨vs, hL, hvs⟩ := R.seq ha
  obtain ⟨ws, hM, hws⟩ := R.seq hb
  have e1 := hvs.length; have e2 := hws.length
  obtain ⟨n, hL⟩ := hL
  obtain ⟨n', hM⟩ := hM
  refine concat_meets (id := "list.__add__") ⟨_, hL, rfl⟩ ⟨_, hM, rfl⟩ noFill_list_add seq_list_add F.slot_list_add F.entry_list_add (F.args_list_add_2 _ _) (list_addW a b vs.toArray ws.toArray n n' none none #[] #[] (by rw [sizeLine_eq]; simp; omega)) ⟨hL, hM, ?_⟩
  have e : vs.toArray ++ ws.toArray = (vs ++ ws).toArray := by simp
  show Post c VRep Q hid stk s.heap _ _
  rw [e]
  exact ⟨.ref s.heap.objs.size, (μ, σ.set s.heap.objs.size (.list (l ++ m))), R.newList (hvs.append hws), rfl, Keeps.push _ _, h _ R.fresh_σ⟩

/-! raised -/
theorem PostX.ofNew {hid stk} {s : Shared} {h' : Heap} {tk : Nat} {e : Addr} {cls : String} (R : Rep c.base c.os hid ((c.env.locals, st.1) :: stk) st.2 s) (hx : Heap.NewExc s.heap h' e cls) (ht : s.toks ≤ tk) (hc : cls ≠ "tuple") (h : X cls st) :
    PostX c X hid stk (.ref e) { s with heap := h', toks := tk } := by
  have R' := R.grow (s' := { s with heap := h', toks := tk }) hx.keeps rfl rfl ht
  obtain ⟨ob, t, h1, h2, h3⟩ := hx.there
  refine ⟨e, cls, st, rfl, R', ⟨⟨?_, ?_, fun p hp q => ?_⟩, ob, _, h1, h2, by rw [h2]; intro q; injection q with q; exact hc q, h3, .inl rfl⟩, h⟩
  · cases q : c.base.get? e with
    | none => rfl
    | some o => have := R.stays _ _ q; rw [hx.new] at this; cases this
  · cases q : st.2 e with
    | none => rfl
    | some o =>
      obtain ⟨ob', h4 | ⟨v, ob', h4, _⟩⟩ := (R.heap _ _ q).there
      · have := h4.1; rw [hx.new] at this; cases this
      · rw [hx.new] at h4; cases h4
  · have := (R.hid p hp).1; rw [q, hx.new] at this; cases this
/-- a tree that raises something new -/
theorem wp_new {hid stk} {α β : Type} {rep : Heap → β → α → Prop} {t : Sem α} {Q : β → St → Prop} {s : Shared} {cls : String} (R : Rep c.base c.os hid ((c.env.locals, st.1) :: stk) st.2 s) (hc : cls ≠ "tuple") (h : X cls st)
    (ht : wpAny c.M c.A t (fun _ _ => False) (fun e s' => ∃ h' tk x, e = .ref x ∧ s' = { s with heap := h', toks := tk } ∧ Heap.NewExc s.heap h' x cls) s) : wpAny c.M c.A t (Post c rep Q hid stk s.heap) (PostX c X hid stk) s :=
  wpAny_mono (wpAny_toks ht) (fun _ _ x => x.1.elim) fun e s' hx => by
    obtain ⟨⟨h', tk, x, rfl, rfl, hx⟩, htk⟩ := hx
    exact PostX.ofNew R hx htk hc h
theorem COk.handled {lv A env ls} (ok : COk lv A env ls) (h : lv.calm = true) : A.handled = none := by obtain ⟨_, _, a, _⟩ := ok.ok; exact a.calm h

theorem get_list_last {a : Addr} {l : List PV} {i : Int} {p : PV} {Q : PV → St → Prop} (hs : seqAt σ a = some l) (h0 : i < 0) (h1 : 0 ≤ i + l.length) (hx : l[(i + l.length).toNat]? = some p) (hz : l.length ≤ 16777216) (h : Q p (μ, σ)) : GetI c (.ref a) (.int i) X Q (μ, σ) :=
  fun v u hid stk s ok R hv hu => by
    simp only [VRep] at hv hu; subst hv
    obtain ⟨t, rfl⟩ := hu
    obtain ⟨vs, hL, hvs⟩ := R.seq hs
    have e1 := hvs.length
    obtain ⟨x, hx', hr⟩ := hvs.get _ _ hx
    exact ⟨⟨"list", _, hL.isList.typeIs, slot_list_getitem.lookup⟩, wpAny_getItem_list_neg hL.isList h0 (by simp; omega) (by omega) (by simpa [e1] using hx') ⟨p, (μ, σ), R, hr, .refl _, h⟩⟩

theorem pop_list {a : Addr} {l : List PV} {p : PV} {Q : PV → St → Prop} (hs : σ a = some (.list (l ++ [p]))) (hz : l.length ≤ 16000000) (h : Q p (μ, σ.set a (.list l))) : WN c VRep [.ref a] (fun vs => call (.builtin "list.pop") vs) X Q (μ, σ) := fun vs hid stk s ok R hv => by
  obtain ⟨v1, r1, rfl, h1, hv⟩ := hv.cons_inv
  rw [hv.nil_inv]
  simp only [VRep] at h1; subst h1
  obtain ⟨hb, ws, hL, hws⟩ := R.heap _ _ hs
  have hlen := hws.length
  simp at hlen
  obtain ⟨y, hy, hr⟩ := hws.get l.length p (by simp)
  obtain ⟨n, e⟩ := id hL
  refine call_meets F.slot_list_pop ⟨_, e, rfl⟩ F.entry_list_pop (F.args_list_pop_1 _) (MeetsSeq.list_pop_last a ws.toArray n y (by rw [show ws.toArray.size - 1 = l.length from by simp; omega]; simpa using hy) (by rw [sizeLine_eq]; simp; omega)) ⟨e, ?_⟩
  obtain ⟨R', k⟩ := R.listUpd (tk := s.toks) (l' := l) (ws := ws.take l.length) hs upd_other (hL.upd (f := fun xs => xs.eraseIdxIfInBounds (ws.toArray.size - 1)) (by
    have hw : ws = ws.take l.length ++ [y] := by
      have h2 : l.length < ws.length := by omega
      have h3 : ws[l.length] = y := by have := hy; rw [List.getElem?_eq_getElem h2] at this; exact Option.some.inj this
      rw [← h3]
      have := List.take_append_drop l.length ws
      rw [List.drop_eq_getElem_cons h2, List.drop_of_length_le (by omega)] at this
      exact this.symm
    have h2 : l.length < ws.toArray.size := by simp; omega
    have e3 : ws.toArray.size - 1 = l.length := by simp; omega
    rw [e3]
    unfold Array.eraseIdxIfInBounds
    rw [dif_pos h2]
    apply Array.toList_inj.mp
    rw [Array.toList_eraseIdx]
    show ws.eraseIdx l.length = ws.take l.length
    rw [List.eraseIdx_eq_take_drop_succ, List.drop_of_length_le (by omega), List.append_nil])) (by have := hws.take l.length; simpa using this)
  exact ⟨p, (μ, _), R', hr.mono k, k, h⟩
theorem pop_list_empty {a : Addr} {Q : PV → St → Prop} (hcalm : c.lv.calm = true) (hs : σ a = some (.list [])) (h : X "IndexError" (μ, σ)) : WN c VRep [.ref a] (fun vs => call (.builtin "list.pop") vs) X Q (μ, σ) := fun vs hid stk s ok R hv => by
  obtain ⟨v1, r1, rfl, h1, hv⟩ := hv.cons_inv
  rw [hv.nil_inv]
  simp only [VRep] at h1; subst h1
  obtain ⟨hb, ws, hL, hws⟩ := R.heap _ _ hs
  rw [hws.nil_inv] at hL
  obtain ⟨n, e⟩ := id hL
  exact wp_new R (by decide) h (call_meets F.slot_list_pop ⟨_, e, rfl⟩ F.entry_list_pop (F.args_list_pop_1 _) (AutoSeq1.list_pop_list_0 a #[] n rfl) ⟨e, ok.handled hcalm, fun h' tk x hx => ⟨h', tk, x, rfl, rfl, hx⟩⟩)

theorem VReps.erase {h : Heap} : ∀ {ps : List PV} {vs : List Value} (i : Nat), VReps h ps vs → VReps h (ps.eraseIdx i) (vs.eraseIdx i)
  | [], _, i, x => by rw [x.nil_inv]; simpa using VReps.nil
  | p :: ps, vs, i, x => by
    obtain ⟨v, r, rfl, h1, h2⟩ := x.cons_inv
    cases i with
    | zero => exact h2
    | succ i => exact .cons h1 (h2.erase i)
theorem erase_arr (ws : List Value) (i : Nat) (h : i < ws.length) : ws.toArray.eraseIdxIfInBounds i = (ws.eraseIdx i).toArray := by
  have h2 : i < ws.toArray.size := by simpa using h
  unfold Array.eraseIdxIfInBounds
  rw [dif_pos h2]
  apply Array.toList_inj.mp
  rw [Array.toList_eraseIdx]
theorem pop_at {a : Addr} {l : List PV} {i : Int} {p : PV} {Q : PV → St → Prop} (hs : σ a = some (.list l)) (h0 : 0 ≤ i) (hp : l[i.toNat]? = some p) (hz : l.length ≤ 16000000) (h : Q p (μ, σ.set a (.list (l.eraseIdx i.toNat)))) : WN c VRep [.ref a, .int i] (fun vs => call (.builtin "list.pop") vs) X Q (μ, σ) := fun vs hid stk s ok R hv => by
  obtain ⟨v1, r1, rfl, h1, hv⟩ := hv.cons_inv
  obtain ⟨v2, r2, rfl, h2, hv⟩ := hv.cons_inv
  rw [hv.nil_inv]
  simp only [VRep] at h1; subst h1
  obtain ⟨t, rfl⟩ := h2
  obtain ⟨hb, ws, hL, hws⟩ := R.heap _ _ hs
  have hlen := hws.length
  have hi := (List.getElem?_eq_some_iff.mp hp).1
  obtain ⟨y, hy, hr⟩ := hws.get _ _ hp
  obtain ⟨n, e⟩ := id hL
  refine call_meets F.slot_list_pop ⟨_, e, rfl⟩ F.entry_list_pop (F.args_list_pop_2 _ _) (MeetsSeq.list_pop_at a ws.toArray n i t i.toNat y (fitsIndex_of h0 (by omega)) (seqIndex_of h0 (by simp; omega)) (by simpa using hy) (by rw [sizeLine_eq]; simp; omega)) ⟨e, ?_⟩
  obtain ⟨R', k⟩ := R.listUpd (tk := s.toks) (l' := l.eraseIdx i.toNat) (ws := ws.eraseIdx i.toNat) hs upd_other (hL.upd (f := fun xs => xs.eraseIdxIfInBounds i.toNat) (erase_arr _ _ (by omega))) (hws.erase _)
  exact ⟨p, (μ, _), R', hr.mono k, k, h⟩
/-! ints in a list -/
def intL (ns : List Int) : List PV := ns.map PV.int
theorem VReps.intsAre {h : Heap} : ∀ {ns : List Int} {vs : List Value}, VReps h (intL ns) vs → IntsAre vs ns
  | [], _, x => by rw [x.nil_inv]; exact .nil
  | n :: ns, vs, x => by
    obtain ⟨v, r, rfl, h1, h2⟩ := VReps.cons_inv (p := .int n) (ps := intL ns) x
    obtain ⟨t, rfl⟩ := h1
    exact .cons n t (VReps.intsAre h2)
theorem intsAre_reps {h : Heap} {ns : List Int} {vs : List Value} (x : IntsAre vs ns) : VReps h (intL ns) vs := by
  induction x with
  | nil => exact .nil
  | cons n t _ ih => exact .cons (p := .int n) ⟨t, rfl⟩ ih
end
end Mine
end
section
open PySem PySem.W PyProof.Rows
set_option Elab.async false
set_option linter.unusedVariables false
namespace Mine

section
variable {base : Heap} {os₀ : OsState} {hid : List (Addr × Obj)} {stk : List (Addr × Locals)} {σ : AHeap} {s : Shared}
theorem Rep.swap {f g : Addr × Locals} (R : Rep base os₀ hid (f :: g :: stk) σ s) : Rep base os₀ hid (g :: f :: stk) σ s := by
  refine ⟨R.stays, R.gens, R.os, fun p hp => ?_, fun e he => R.frames e ?_, ?_, R.hnd, R.heap, R.tk⟩
  · obtain ⟨a, b, c, d, e⟩ := R.hid p hp
    exact ⟨a, b, c, fun q => d (by simp at q ⊢; rcases q with q | q | q; exact .inr (.inl q); exact .inl q; exact .inr (.inr q)), e⟩
  · simp at he ⊢; rcases he with q | q | q; exact .inr (.inl q); exact .inl q; exact .inr (.inr q)
  · have := R.nodup
    simp only [List.map_cons, List.nodup_cons, List.mem_cons, not_or] at this ⊢
    exact ⟨⟨fun e => this.1.1 e.symm, this.2.1⟩, this.1.2, this.2.2⟩
/-- a frame that is gone may change -/
theorem Rep.popChange {L : Addr} {μ : Locals} (R : Rep base os₀ hid ((L, μ) :: stk) σ s) {h' : Heap} {tk : Nat} (hs : Heap.SameBut L s.heap h') (ht : s.toks ≤ tk := by first | exact Nat.le_refl _ | exact Nat.le_succ _ | assumption) : Rep base os₀ hid stk σ { s with heap := h', toks := tk } ∧ Keeps s.heap h' := by
  have hL := R.frames (L, μ) (List.mem_cons_self ..)
  have hnt : ∀ vs, ¬ TU s.heap L vs := fun vs ⟨n, e⟩ => by
    obtain ⟨⟨_, m, ⟨o, es, ep, h1, h2, _⟩, _⟩, _⟩ := hL
    rw [e] at h1; cases h1; cases h2
  refine ⟨R.pop.aside (a := L) (fun b ob hb e => (hs.2 b hb).trans e) ⟨hL.1.new, hL.2, fun p hp q => ?_⟩ hnt (fun f hf q => ?_) rfl rfl ht, fun b vs ⟨n, e⟩ => ⟨n, (hs.2 b fun q => hnt vs (q ▸ ⟨n, e⟩)).trans e⟩⟩
  · exact (R.hid p hp).2.2.2.1 (by simp [q])
  · have := R.nodup; simp only [List.map_cons, List.nodup_cons] at this
    exact this.1 (q ▸ List.mem_map_of_mem hf)
end

theorem COk.more {lv A env ls} (ok : COk lv A env ls) (a : Addr) : COk lv A env (a :: ls) := by
  obtain ⟨e₀, rest, h, he⟩ := ok.ok
  exact ⟨⟨e₀, rest, ⟨h.frames, fun e he => by obtain ⟨x, L, y, z⟩ := h.frs e he; exact ⟨x, L, y, by simp at z ⊢; rcases z with z | z; exact .inl z; exact .inr (.inr z)⟩, h.calm, h.depth, h.units⟩, he⟩, ok.kind, ok.globals, ok.builtins⟩
theorem COk.inner {lv A env ls} (ok : COk lv A env ls) {env' : Env} (hf : env'.frame = env.frame) (hk : env'.scope.kind = .function) (hg : env'.globals = env.globals) (hb : env'.builtins = env.builtins) : COk lv A env' (env.locals :: ls) := by
  obtain ⟨e₀, rest, h, he⟩ := ok.ok
  exact ⟨⟨e₀, rest, ⟨h.frames, fun e he => by obtain ⟨x, L, y, z⟩ := h.frs e he; exact ⟨x, L, y, List.mem_cons_of_mem _ z⟩, h.calm, h.depth, h.units⟩, by rw [he, hf]⟩, hk, by rw [hg]; exact ok.globals, by rw [hb]; exact ok.builtins⟩

section
variable {c : Cx} {X : String → St → Prop} {st : St} {μ : Locals} {σ : AHeap}

abbrev WIfs (c : Cx) (ifs : List Expr) (X : String → St → Prop) (Q : Bool → St → Prop) (st : St) : Prop :=
  WT c BoolRep (forIn ifs true fun e r => if r = true then do let ok ← isTrue e c.env (eval e c.env); pure (ForInStep.yield ok) else pure (ForInStep.yield r)) X Q st
theorem Ifs_nil {Q : Bool → St → Prop} (h : Q true st) : WIfs c [] X Q st := fun hid stk s ok R => wpAny_tests_nil ⟨true, st, R, rfl, .refl _, h⟩
theorem Ifs_one {e} {Q : Bool → St → Prop} (h : WC c e X Q st) : WIfs c [e] X Q st := fun hid stk s ok R => wpAny_tests_one (h hid stk s ok R)

/-- what a turn of a comprehension leaves -/
def compQ (I : Nat → St → Prop) (k : Nat) (acc : Addr) (q : PV) (st : St) : Prop := ∃ l, st.2 acc = some (.list l) ∧ l.length ≤ 1000000 ∧ ∃ st₄, I k st₄ ∧ St.le st₄ (st.1, st.2.set acc (.list (l ++ [q])))

def CompR (c : Cx) (X : String → St → Prop) (Q : St → Prop) (hid : List (Addr × Obj)) (stk : List (Addr × Locals)) (h : Heap) (r : Result) (s' : Shared) : Prop := match r with
  | .ok f => f = .next ∧ ∃ st', Rep c.base c.os hid ((c.env.locals, st'.1) :: stk) st'.2 s' ∧ Keeps h s'.heap ∧ Q st'
  | .error e => ∃ x cls st', e = .ref x ∧ Rep c.base c.os hid ((c.env.locals, st'.1) :: stk) st'.2 s' ∧ ExcNoted c.base hid st'.2 s'.heap x cls ∧ X cls st'

theorem comp_loop1 {elt target iter : Expr} {ifs : List Expr} {scope : Scope} {pos : Pos} {it acc : Addr} {Sk KP P items} (hcalm : c.lv.calm = true) (IT : IterAt c.toGx target it Sk KP P items) (I : Nat → St → Prop) (hP : ∀ k st, I k st → P st.2)
    (turn : ∀ k p st, items[k]? = some p → I k st → WAsg c target p X (fun st₁ => WIfs c ifs X (fun b st₂ => (b = true → WE c elt X (fun q st₃ => compQ I (k + 1) acc q st₃) st₂) ∧ (b = false → ∃ st₄, I (k + 1) st₄ ∧ St.le st₄ st₂)) st₁) st)
    {hid stk h₀} (ok : COk c.lv c.A c.env (stk.map (·.1))) {k : Nat} {hs st s} (hk : k ≤ items.length) (hS : Sk k hs) (hK : KP s.heap) (hI : I k st) (R : Rep c.base c.os (hs ++ hid) ((c.env.locals, st.1) :: stk) st.2 s) (hk0 : Keeps h₀ s.heap) :
    codeAny c.M c.A (.compLoop (.ListComp elt [⟨target, iter, ifs, 0⟩] scope pos) 0 (.ref it) (.ref acc) c.env) (CompR c X (fun st => I items.length st) hid stk h₀) s := by
  have hh : c.A.handled = none := ok.handled hcalm
  have hE : ∀ e s'', PostX c X hid stk e s'' → notedBy c.M c.A c.env (fun e s' => CompR c X (fun st => I items.length st) hid stk h₀ (.error e) s') e s'' :=
    fun e s'' hx => hx.noted ok fun x cls st' s' R n q => ⟨x, cls, st', rfl, R, n, q⟩
  refine codeAny_loop rfl (fun n s' => ∃ k hs st', n = items.length - k ∧ k ≤ items.length ∧ Sk k hs ∧ KP s'.heap ∧ I k st' ∧ Rep c.base c.os (hs ++ hid) ((c.env.locals, st'.1) :: stk) st'.2 s' ∧ Keeps h₀ s'.heap) ?_ (items.length - k)
    ⟨k, hs, st, rfl, hk, hS, hK, hI, R, hk0⟩
  clear hk hS hK hI R hk0
  rintro n s' ⟨k, hs', st', rfl, hle, hSk, hKP, hI, R', k'⟩
  show wpAny _ c.A ((compTurn (.ListComp elt [⟨target, iter, ifs, 0⟩] scope pos) 0 (.ref it) (.ref acc) c.env).onRaise (fun x => do noteFrame x c.env; theTreesLotGoes x)) _ _ s'
  refine wpAny_noted ?_
  rw [compTurn_list]
  refine wpAny_bind (wpAny_standAt (wpAny_bind ?_))
  rcases Nat.lt_or_ge k items.length with hlt | hge
  · have hx : items[k]? = some items[k] := List.getElem?_eq_getElem hlt
    refine IT.next k _ hx _ _ _ _ _ _ _ _ hh hSk hKP (hP _ _ hI) R' fun v s₃ own hv₃ k₃ => ?_
    refine wpAny_bind (own _ _ _ fun s₄ hs₄ hSk₄ R₄ k₄ => ?_)
    refine wpAny_bind (wpAny_mono (turn k _ st' hx hI v (hs₄ ++ hid) stk s₄ ok R₄ (hv₃.mono k₄)) (fun _ s₅ h₅ => ?_) fun e s'' y => hE e s'' y.hidDrop)
    obtain ⟨_, st₅, R₅, _, k₅, h₅⟩ := h₅
    refine wpAny_bind (wpAny_mono (h₅ (hs₄ ++ hid) stk s₅ ok R₅) (fun b s₆ h₆ => ?_) fun e s'' y => hE e s'' y.hidDrop)
    obtain ⟨bb, st₆, R₆, hb, k₆, h₆⟩ := h₆
    cases hb
    have again : ∀ s₇ (st₇ : St), Rep c.base c.os (hs₄ ++ hid) ((c.env.locals, st₇.1) :: stk) st₇.2 s₇ → Keeps s₆.heap s₇.heap → (∃ st₃, I (k + 1) st₃ ∧ St.le st₃ st₇) → ∃ m, m < items.length - k ∧ (∃ k hs st', m = items.length - k ∧ k ≤ items.length ∧ Sk k hs ∧ KP s₇.heap ∧ I k st' ∧ Rep c.base c.os (hs ++ hid) ((c.env.locals, st'.1) :: stk) st'.2 s₇ ∧ Keeps h₀ s₇.heap) := by
      rintro s₇ st₇ R₇ k₇ ⟨st₃, hI₃, hl₃⟩
      have kk : Keeps s'.heap s₇.heap := k₃.trans (k₄.trans (k₅.trans (k₆.trans k₇)))
      exact ⟨items.length - (k + 1), by omega, k + 1, hs₄, st₃, rfl, hlt, hSk₄, IT.mono _ _ kk hKP, hI₃, (R₇.weaken hl₃.2).locals hl₃.1, k'.trans kk⟩
    cases b with
    | true =>
      simp only [if_true]
      refine wpAny_bind (wpAny_bind (wpAny_mono (h₆.1 rfl (hs₄ ++ hid) stk s₆ ok R₆) (fun x s₇ h₇ => ?_) fun e s'' y => hE e s'' y.hidDrop))
      obtain ⟨q, st₇, R₇, hq, k₇, l, hl, hz, fin⟩ := h₇
      have := append_list (c := c) (X := X) (μ := st₇.1) (σ := st₇.2) (a := acc) (l := l) (p := q) (Q := fun _ st => ∃ st₄, I (k + 1) st₄ ∧ St.le st₄ st) hl (by omega) fin [.ref acc, x] (hs₄ ++ hid) stk s₇ ok R₇ (.cons rfl (.cons hq .nil))
      refine wpAny_bind (wpAny_mono this (fun _ s₈ h₈ => ?_) fun e s'' y => hE e s'' y.hidDrop)
      obtain ⟨_, st₈, R₈, _, k₈, fin⟩ := h₈
      exact wpAny_pure (wpAny_pure ⟨rfl, again s₈ st₈ R₈ (k₇.trans k₈) fin⟩)
    | false =>
      simp only [Bool.false_eq_true, if_false]
      exact wpAny_pure ⟨rfl, again s₆ st₆ R₆ (.refl _) (h₆.2 rfl)⟩
  · have hk : k = items.length := by omega
    subst hk
    refine IT.stop _ _ _ _ _ _ _ _ hh hSk hKP (hP _ _ hI) R' fun s₃ R₃ k₃ => ?_
    exact wpAny_pure ⟨rfl, st', R₃, k'.trans k₃, hI⟩

/-- what is asked of the loop of a comprehension over items -/
structure CompOk (c : Cx) (scope : Scope) (cl : List (Str × Addr)) (elt target : Expr) (ifs : List Expr) (items : List PV) (P : AHeap → Prop) (X : String → St → Prop) (μ : Locals) (σ : AHeap) (Q : Addr → AHeap → Prop) : Prop where
  run : ∀ (c' : Cx) (a : Addr), c'.toGx = c.toGx → c'.lv = c.lv → c'.env.scope = relabel scope c.env → c'.env.cells = cl → σ a = none →
    ∃ I : Nat → St → Prop, I 0 ([], σ.set a (.list [])) ∧ (∀ k st, I k st → P st.2) ∧
      (∀ k p st, items[k]? = some p → I k st → WAsg c' target p (fun e st => X e (μ, st.2)) (fun st₁ => WIfs c' ifs (fun e st => X e (μ, st.2)) (fun b st₂ => (b = true → WE c' elt (fun e st => X e (μ, st.2)) (fun q st₃ => compQ I (k + 1) a q st₃) st₂) ∧ (b = false → ∃ st₄, I (k + 1) st₄ ∧ St.le st₄ st₂)) st₁) st) ∧
      (∀ st, I items.length st → Q a st.2)

theorem wp_comp {elt target iter : Expr} {ifs : List Expr} {scope : Scope} {pos : Pos} {cl : List (Str × Addr)} {use : Option (Value → Sem Unit)} {QV : Value → Shared → Prop} (hcalm : c.lv.calm = true)
    (hclos : closureFor scope c.env = pure cl) (hcell : ∀ y ∈ scope.names, y.2 ≠ .cell) (hkind : scope.kind = .function) (hnames : ∀ x ∈ scope.names, x.2 = .local → scope.names.lookup x.1 = some .local) (hf : ∀ x, foldedSetIterable iter c.env x = pure x)
    {hid stk s₀} (ok : COk c.lv c.A c.env (stk.map (·.1))) (R : Rep c.base c.os hid ((c.env.locals, st.1) :: stk) st.2 s₀) {p0 : Pos}
    (h : WE c iter X (fun p st₁ => ∃ items P, ItOk c target p st₁ items P ∧ CompOk c scope cl elt target ifs items P X st₁.1 st₁.2 (fun a σ' => ∀ C ν s', Rep c.base c.os hid ((C, ν) :: (c.env.locals, st₁.1) :: stk) σ' s' → Keeps s₀.heap s'.heap →
      compPost c.M c.A (PostX c X hid stk) use QV (.ref a) C (.ok .next) s')) st) :
    wpAny c.M c.A (comprehension (.ListComp elt [⟨target, iter, ifs, 0⟩] scope pos) scope c.env p0 (newList []) false (eval iter c.env) use) QV (PostX c X hid stk) s₀ := by
  refine wpAny_comprehension_free rfl hf hclos hkind hnames (wpAny_mono (h hid stk s₀ ok R) (fun v s₁ hp => ?_) fun _ _ y => y)
  obtain ⟨p, st₁, R₁, hv, k₁, items, P, hit, hrun⟩ := hp
  refine hit v hid stk s₁ _ _ ok R₁ hv fun it Sk KP hs s₂ IT hS0 hK0 R₂ k₂ => ?_
  refine wpAny_newObj_type ?_ (by size_fits)
  -- the accumulator, then the block's own names
  have R₃ := R₂.newList (l := []) (vs := []) .nil
  refine wpAny_newFunctionEnv hcell (by intro y hy; simp at hy) (fun h₁ hns₁ hsb₁ => ?_) hkind
  dsimp only at hns₁ hsb₁ ⊢
  generalize hs₃e : ({ s₂ with heap := s₂.heap.push { cls := .type "list", dict := none, data := .seq ([] : List Value).toArray, slots := #[] } } : Shared) = s₃ at R₃
  have ha3 : s₃.heap = s₂.heap.push { cls := .type "list", dict := none, data := .seq ([] : List Value).toArray, slots := #[] } := by rw [← hs₃e]
  have hkeep : ∀ b o, s₃.heap.get? b = some o → h₁.get? b = some o := fun b o e => by
    rw [ha3] at e
    exact hsb₁.extBut b o (Nat.ne_of_lt (Heap.lt_size e)) (Heap.get?_push_of_some _ e)
  have R₄ : Rep c.base c.os (hs ++ hid) ((s₃.heap.objs.size, []) :: (c.env.locals, st₁.1) :: stk) (st₁.2.set s₂.heap.objs.size (.list [])) { s₃ with heap := h₁ } := by
    have Rg := R₃.grow (s' := { s₃ with heap := h₁ }) hkeep rfl rfl
    refine ⟨Rg.stays, Rg.gens, Rg.os, fun q hq => ?_, fun f hf => ?_, ?_, Rg.hnd, Rg.heap, Rg.tk⟩
    · obtain ⟨a1, b1, c1, d1, e1⟩ := Rg.hid q hq
      exact ⟨a1, b1, c1, fun q' => by
        rw [List.map_cons, List.mem_cons] at q'
        rcases q' with q' | q'
        · exact R₃.fresh_hid q hq q'
        · exact d1 q', e1⟩
    · rcases List.mem_cons.mp hf with rfl | hf
      · exact ⟨⟨R₃.fresh_base, _, by rw [ha3]; exact hns₁, fun x p e => by cases e⟩, R₃.fresh_σ⟩
      · exact Rg.frames f hf
    · rw [List.map_cons, List.nodup_cons]
      exact ⟨fun q => by obtain ⟨f, hf, e⟩ := List.mem_map.mp q; exact R₃.fresh_stk f hf e, Rg.nodup⟩
  have k₃ : Keeps s₂.heap h₁ := fun b vs ⟨n, e⟩ => ⟨n, hkeep _ _ (by rw [ha3]; exact Heap.get?_push_of_some _ e)⟩
  have kall : Keeps s₀.heap h₁ := (k₁.trans k₂).trans k₃
  obtain ⟨I, h0, hP, turn, fin⟩ := hrun.run ⟨c.toGx, c.lv, c.A, compEnvC scope cl s₃.heap.objs.size c.env⟩ s₂.heap.objs.size rfl rfl rfl rfl R₂.fresh_σ
  have hok' : COk c.lv c.A (compEnvC scope cl s₃.heap.objs.size c.env) (((c.env.locals, st₁.1) :: stk).map (·.1)) := ok.inner rfl hkind rfl rfl
  have hloop : ∀ s₄ : Shared, s₄ = { s₃ with heap := h₁ } → codeAny c.M c.A (.compLoop (.ListComp elt [⟨target, iter, ifs, 0⟩] scope pos) 0 (.ref it) (.ref s₂.heap.objs.size) (compEnvC scope cl s₃.heap.objs.size c.env)) (compPost c.M c.A (PostX c X hid stk) use QV (.ref s₂.heap.objs.size) s₃.heap.objs.size) s₄ := by
    rintro s₄ rfl
    refine codeAny_mono (comp_loop1 (c := ⟨c.toGx, c.lv, c.A, compEnvC scope cl s₃.heap.objs.size c.env⟩) (X := fun e st => X e (st₁.1, st.2)) hcalm IT I hP turn (stk := (c.env.locals, st₁.1) :: stk) hok' (Nat.zero_le _) hS0 (IT.mono _ _ k₃ hK0) h0 R₄ kall) fun r s' hr => ?_
    cases r with
    | ok f =>
      obtain ⟨rfl, st', R', k', q⟩ := hr
      exact fin st' q _ _ s' R' k'
    | error e =>
      obtain ⟨x, cls, st', rfl, R', hx, q⟩ := hr
      have key : ∃ m, s'.heap.Ns s₃.heap.objs.size m ∧ ∀ h', Heap.SameBut s₃.heap.objs.size s'.heap h' → ∀ cenv : Env, cenv.locals = s₃.heap.objs.size → wpAny c.M c.A (PySem.passOn "comprehension.variables-let-go" (.ref x) cenv : Sem Value) (fun _ _ => False) (PostX c X hid stk) { s' with heap := h' } := by
        obtain ⟨⟨hnew, m, hn, _⟩, hσC⟩ := R'.frames _ (List.mem_cons_self ..)
        refine ⟨m, hn, fun h' hsb cenv _ => ?_⟩
        obtain ⟨R'', kk⟩ := R'.popChange (tk := s'.toks) hsb
        -- the exception is not the block
        obtain ⟨ha, ob, vs, T, oT, ts, x1, x2, x3, x4, k1, y2, y3, y4, y5, y6, y7⟩ := hx
        have hxC : x ≠ s₃.heap.objs.size := fun q => stk_not_fields R' x1 x4 _ (List.mem_cons_self ..) q.symm
        have hTC : T ≠ s₃.heap.objs.size := fun q => stk_not_fields R' y2 y4 _ (List.mem_cons_self ..) q.symm
        have hx' : ExcNoted c.base hid st'.2 h' x cls := ⟨ha, ob, vs, T, oT, ts, (hsb.2 x hxC).trans x1, x2, x3, x4, k1, (hsb.2 T hTC).trans y2, y3, y4, y5, y6, y7⟩
        unfold PySem.passOn
        refine wpAny_bind (wpAny_field ((hsb.2 x hxC).trans x1) x4 k1 ?_)
        rw [if_neg (by simp)]
        exact wpAny_bind (wp_flight (s := { s' with heap := h' }) R'' hx' fun s'' R3 n3 => wpAny_throw ⟨x, cls, (st₁.1, st'.2), rfl, R3, n3.at, q⟩)
      cases use <;> exact key
  have henv : ({ newEnv scope s₃.heap.objs.size c.env.globals cl c.env.qual none .none (some c.env) c.env.builtins with scope := relabel scope c.env } : Env) = compEnvC scope cl s₃.heap.objs.size c.env := rfl
  have hsz : (s₂.heap.push { cls := .type "list", dict := none, data := .seq ([] : List Value).toArray }).objs.size = s₃.heap.objs.size := by rw [ha3]
  rw [hsz]
  have hst : ({ s₂ with heap := h₁, toks := s₂.toks + ([] : List (Str × Value)).length } : Shared) = { s₃ with heap := h₁ } := by rw [← hs₃e]; rfl
  show codeAny c.M c.A (.compStart (.ListComp elt [⟨target, iter, ifs, 0⟩] scope pos) 0 (.ref it) (.ref s₂.heap.objs.size) (compEnvC scope cl s₃.heap.objs.size c.env)) _ _
  rw [hst]
  refine codeAny_compStart_list (hloop _ rfl) ?_
  exact IT.self 0 _ _ _ _ _ _ _ _ hS0 R₄ (hloop _ rfl)

theorem E_ListComp {elt target iter : Expr} {ifs : List Expr} {scope : Scope} {pos : Pos} {cl : List (Str × Addr)} {Q : PV → St → Prop} (hcalm : c.lv.calm = true)
    (hclos : closureFor scope c.env = pure cl) (hcell : ∀ y ∈ scope.names, y.2 ≠ .cell) (hkind : scope.kind = .function) (hnames : ∀ x ∈ scope.names, x.2 = .local → scope.names.lookup x.1 = some .local) (hf : ∀ x, foldedSetIterable iter c.env x = pure x)
    (h : WE c iter X (fun p st₁ => ∃ items P, ItOk c target p st₁ items P ∧ CompOk c scope cl elt target ifs items P X st₁.1 st₁.2 (fun a σ' => Q (.ref a) (st₁.1, σ'))) st) :
    WE c (.ListComp elt [⟨target, iter, ifs, 0⟩] scope pos) X Q st := fun hid stk s ok R => by
  rw [eval_ListComp]
  refine wp_comp (use := none) hcalm hclos hcell hkind hnames hf ok R (WT.mono h (fun p st₁ ⟨items, P, hit, hr⟩ => ⟨items, P, hit, ⟨fun c' a h1 h2 h3 h4 h5 => ?_⟩⟩) fun _ _ y => y)
  obtain ⟨I, h0, hP, turn, fin⟩ := hr.run c' a h1 h2 h3 h4 h5
  refine ⟨I, h0, hP, turn, fun st' hI C ν s' R' k' => ?_⟩
  obtain ⟨⟨_, m, hn, _⟩, _⟩ := R'.frames _ (List.mem_cons_self ..)
  refine ⟨m, hn, fun h' hsb => ?_⟩
  obtain ⟨R'', kk⟩ := R'.popChange (tk := s'.toks) hsb
  exact ⟨.ref a, (st₁.1, st'.2), R'', rfl, k'.trans kk, fin st' hI⟩

/-- a comprehension whose value goes to a local name at once -/
theorem S_AssignComp {x : Str} {pos' spos : Pos} {elt target iter : Expr} {ifs : List Expr} {scope : Scope} {pos : Pos} {cl : List (Str × Addr)} {Q : AFlow → St → Prop} (hcalm : c.lv.calm = true)
    (hsw : swapsWith (.ListComp elt [⟨target, iter, ifs, 0⟩] scope pos) (some (.Name x pos')) spos.line c.env = pure true) (hl : c.env.scope.names.lookup x = some .local)
    (hclos : closureFor scope c.env = pure cl) (hcell : ∀ y ∈ scope.names, y.2 ≠ .cell) (hkind : scope.kind = .function) (hnames : ∀ x ∈ scope.names, x.2 = .local → scope.names.lookup x.1 = some .local) (hf : ∀ x, foldedSetIterable iter c.env x = pure x)
    (h : WE c iter X (fun p st₁ => ∃ items P, ItOk c target p st₁ items P ∧ CompOk c scope cl elt target ifs items P X st₁.1 st₁.2 (fun a σ' => Q .next (setL x (.ref a) st₁.1, σ'))) st) :
    WX c (.Assign [.Name x pos'] (.ListComp elt [⟨target, iter, ifs, 0⟩] scope pos) spos) X Q st := fun hid stk s ok R => by
  rw [exec_Assign_Name_used x pos' _ spos hsw]
  refine wpAny_bind (wpAny_standAt (wpAny_bind ?_))
  show wpAny _ _ (do let _ ← comprehension (.ListComp elt [⟨target, iter, ifs, 0⟩] scope pos) scope c.env _ (newList []) false (eval iter c.env) (some (assign (.Name x pos') c.env))) _ _ s
  refine wpAny_bind (wp_comp (use := some (assign (.Name x pos') c.env)) hcalm hclos hcell hkind hnames hf ok R (WT.mono h (fun p st₁ ⟨items, P, hit, hr⟩ => ⟨items, P, hit, ⟨fun c' a h1 h2 h3 h4 h5 => ?_⟩⟩) fun _ _ y => y))
  obtain ⟨I, h0, hP, turn, fin⟩ := hr.run c' a h1 h2 h3 h4 h5
  refine ⟨I, h0, hP, turn, fun st' hI C ν s' R' k' => ?_⟩
  have := Asg_local (c := c) (X := X) (x := x) (pos := pos') (p := .ref a) (μ := st₁.1) (σ := st'.2) (Q := fun st => Q .next st) hl (fin st' hI) (.ref a) hid ((C, ν) :: stk) s' (ok.more C) R'.swap rfl
  refine wpAny_mono this (fun _ s'' hq => ?_) fun e s'' hx => ?_
  · obtain ⟨_, st₂, R₂, _, k₂, q⟩ := hq
    have R₂' := R₂.swap
    obtain ⟨⟨_, m, hn, _⟩, _⟩ := R₂'.frames _ (List.mem_cons_self ..)
    refine ⟨m, hn, fun h' hsb => ?_⟩
    obtain ⟨R₃, kk⟩ := R₂'.popChange (tk := s''.toks) hsb
    exact wpAny_pure (wpAny_pure ⟨.next, st₂, R₃, rfl, (k'.trans k₂).trans kk, q⟩)
  · obtain ⟨x, cls, st₂, rfl, R₂, hx, q⟩ := hx
    exact ⟨x, cls, st₂, rfl, R₂.swap.pop, hx, q⟩
end
end Mine
end
section
open PySem PySem.W PyProof.Rows
set_option Elab.async false
set_option linter.unusedVariables false
set_option maxRecDepth 10000
namespace Mine

structure ExcSub (X T : String) (b : Bool) : Prop where
  exc : isSubtype (.type T) (.type "BaseException") = pure true
  nt : isSubtype (.type ((Manifest.find? T).elim "type" fun x => x.metatype)) (.type "tuple") = pure false
  sub : isSubtype (.type X) (.type T) = pure b
section
variable {c : Cx} {X : String → St → Prop} {st : St} {μ : Locals} {σ : AHeap}

end
end Mine
end
section
open PySem PySem.W PyProof.Rows
set_option Elab.async false
set_option linter.unusedVariables false
set_option maxRecDepth 10000
namespace Mine

section
variable {M : Model} {A : Around} {E : Value → Shared → Prop} {s : Shared}
end

section
variable {prog : Program} {w : World} {A : Around} {E : Value → Shared → Prop} {s : Shared} {i : Int} {t : Tok} {Q : Value → Shared → Prop}
end
section
variable {prog : Program} {w : World} {A : Around} {E : Value → Shared → Prop} {s : Shared} {i : Int} {t : Tok} {Q : Value → Shared → Prop}
end

/-! comparing an int with a stranger -/
section
variable {c : Cx} {X : String → St → Prop} {st : St} {μ : Locals} {σ : AHeap}
/-- what is no int, but plain -/
inductive Strange (σ : AHeap) : PV → Prop
  | str (x : Str) (t : Tok) : Strange σ (.str x t)
  | none : Strange σ .none
  | list {a l} (h : seqAt σ a = some l) : Strange σ (.ref a)
end
end Mine
end
section
open PySem PySem.W PyProof.Rows
set_option Elab.async false
set_option linter.unusedVariables false
set_option maxRecDepth 10000
namespace Mine

section
variable {c : Cx} {X : String → St → Prop} {st : St} {μ : Locals} {σ : AHeap}

theorem bin_floordiv {i j : Int} {Q : PV → St → Prop} (h0 : j ≠ 0) (hj : j.natAbs < 1073741824) (h : Q (.int (i.fdiv j)) st) : W2 c VRep (.int i) (.int j) (binaryOp .FloorDiv) X Q st :=
  W2_ints (fun q => PyProof.Rows.floordiv_int h0 q (.inl (PyProof.noPylong_small hj))) h

/-! slices of lists -/
abbrev WPart (c : Cx) (x : Option Expr) (X : String → St → Prop) (Q : PV → St → Prop) (st : St) : Prop := WT c VRep (evalPart x c.env) X Q st
theorem Part_some {e} {Q : PV → St → Prop} (h : WE c e X Q st) : WPart c (some e) X Q st := fun hid stk s ok R => h hid stk s ok R
def SliceI (c : Cx) (p lo hi : PV) (X : String → St → Prop) (Q : PV → St → Prop) (st : St) : Prop :=
  ∀ v l u hid stk s, COk c.lv c.A c.env (stk.map (·.1)) → Rep c.base c.os hid ((c.env.locals, st.1) :: stk) st.2 s → VRep s.heap p v → VRep s.heap lo l → VRep s.heap hi u →
    (∃ T id, s.TypeIs v T ∧ typeLookup (.type T) "__getitem__" = pure (some (.builtin id))) ∧
    ∀ sl, s.heap.IsSliceOf sl l u .none → wpAny c.M c.A (getItem v (.ref sl)) (Post c VRep Q hid stk s.heap) (PostX c X hid stk) s
theorem E_Slice {value lower upper p pos} {Q : PV → St → Prop} (h : WE c value X (fun pv st₁ => WPart c lower X (fun lo st₂ => WPart c upper X (fun hi st₃ => SliceI c pv lo hi X Q st₃) st₂) st₁) st) :
    WE c (.Subscript value (.Slice lower upper none p) pos) X Q st := fun hid stk s ok R => by
  show wpAny _ _ (do
    let o ← eval value c.env
    let i ← holding [o] (eval (.Slice lower upper none p) c.env)
    standAt pos
    let r ← subscripted (.Slice lower upper none p) (← getitemInPython o) o i
    letTemporaryGo value o r
    pure r) _ _ s
  refine wpAny_bind (wpAny_mono (h hid stk s ok R) (fun v s₁ hp => ?_) fun _ _ y => y)
  obtain ⟨pv, st₁, R₁, hv, k₁, h₁⟩ := hp
  refine wpAny_bind (wpAny_holding (wpAny_Slice (wpAny_mono (h₁ hid stk s₁ ok R₁) (fun lo s₂ hq => ?_) fun _ _ y => y)))
  obtain ⟨plo, st₂, R₂, hlo, k₂, h₂⟩ := hq
  refine wpAny_mono (h₂ hid stk s₂ ok R₂) (fun hi s₃ hq => ?_) fun _ _ y => y
  obtain ⟨phi, st₃, R₃, hhi, k₃, h₃⟩ := hq
  refine wpAny_pure (a := Value.none) (wpAny_bind (wpAny_standAt ?_))
  have R₄ := R₃.grow (s' := { s₃ with heap := s₃.heap.push { cls := .type "slice", data := .fields #[lo, hi, .none] } }) (fun _ _ e => Heap.get?_push_of_some _ e) rfl rfl
  have k₄ := Keeps.push s₃.heap { cls := .type "slice", data := .fields #[lo, hi, .none] }
  obtain ⟨⟨T, id, hT, hl⟩, hg⟩ := h₃ v lo hi hid stk _ ok R₄ (hv.mono ((k₂.trans k₃).trans k₄)) (hlo.mono (k₃.trans k₄)) (hhi.mono k₄)
  exact tail_any (value := value) (slice := .Slice lower upper none p) (ops := [.ref s₃.heap.objs.size, v]) hT hl (wpAny_mono (hg _ (Heap.IsSliceOf.new s₃.heap lo hi .none)) (fun _ _ y => y.keeps (((k₁.trans k₂).trans k₃).trans k₄)) fun _ _ y => y) rfl

theorem slice_list {a : Addr} {l l' : List PV} {lo hi : PV} {lo' hi' : Option Int} {Q : PV → St → Prop} (hs : seqAt σ a = some l) (hz : l.length ≤ 16777216)
    (hlo : ∀ h v, VRep h lo v → IsPart v lo') (hhi : ∀ h v, VRep h hi v → IsPart v hi') (hp : ∀ h vs, VReps h l vs → ∃ ws : List Value, slicePick vs.toArray lo' hi' none = ws.toArray ∧ VReps h l' ws)
    (h : ∀ b, σ b = none → Q (.ref b) (μ, σ.set b (.list l'))) : SliceI c (.ref a) lo hi X Q (μ, σ) := fun v vl vu hid stk s ok R hv hl hu => by
  simp only [VRep] at hv; subst hv
  obtain ⟨vs, hL, hvs⟩ := R.seq hs
  have e1 := hvs.length
  obtain ⟨ws, hw, hws⟩ := hp _ _ hvs
  refine ⟨⟨"list", _, hL.isList.typeIs, slot_list_getitem.lookup⟩, fun sl hsl => ?_⟩
  refine wpAny_getItem_list_slice hL.isList hsl (hlo _ _ hl) (hhi _ _ hu) .none (by simp) ?_ (by rw [sizeLine_eq]; simp; omega)
  rw [hw]
  exact ⟨.ref s.heap.objs.size, (μ, σ.set s.heap.objs.size (.list l')), R.newList hws, rfl, Keeps.push _ _, h _ R.fresh_σ⟩
theorem isPart_int (i : Int) : ∀ (h : Heap) v, VRep h (.int i) v → IsPart v (some i) := fun h v e => by obtain ⟨t, rfl⟩ := e; exact .int _ _
theorem slice_run {a : Addr} {l : List PV} {n m : Nat} {Q : PV → St → Prop} (hs : seqAt σ a = some l) (hz : l.length ≤ 16777216) (hm : m ≤ l.length) (hn : n ≤ m) (h : ∀ b, σ b = none → Q (.ref b) (μ, σ.set b (.list ((l.drop n).take (m - n))))) : SliceI c (.ref a) (.int n) (.int m) X Q (μ, σ) :=
  slice_list hs hz (isPart_int _) (isPart_int _) (fun h vs hv => ⟨(vs.drop n).take (m - n), by rw [slicePick_run _ _ _ (by have := hv.length; simp; omega) hn], (hv.drop n).take _⟩) h

/-! is -/
theorem is_none {p : PV} {Q : PV → St → Prop} (hb : ∀ x, p ≠ .bi x) (h : Q (.bool (match p with | .none => true | _ => false)) st) : W2 c VRep p .none (compareOp .Is) X Q st := fun v u hid stk s ok R hv hu => by
  simp only [VRep] at hu; subst hu
  cases p with
  | none => simp only [VRep] at hv; subst hv; exact wpAny_is_self rfl ⟨.bool true, st, R, rfl, .refl _, h⟩
  | bool b => simp only [VRep] at hv; subst hv; exact wpAny_is_other rfl (by simp) ⟨.bool false, st, R, rfl, .refl _, h⟩
  | int i => obtain ⟨t, rfl⟩ := hv; exact wpAny_is_other rfl (by simp) ⟨.bool false, st, R, rfl, .refl _, h⟩
  | str x t => simp only [VRep] at hv; subst hv; exact wpAny_is_other rfl (by simp) ⟨.bool false, st, R, rfl, .refl _, h⟩
  | ref a => simp only [VRep] at hv; subst hv; exact wpAny_is_other rfl (by simp) ⟨.bool false, st, R, rfl, .refl _, h⟩
  | ty x => simp only [VRep] at hv; subst hv; exact wpAny_is_other rfl (by simp) ⟨.bool false, st, R, rfl, .refl _, h⟩
  | bi x => exact absurd rfl (hb x)
  | tup l => simp only [VRep] at hv; obtain ⟨a, vs, rfl, _⟩ := hv; exact wpAny_is_other rfl (by simp) ⟨.bool false, st, R, rfl, .refl _, h⟩
end
end Mine
end
section
open PySem PySem.W PyProof.Rows
set_option Elab.async false
set_option linter.unusedVariables false
set_option maxRecDepth 10000
namespace Mine

section
variable {c : Cx} {X : String → St → Prop} {st : St} {μ : Locals} {σ : AHeap}

/-- the same where going through changes what is told of the state -/
def ItOk' (c : Cx) (target : Expr) (p : PV) (st st' : St) (items : List PV) (P : AHeap → Prop) : Prop :=
  ∀ v hid stk s E Q, COk c.lv c.A c.env (stk.map (·.1)) → Rep c.base c.os hid ((c.env.locals, st.1) :: stk) st.2 s → VRep s.heap p v →
    (∀ it Sk KP hs s', IterAt c.toGx target it Sk KP P items → Sk 0 hs → KP s'.heap → Rep c.base c.os (hs ++ hid) ((c.env.locals, st'.1) :: stk) st'.2 s' → Keeps s.heap s'.heap → Q (.ref it) s') → wpAny c.M c.A (pyIter v) Q E s
theorem WI_of' {target iter} {Q : List PV → (AHeap → Prop) → St → Prop} (h : WE c iter X (fun p st₁ => ∃ items P st₂, ItOk' c target p st₁ st₂ items P ∧ Q items P st₂) st) : WI c target iter X Q st := fun hid stk s ok R => by
  refine wpAny_mono (h hid stk s ok R) (fun v s₁ hp => ?_) fun _ _ y => y
  obtain ⟨p, st₁, R₁, hv, k₁, items, P, st₂, hit, q⟩ := hp
  exact hit v hid stk s₁ _ _ ok R₁ hv fun it Sk KP hs s₂ IT hS0 hK0 R₂ k₂ => ⟨it, Sk, KP, hs, items, P, st₂, rfl, IT, hS0, hK0, R₂, k₁.trans k₂, q⟩

def listIter0 (a : Addr) : Obj := { cls := .type "list_iterator", data := .fields #[.ref a, .int 0 0] }
end
end Mine
end
section
open PySem PySem.W PyProof.Rows PySem.SeqAt
set_option Elab.async false
set_option linter.unusedVariables false
set_option maxRecDepth 10000
namespace Mine

/-! tuples of ints, by their order -/
def lexI : List Int → List Int → Bool
  | [], [] => false
  | [], _ :: _ => true
  | _ :: _, [] => false
  | x :: xs, y :: ys => if x == y then lexI xs ys else decide (x < y)

theorem intsAre_get {vs : List Value} {ns : List Int} (h : IntsAre vs ns) : ∀ i (hi : i < vs.length), ∃ (hn : i < ns.length) (t : Tok), vs[i] = .int ns[i] t := by
  induction h with
  | nil => intro i hi; simp at hi
  | cons n t _ ih =>
    intro i hi
    cases i with
    | zero => exact ⟨by simp, t, rfl⟩
    | succ i =>
      obtain ⟨hn, t', e⟩ := ih i (by simpa using hi)
      exact ⟨by simpa using hn, t', by simpa using e⟩
theorem intsAre_len {vs : List Value} {ns : List Int} (h : IntsAre vs ns) : vs.length = ns.length := by
  induction h with
  | nil => rfl
  | cons n t _ ih => simp [ih]

set_option maxHeartbeats 1000000 in
theorem tuple_ltAt (l b : Addr) (items items2 : Array Value) (n n2 : Nat) (dd dd2 : Option Addr) (sl sl2 : Array (Option Value)) (ns ms : List Int) :
    Meets (Builtin.«tuple.__lt__» ⟨[.ref l, .ref b], []⟩)
      (fun A R s => s.heap.get? l = some { cls := .type "tuple", dict := dd, data := .seq items n, slots := sl } ∧ s.heap.get? b = some { cls := .type "tuple", dict := dd2, data := .seq items2 n2, slots := sl2 } ∧
        (IntsAre items.toList ns ∧ IntsAre items2.toList ms) ∧ R (.ok (.ret (.bool (lexI ns ms)))) s) :=
  .of_wp fun prog w A R s h => by
    obtain ⟨hp, g, d, tk, os⟩ := s; obtain ⟨hl, hb, ⟨hn, hm⟩, h⟩ := h
    have f2 := AutoSeq1.sub_tuple_tuple
    have e1 := intsAre_len hn
    have e2 := intsAre_len hm
    have hZ : (items.toList.zip items2.toList).length = min ns.length ms.length := by rw [List.length_zip, e1, e2]
    wp_walk using wpAny_loadPart' hl, wpAny_loadPart' hb, wpAny_forIn_list _ (fun rest b s' => b.1 = none ∧ s' = ⟨hp, g, d, tk, os⟩ ∧ ∃ i, i ≤ min ns.length ms.length ∧ rest = (items.toList.zip items2.toList).drop i ∧
      lexI (ns.drop i) (ms.drop i) = lexI ns ms) _
    case turn =>
      rintro ⟨y, x⟩ rest b s' ⟨hb', rfl, i, hi, hz, hR⟩
      have hlt : i < (items.toList.zip items2.toList).length := by
        rcases Nat.lt_or_ge i (items.toList.zip items2.toList).length with h' | h'
        · exact h'
        · rw [List.drop_of_length_le h'] at hz; cases hz
      have hm' : i < min ns.length ms.length := hZ ▸ hlt
      have h1 : i < items.toList.length := by omega
      have h2 : i < items2.toList.length := by omega
      rw [List.drop_eq_getElem_cons hlt] at hz
      injection hz with hyx hrest
      obtain ⟨hn1, t1, v1⟩ := intsAre_get hn i h1
      obtain ⟨hn2, t2, v2⟩ := intsAre_get hm i h2
      have hy : y = .int ns[i] t1 := by rw [← v1]; have := congrArg Prod.fst hyx; simpa using this
      have hx : x = .int ms[i] t2 := by rw [← v2]; have := congrArg Prod.snd hyx; simpa using this
      subst hy hx
      rw [List.drop_eq_getElem_cons hn1, List.drop_eq_getElem_cons hn2, lexI] at hR
      refine wpAny_bind (EqAt.int_int _ _ _ _ prog w _ _ ?_)
      cases hy : (ns[i] == ms[i]) with
      | true =>
        rw [hy, if_pos rfl] at hR
        wp_walk
        exact ⟨rfl, rfl, i + 1, by omega, hrest, hR⟩
      | false =>
        rw [hy, if_neg (by decide)] at hR
        refine wpAny_ite_split (fun _ => ?_) (fun hab => absurd rfl hab)
        refine wpAny_bind (wpAny_rule (wpAny_bind ?_))
        refine richCompare_gives (op := .Lt) (typeIs_int _ _ _) (typeIs_int _ _ _) F.slot_int_lt F.entry_int_lt (F.args_int_lt_2 _ _) (gives_int_lt _ _ _ _) (fun x => nomatch x) ?_
        refine wpAny_bind (wpAny_pure (wpAny_pure ?_))
        refine wpAny_pure ⟨_, rfl, ?_⟩
        rw [hR]; exact h
    case fin =>
      rintro ⟨b1, b2⟩ s' ⟨hb', rfl, i, hi, hz, hR⟩
      simp only at hb'
      subst hb'
      have hge : min ns.length ms.length ≤ i := by
        rcases Nat.lt_or_ge i (items.toList.zip items2.toList).length with h' | h'
        · rw [List.drop_eq_getElem_cons h'] at hz; cases hz
        · exact hZ ▸ h'
      have hlex : lexI ns ms = decide (items.size < items2.size) := by
        rw [← hR]
        have e1' : items.size = ns.length := by rw [← e1]; simp
        have e2' : items2.size = ms.length := by rw [← e2]; simp
        rw [e1', e2']
        rcases Nat.lt_or_ge ns.length ms.length with q | q
        · rw [List.drop_of_length_le (show ns.length ≤ i by omega), List.drop_eq_getElem_cons (show i < ms.length by omega)]
          simp [lexI, q]
        · rw [List.drop_of_length_le (l := ms) (show ms.length ≤ i by omega)]
          rcases Nat.lt_or_ge i ns.length with q' | q'
          · rw [List.drop_eq_getElem_cons q']; simp [lexI]; omega
          · rw [List.drop_of_length_le q']; simp [lexI]; omega
      wp_walk
      exact ⟨_, rfl, by rw [hlex] at h; simpa [Builtin.Tuple.tupleCompareSizes] using h⟩
    case h => exact ⟨rfl, rfl, 0, by omega, by simp, by simp⟩
end Mine
end
section
open PySem PySem.W PyProof.Rows PySem.SeqAt
set_option Elab.async false
set_option linter.unusedVariables false
set_option maxRecDepth 10000
namespace Mine

section
variable {c : Cx} {X : String → St → Prop} {st : St} {μ : Locals} {σ : AHeap}

theorem cmp_lt_tup {ns ms : List Int} {Q : PV → St → Prop} (h : Q (.bool (lexI ns ms)) st) : W2 c VRep (.tup (intL ns)) (.tup (intL ms)) (compareOp .Lt) X Q st := fun v u hid stk s ok R hv hu => by
  simp only [VRep] at hv hu
  obtain ⟨a, vs, rfl, ⟨n, hL⟩, hvs⟩ := hv
  obtain ⟨b, ws, rfl, ⟨n', hM⟩, hws⟩ := hu
  have hU := ok.units
  exact richCompare_meets_room (op := .Lt) ⟨_, hL, rfl⟩ ⟨_, hM, rfl⟩ F.slot_tuple_lt F.entry_tuple_lt (F.args_tuple_lt_2 _ _) (tuple_ltAt a b vs.toArray ws.toArray n n' none none #[] #[] ns ms)
    ⟨hL, hM, ⟨hvs.intsAre, hws.intsAre⟩, (fun x => nomatch x), ⟨.bool (lexI ns ms), st, R, rfl, .refl _, h⟩⟩ (by rw [cLine_is]; omega)

/-! lists -/
theorem insert_list {a : Addr} {l : List PV} {i : Int} {p : PV} {Q : PV → St → Prop} (hs : σ a = some (.list l)) (h0 : 0 ≤ i) (hi : i ≤ l.length) (hz : l.length ≤ 16000000) (h : Q .none (μ, σ.set a (.list (l.take i.toNat ++ p :: l.drop i.toNat)))) :
    WN c VRep [.ref a, .int i, p] (fun vs => call (.builtin "list.insert") vs) X Q (μ, σ) := fun vs hid stk s ok R hv => by
  obtain ⟨v1, r1, rfl, h1, hv⟩ := hv.cons_inv
  obtain ⟨v2, r2, rfl, h2, hv⟩ := hv.cons_inv
  obtain ⟨v3, r3, rfl, h3, hv⟩ := hv.cons_inv
  rw [hv.nil_inv]
  simp only [VRep] at h1; subst h1
  obtain ⟨t, rfl⟩ := h2
  obtain ⟨hb, ws, hL, hws⟩ := R.heap _ _ hs
  have hlen := hws.length
  obtain ⟨n, e⟩ := id hL
  refine call_meets F.slot_list_insert ⟨_, e, rfl⟩ F.entry_list_insert (F.args_list_insert_3 _ _ _) (AutoListH.list_insert_list_int_val_1 a ws.toArray n i t v3 (by rw [fitsIndex_of h0 (by omega)]; decide) (by rw [sizeLine_eq]; simp; omega)) ⟨e, ?_⟩
  obtain ⟨R', k⟩ := R.listUpd (tk := s.toks) (l' := l.take i.toNat ++ p :: l.drop i.toNat) (ws := ws.take i.toNat ++ v3 :: ws.drop i.toNat) hs upd_other (hL.upd (f := fun xs => have k := if i < 0 then (i + ((xs.size : Nat) : Int)).toNat else min i.toNat xs.size; (xs.extract 0 k).push v3 ++ xs.extract k) (by
    have e1 : ¬ i < 0 := by omega
    have e2 : min i.toNat ws.toArray.size = i.toNat := by simp; omega
    simp only [e1, if_false, e2]
    apply Array.toList_inj.mp
    simp
    exact List.take_of_length_le (by simp))) ((hws.take _).append (.cons h3 (hws.drop _)))
  exact ⟨.none, (μ, _), R', rfl, k, h⟩

theorem extend_list {a b : Addr} {l m : List PV} {Q : PV → St → Prop} (hs : σ a = some (.list l)) (hm : seqAt σ b = some m) (hz : l.length + m.length ≤ 16000000) (h : Q .none (μ, σ.set a (.list (l ++ m)))) :
    WN c VRep [.ref a, .ref b] (fun vs => call (.builtin "list.extend") vs) X Q (μ, σ) := fun vs hid stk s ok R hv => by
  obtain ⟨v1, r1, rfl, h1, hv⟩ := hv.cons_inv
  obtain ⟨v2, r2, rfl, h2, hv⟩ := hv.cons_inv
  rw [hv.nil_inv]
  simp only [VRep] at h1 h2; subst h1 h2
  obtain ⟨hb, ws, hL, hws⟩ := R.heap _ _ hs
  obtain ⟨us, hM, hus⟩ := R.seq hm
  have hlen := hws.length
  have hlen2 := hus.length
  obtain ⟨n, e⟩ := id hL
  obtain ⟨n', e'⟩ := id hM
  refine call_meets F.slot_list_extend ⟨_, e, rfl⟩ F.entry_list_extend (F.args_list_extend_2 _ _) (AutoSeq1.list_extend_list_list_0 a ws.toArray n b us.toArray n' (extend_door (by rw [sizeLine_eq]; simp; omega)) (by rw [sizeLine_eq]; simp; omega) (by rw [sizeLine_eq]; simp; omega)) ⟨e, e', ?_⟩
  obtain ⟨R', k⟩ := R.listUpd (tk := s.toks) (l' := l ++ m) (ws := ws ++ us) hs upd_other (hL.upd (f := fun xs => xs ++ us.toArray) (by simp)) (hws.append hus)
  exact ⟨.none, (μ, _), R', rfl, k, h⟩

theorem call_listRange {r : Addr} {a b : Int} {Q : PV → St → Prop} (hcalm : c.lv.calm = true) (h : σ r = some (.range a b 1)) (ha : -1000000 ≤ a) (ha' : a ≤ 1000000) (hb : -1000000 ≤ b) (hb' : b ≤ 1000000)
    (hQ : ∀ x, σ x = none → Q (.ref x) (μ, σ.set x (.list (rangeL a 1 (b - a).toNat)))) : WN c VRep [.ref r] (fun vs => call (.type "list") vs) X Q (μ, σ) := fun vs hid stk s ok R hv => by
  obtain ⟨v1, r1, rfl, h1, hv⟩ := hv.cons_inv
  rw [hv.nil_inv]
  simp only [VRep] at h1; subst h1
  obtain ⟨_, t, u, w, hr⟩ := R.heap _ _ h
  have hsz : Builtin.Range.rangeSize a b 1 = (((b - a).toNat : Nat) : Int) := by rw [rangeSize_one]; split <;> omega
  refine wpAny_mono (wpAny_toks (E := PostX c X hid stk) (Q := fun v s' => ∃ h' tk acc' c', v = .ref s.heap.objs.size ∧ s' = { s with heap := h', toks := tk } ∧ (∀ b o, s.heap.get? b = some o → h'.get? b = some o) ∧
      h'.get? s.heap.objs.size = some { cls := .type "list", dict := none, data := .seq acc' c', slots := #[] } ∧ ItemsOf (fun i v => ∃ t, v = .int (a + i * 1) t) acc' (b - a).toNat)
    (call_list_range (ok.handled hcalm) hr (small_one (by omega) (by omega) (by omega) (by omega)) hsz (by omega) fun h' tk acc' c' hk hS hI => ⟨h', tk, acc', c', rfl, rfl, hk, hS, hI⟩)) (fun v s' hx => ?_) fun _ _ x => x.1
  obtain ⟨⟨h', tk, acc, c', rfl, rfl, hk, hS, hI⟩, htk⟩ := hx
  have k : Keeps s.heap h' := fun b vs ⟨n, e⟩ => ⟨n, hk _ _ e⟩
  have hreps : VReps h' (rangeL a 1 (b - a).toNat) acc.toList := by
    obtain ⟨e1, e2⟩ := hI
    refine VReps.of_forall (by simpa using e1) fun i p v hp hv => ?_
    obtain ⟨hi, rfl⟩ := rangeL_get hp
    exact e2 i v (by simpa using hv)
  exact ⟨.ref s.heap.objs.size, (μ, σ.set s.heap.objs.size (.list (rangeL a 1 (b - a).toNat))), R.put (s' := { s with heap := h', toks := tk }) (fun b ob _ e => hk b ob e) (fun vs ⟨_, h1⟩ => absurd (Heap.lt_size h1) (Nat.lt_irrefl _)) R.fresh_base R.fresh_hid R.fresh_stk ⟨R.fresh_base, acc.toList, ⟨c', by simpa using hS⟩, hreps⟩ rfl rfl htk, rfl, k, hQ _ R.fresh_σ⟩

/-! tuples -/
theorem get_tup {l : List PV} {i : Int} {p : PV} {Q : PV → St → Prop} (h0 : 0 ≤ i) (hx : l[i.toNat]? = some p) (hz : l.length ≤ 16777216) (h : Q p st) : GetI c (.tup l) (.int i) X Q st := fun v u hid stk s ok R hv hu => by
  simp only [VRep] at hv
  obtain ⟨a, vs, rfl, hT, hvs⟩ := hv
  obtain ⟨t, rfl⟩ := hu
  obtain ⟨x, hx', hr⟩ := hvs.get _ _ hx
  have hlt : i.toNat < l.length := (List.getElem?_eq_some_iff.mp hx).1
  have e1 := hvs.length
  refine ⟨⟨"tuple", _, hT.isTuple.typeIs, F.slot_tuple_getitem.lookup⟩, ?_⟩
  obtain ⟨n, e⟩ := hT
  exact PySem.P.getItem_tuple (n := n) (k := i.toNat) e (by omega) (by omega) (seqIndex_of h0 (by simp; omega)) (by simpa using hx') ⟨p, st, R, hr, .refl _, h⟩
theorem get_tup_last {l : List PV} {i : Int} {p : PV} {Q : PV → St → Prop} (h0 : i < 0) (h1 : 0 ≤ i + l.length) (hx : l[(i + l.length).toNat]? = some p) (hz : l.length ≤ 16777216) (h : Q p st) : GetI c (.tup l) (.int i) X Q st := fun v u hid stk s ok R hv hu => by
  simp only [VRep] at hv
  obtain ⟨a, vs, rfl, hT, hvs⟩ := hv
  obtain ⟨t, rfl⟩ := hu
  obtain ⟨x, hx', hr⟩ := hvs.get _ _ hx
  have e1 := hvs.length
  refine ⟨⟨"tuple", _, hT.isTuple.typeIs, F.slot_tuple_getitem.lookup⟩, ?_⟩
  obtain ⟨n, e⟩ := hT
  refine PySem.P.getItem_tuple (n := n) (k := (i + l.length).toNat) e (by omega) (by omega) ?_ (by simpa using hx') ⟨p, st, R, hr, .refl _, h⟩
  have hn : (i + (vs.toArray.size : Int)) = i + l.length := by simp [e1]
  have hlt : (i + l.length).toNat < l.length := (List.getElem?_eq_some_iff.mp hx).1
  unfold seqIndex?
  simp only [h0, if_true, hn]
  rw [if_pos (by simp; omega)]
theorem bin_addT {l m : List PV} {Q : PV → St → Prop} (hl : l ≠ []) (hm : m ≠ []) (hz : l.length + m.length ≤ 1000000) (h : Q (.tup (l ++ m)) st) : W2 c VRep (.tup l) (.tup m) (binaryOp .Add) X Q st := fun v u hid stk s ok R hv hu => by
  simp only [VRep] at hv hu
  obtain ⟨a, vs, rfl, ⟨n, hL⟩, hvs⟩ := hv
  obtain ⟨b, ws, rfl, ⟨n', hM⟩, hws⟩ := hu
  have e1 := hvs.length; have e2 := hws.length
  refine PySem.P.add_tuple hL hM ?_ ?_ ?_ (by rw [sizeLine_eq]; simp; omega)
  · intro q; apply hl; cases l with | nil => rfl | cons _ _ => simp at q e1; rw [q] at e1; simp at e1
  · intro q; apply hm; cases m with | nil => rfl | cons _ _ => simp at q e2; rw [q] at e2; simp at e2
  · refine ⟨.tup (l ++ m), st, R.grow (fun _ _ e => Heap.get?_push_of_some _ e) rfl rfl, ?_, Keeps.push _ _, h⟩
    simp only [VRep]
    exact ⟨s.heap.objs.size, vs ++ ws, rfl, ⟨0, by rw [Heap.get?_push_size _ rfl]; simp⟩, (hvs.append hws).mono (Keeps.push _ _)⟩

/-! abs -/
theorem call_abs {i : Int} {Q : PV → St → Prop} (h : Q (.int (if i < 0 then -i else i)) st) : WN c VRep [.int i] (fun vs => call (.builtin "abs") vs) X Q st := fun vs hid stk s ok R hv => by
  obtain ⟨v1, r1, rfl, h1, hv⟩ := hv.cons_inv
  rw [hv.nil_inv]
  obtain ⟨t, rfl⟩ := h1
  refine wpAny_mono (wpAny_toks (E := PostX c X hid stk) (Q := fun v s' => ∃ u tk, v = .int (if i < 0 then -i else i) u ∧ s' = { s with toks := tk }) (call_abs_int fun u tk => ⟨u, tk, rfl, rfl⟩)) (fun v s' hx => ?_) fun _ _ x => x.1
  obtain ⟨⟨u, tk, rfl, rfl⟩, htk⟩ := hx
  exact ⟨.int _, st, R.toks tk htk, ⟨u, rfl⟩, .refl _, h⟩

/-! ranges by steps -/
theorem call_range3 {a b d : Int} {Q : PV → St → Prop} (hd : d ≠ 0) (hs : d.natAbs < 1073741824) (h : ∀ r, σ r = none → Q (.ref r) (μ, σ.set r (.range a b d))) : WN c VRep [.int a, .int b, .int d] (fun vs => call (.type "range") vs) X Q (μ, σ) := fun vs hid stk s ok R hv => by
  obtain ⟨v1, r1, rfl, h1, hv⟩ := hv.cons_inv
  obtain ⟨v2, r2, rfl, h2, hv⟩ := hv.cons_inv
  obtain ⟨v3, r3, rfl, h3, hv⟩ := hv.cons_inv
  rw [hv.nil_inv]
  obtain ⟨t1, rfl⟩ := h1
  obtain ⟨t2, rfl⟩ := h2
  obtain ⟨t3, rfl⟩ := h3
  exact call_range_3 hd ⟨.ref s.heap.objs.size, (μ, σ.set s.heap.objs.size (.range a b d)), Rep.toks (R.alloc (o := .range a b d) (ob := { cls := .type "range", data := .fields #[.int a t1, .int b t2, .int d t3] }) ⟨R.fresh_base, t1, t2, t3, Heap.get?_push_size _ rfl⟩) _, rfl, Keeps.push _ _, h _ R.fresh_σ⟩ (Or.inl (PyProof.noPylong_small hs))
theorem it_range3 {target : Expr} {r : Addr} {a b d : Int} {n : Nat} (h : σ r = some (.range a b d)) (hs : Builtin.Range.small a b d = true) (hn : Builtin.Range.rangeSize a b d = n) : ItOk c target (.ref r) (μ, σ) (rangeL a d n) (fun _ => True) := fun v hid stk s E Q ok R hv hQ => by
  simp only [VRep] at hv; subst hv
  obtain ⟨_, t, u, w, hr⟩ := R.heap _ _ h
  refine wpAny_pyIter_range hr hs (hQ _ _ _ _ _ (iter_range target s.heap.objs.size a d n) rfl trivial ?_ (Keeps.push _ _))
  have := R.hidNew (ob := { cls := .type "range_iterator", data := .fields #[rawInt a, rawInt (Builtin.Range.rangeSize a b d), rawInt d] }) (by show Value.type "range_iterator" ≠ Value.type "tuple"; decide) rfl
  rw [hn] at this ⊢
  simpa using this

/-! is -/
theorem is_list_base {a b : Addr} {l : List PV} {ob : Obj} {Q : PV → St → Prop} (ha : seqAt σ a = some l) (hb : c.base.get? b = some ob) (hab : a ≠ b) (h : Q (.bool false) (μ, σ)) : W2 c VRep (.ref a) (.ref b) (compareOp .Is) X Q (μ, σ) := fun v u hid stk s ok R hv hu => by
  simp only [VRep] at hv hu; subst hv hu
  obtain ⟨ws, ⟨n, hL⟩, _⟩ := R.seq ha
  exact wpAny_is_ref_other hab hL (R.stays _ _ hb) (by show Value.type "list" ≠ Value.type "tuple"; decide) ⟨.bool false, (μ, σ), R, rfl, .refl _, h⟩

/-! iter -/
theorem call_iter {a : Addr} {l : List PV} {Q : PV → St → Prop} (hs : seqAt σ a = some l) (h : ∀ it oi, IsLIt a 0 oi → σ it = none → Q (.ref it) (μ, σ.set it (.raw oi))) :
    WN c VRep [.ref a] (fun vs => call (.builtin "iter") vs) X Q (μ, σ) := fun vs hid stk s ok R hv => by
  obtain ⟨v1, r1, rfl, h1, hv⟩ := hv.cons_inv
  rw [hv.nil_inv]
  simp only [VRep] at h1; subst h1
  obtain ⟨ws, hL, hws⟩ := R.seq hs
  refine Calls.call_function_entry (by decide +kernel) (by decide +kernel) (entryFor_of_fast (by kernel_rfl) : entryFor table "iter" = some Builtin.«iter») (by unfold argsOk; kernel_rfl) ?_
  unfold Builtin.«iter»
  refine wpAny_bind (m := someArgs "iter" 1 2 _) (wpAny_of_eq (a := [Value.ref a]) (by first | rfl | kernel_rfl!) ?_)
  show wpAny _ _ (pyIter (.ref a) >>= _) _ _ _
  refine wpAny_bind (wpAny_pyIter_list hL.isList ?_)
  refine wpAny_pure ⟨_, rfl, ⟨.ref s.heap.objs.size, (μ, σ.set s.heap.objs.size (.raw (listIter0 a))), R.alloc (o := .raw (listIter0 a)) ⟨R.fresh_base, Heap.get?_push_size _ rfl, by show Value.type "list_iterator" ≠ Value.type "tuple"; decide⟩, rfl, Keeps.push _ _, h _ _ ⟨rfl, rfl⟩ R.fresh_σ⟩⟩
def AHeap.drop (σ : AHeap) (a : Addr) : AHeap := fun x => if x = a then none else σ x
theorem AHeap.drop_sub (σ : AHeap) (a : Addr) : (σ.drop a).Sub σ := fun x o e => by
  unfold AHeap.drop at e
  split at e
  · cases e
  · exact e
theorem AHeap.drop_set {σ : AHeap} {a : Addr} {o : AObj} (h : σ a = none) : (σ.set a o).drop a = σ := by
  funext b; simp only [AHeap.drop, AHeap.set]; split
  · subst_vars; exact h.symm
  · rfl
theorem it_iter {target : Expr} {it a : Addr} {oi : Obj} {l : List PV} (hoi : IsLIt a 0 oi) (hi : σ it = some (.raw oi)) :
    ItOk' c target (.ref it) (μ, σ) (μ, σ.drop it) l (fun σ => seqAt σ a = some l) := fun v hid stk s E Q ok R hv hQ => by
  simp only [VRep] at hv; subst hv
  obtain ⟨hb2, ho2, hc2⟩ := R.heap _ _ hi
  refine wpAny_pyIter_listiter ⟨_, ho2, hoi.1, hoi.2⟩ (hQ it _ _ [(it, oi)] s (iter_list target it a l) ⟨oi, rfl, hoi⟩ trivial ?_ (.refl _))
  have R' := R.weaken (AHeap.drop_sub σ it)
  refine ⟨R'.stays, R'.gens, R'.os, fun p hp => ?_, R'.frames, R'.nodup, ?_, R'.heap, R'.tk⟩
  · simp only [List.cons_append, List.nil_append, List.mem_cons] at hp
    rcases hp with rfl | hp
    · exact ⟨ho2, hb2, by simp [AHeap.drop], fun q => by obtain ⟨f, hf, e'⟩ := List.mem_map.mp q; exact R.stk_ne hi f hf e', trivial⟩
    · exact R'.hid p hp
  · simp only [List.cons_append, List.nil_append, List.map_cons, List.nodup_cons]
    exact ⟨fun q => by obtain ⟨p, hp, e'⟩ := List.mem_map.mp q; exact R.hid_ne hi p hp e', R.hnd⟩
end
end Mine
end
section
open PySem PySem.W PyProof.Rows
set_option Elab.async false
set_option linter.unusedVariables false
set_option maxRecDepth 10000
namespace Mine

/-- a def of the text, called: what its binder makes of the arguments is told -/
theorem call_bind {G : Gx} {n : Nat} {calm : Bool} {a : Addr} {o : Obj} {fd : FuncData} {body : List Stmt} {ps0 ps : List PV} {kw : List (Str × PV)} {X : String → AHeap → Prop} {Q : PV → AHeap → Prop} {σ : AHeap} (names : List Str)
    (hG : Gd G) (ho : G.base.get? a = some o) (hd : o.data = .func fd) (hbody : fd.body = .stmts body) (hcd : G.base.CodeRec fd.code fd.qualname)
    (hclo : fd.closure = []) (hgl : fd.globals = mainGlobals) (hbu : fd.builtins = builtinsNs) (hk : fd.scope.kind = .function) (hco : fd.scope.isCoroutine = false) (hgen : fd.scope.isGenerator = false)
    (hnames : names.Nodup) (hlen : names.length = ps.length)
    (hbind : ∀ A hid stk s vs ks E Q, Rep G.base G.os hid stk σ s → VReps s.heap ps0 vs → VReps s.heap (kw.map (·.2)) ks → (∀ vs' s', Rep G.base G.os hid stk σ s' → Keeps s.heap s'.heap → VReps s'.heap ps vs' → Q (names.zip vs') s') → wpAny G.M A (bindArgs fd ⟨vs, (kw.map (·.1)).zip ks⟩) Q E s)
    (hkind : ∀ i, names.all (fun x => fd.scope.names.lookup x == some .local || (fd.scope.names.lookup x == some .cell && ((cellsFrom i fd.scope.names []).lookup x).isSome)) = true)
    (hcells : ∀ i, (cellsFrom i fd.scope.names []).all (fun p => fd.scope.names.lookup p.1 != some .local && ((cellsFrom i fd.scope.names []).lookup p.1 == some p.2)) = true)
    (h : ∀ (c : Cx) (L : Addr), c.toGx = G → c.lv = ⟨n, calm⟩ → c.env.scope = fd.scope → c.env.cells = cellsFrom (L + 1) fd.scope.names [] → c.env.qual = fd.qualname ++ ".<locals>." → (∀ b, L ≤ b → σ b = none) →
      WS c body (fun e st => X e st.2) (fun f st => Q (match f with | .ret p => p | _ => .none) st.2) ((names.zip ps).filter (fun b => fd.scope.names.lookup b.1 == some .local), addCells (cellsFrom (L + 1) fd.scope.names []) (fun x => (names.zip ps).lookup x) σ)) :
    CallK G ⟨n + 1, calm⟩ (.ref a) ps0 kw X Q σ := fun A frs hid stk s₀ vs₀ ks ok R₀ hv₀ hks => by
  refine codeAny_call_function (by have := ok.depth; simp only at this; show A.depth < 1000; omega) (R₀.stays _ _ ho) hd hco hgen hbody (hcd.keeps R₀.stays) ?_
  refine hbind _ hid stk s₀ vs₀ ks _ _ R₀ hv₀ hks fun vs s R k₀ hv => ?_
  rw [hclo]
  refine (newFunctionEnv_cells_toks hk (fun x hx => ?_) fun env he s' hin htk => ⟨(hG.nolimit.keeps R.stays).keeps hin.toInCall.keep, ?_⟩)
  · have h1 := List.all_eq_true.mp (hkind (s.heap.objs.size + 1)) x.1 (List.of_mem_zip hx).1
    simp only [Bool.or_eq_true, Bool.and_eq_true, beq_iff_eq] at h1
    exact h1
  · have hL : env.locals = s.heap.objs.size := by rw [he]; rfl
    have hsc : env.scope = fd.scope := by rw [he]; rfl
    have hce : env.cells = cellsFrom (s.heap.objs.size + 1) fd.scope.names [] := by rw [he]; rfl
    obtain ⟨h', tk, rfl, hkeep⟩ := hin.done
    have hbase : ∀ b, s.heap.objs.size ≤ b → G.base.get? b = none := fun b hb => by
      cases q : G.base.get? b with
      | none => rfl
      | some ob => exact absurd (Heap.lt_size (R.stays b ob q)) (Nat.not_lt.mpr hb)
    have hσ : ∀ b, s.heap.objs.size ≤ b → σ b = none := fun b hb => by
      cases q : σ b with
      | none => rfl
      | some ob => exact absurd (R.heap b ob q).lt (Nat.not_lt.mpr hb)
    have k : Keeps s.heap h' := fun b vs ⟨n, e⟩ => ⟨n, hkeep _ _ e⟩
    -- the state of the body
    have hcs : ∀ p ∈ cellsFrom (s.heap.objs.size + 1) fd.scope.names [], s.heap.objs.size < p.2 := fun p hp => by
      have := hin.above p.1 p.2 (by rw [hce]; exact hp); rw [hL] at this; exact this
    have R₁ : ∀ (cs : List (Str × Addr)), (∀ p ∈ cs, p ∈ cellsFrom (s.heap.objs.size + 1) fd.scope.names []) →
        Rep G.base G.os hid ((env.locals, (names.zip ps).filter (fun b => fd.scope.names.lookup b.1 == some .local)) :: stk) (addCells cs (fun x => (names.zip ps).lookup x) σ) { s with heap := h', toks := tk } := by
      intro cs hsub
      have R0 := R.grow (s' := { s with heap := h', toks := tk }) hkeep rfl rfl htk
      have hoff : ∀ b, b < s.heap.objs.size → addCells cs (fun x => (names.zip ps).lookup x) σ b = σ b := fun b hb => addCells_off fun p hp q => Nat.lt_asymm hb (q ▸ hcs p (hsub p hp))
      refine ⟨R0.stays, R0.gens, R0.os, fun p hp => ?_, fun f hf => ?_, ?_, R0.hnd, ?_, R0.tk⟩
      · obtain ⟨a1, b1, c1, d1, e1⟩ := R0.hid p hp
        have hlt := Heap.lt_size (R.hid p hp).1
        refine ⟨a1, b1, by rw [hoff _ hlt]; exact c1, fun q => ?_, e1⟩
        simp only [List.map_cons, List.mem_cons] at q
        rcases q with q | q
        · rw [hL] at q; exact Nat.ne_of_lt hlt q
        · exact d1 q
      · rcases List.mem_cons.mp hf with rfl | hf
        · refine ⟨⟨by rw [hL]; exact hbase _ (Nat.le_refl _), _, hin.toInCall.ns, fun x p e => ?_⟩, ?_⟩
          · obtain ⟨v, e1, e2⟩ := bindL_rep (k := fun x => fd.scope.names.lookup x) (m := fun _ => none) (hv.mono k) hnames x p e
            have hko : env.kindOf = fun x => fd.scope.names.lookup x := by funext x; unfold Env.kindOf; rw [hsc]
            rw [hko]
            exact ⟨v, e1, e2⟩
          · show addCells cs _ σ env.locals = none
            rw [hL, addCells_off (fun p hp q => Nat.ne_of_gt (hcs p (hsub p hp)) q)]
            exact hσ _ (Nat.le_refl _)
        · obtain ⟨a1, b1⟩ := R0.frames f hf
          exact ⟨a1, by rw [hoff _ (R.frames f hf).1.lt]; exact b1⟩
      · simp only [List.map_cons, List.nodup_cons]
        refine ⟨fun q => ?_, R0.nodup⟩
        obtain ⟨f, hf, e⟩ := List.mem_map.mp q
        rw [hL] at e; exact Nat.ne_of_lt (R.frames f hf).1.lt e
      · induction cs with
        | nil => exact R0.heap
        | cons p r ih =>
          obtain ⟨x, d⟩ := p
          intro b ob e
          by_cases q : b = d
          · subst q
            have e' : some (AObj.cell ((names.zip ps).lookup x)) = some ob := by
              have := AHeap.set_same (addCells r (fun x => (names.zip ps).lookup x) σ) b (.cell ((names.zip ps).lookup x))
              exact this.symm.trans e
            cases e'
            have hm := hsub (x, b) (List.mem_cons_self ..)
            have hc1 := List.all_eq_true.mp (hcells (s.heap.objs.size + 1)) (x, b) hm
            simp only [Bool.and_eq_true, bne_iff_ne, beq_iff_eq] at hc1
            refine ⟨hbase _ (Nat.le_of_lt (hcs _ hm)), _, hin.cell x b (by rw [hce]; exact hc1.2), ?_⟩
            have hko : env.kindOf = fun x => fd.scope.names.lookup x := by funext x; unfold Env.kindOf; rw [hsc]
            rw [hko]
            exact bindC_rep (hv.mono k) hnames hlen x hc1.1
          · have e' : addCells r (fun x => (names.zip ps).lookup x) σ b = some ob := by
              have := AHeap.set_ne (addCells r (fun x => (names.zip ps).lookup x) σ) (.cell ((names.zip ps).lookup x)) q
              exact this.symm.trans e
            exact ih (fun p hp => hsub p (List.mem_cons_of_mem _ hp)) (fun b hb => addCells_off fun p hp q => Nat.lt_asymm hb (q ▸ hcs p (hsub p (List.mem_cons_of_mem _ hp)))) b ob e'
    have hok := AOk.body (lv := ⟨n + 1, calm⟩) ok (env := env) (by rw [hsc]; exact hk) (by rw [he]; rfl) (by rw [he]; exact hgl) (by rw [he]; exact hbu)
    have hW := h ⟨G, ⟨n, calm⟩, A.deeper env, env⟩ s.heap.objs.size rfl rfl hsc hce (by rw [he]; rfl) hσ hid stk _ hok (R₁ _ fun _ hp => hp)
    obtain ⟨e₀, rest, ao, he₀⟩ := hok.ok
    refine codeAny_func (wpAny_mono hW (fun f s₂ hp => ?_) fun e s₂ hx => ?_)
    · obtain ⟨fl, st', R', hf, k', q⟩ := hp
      cases fl with
      | next => cases hf; exact ⟨.none, st'.2, R'.pop, rfl, k₀.trans (k.trans k'), q⟩
      | brk => cases hf; exact ⟨.none, st'.2, R'.pop, rfl, k₀.trans (k.trans k'), q⟩
      | cont => cases hf; exact ⟨.none, st'.2, R'.pop, rfl, k₀.trans (k.trans k'), q⟩
      | ret p => obtain ⟨v, rfl, hv'⟩ := hf; exact ⟨p, st'.2, R'.pop, hv', k₀.trans (k.trans k'), q⟩
    · obtain ⟨x, cls, st', rfl, R', hx', q⟩ := hx
      exact wp_leaving ao.frames (by simpa using ao.frs) R' rfl he₀ hx' fun s₃ R₃ n₃ => ⟨x, cls, st'.2, rfl, R₃.pop, n₃.at, q⟩
end Mine
end
section
open PySem PySem.W PyProof.Rows
set_option Elab.async false
set_option linter.unusedVariables false
set_option maxRecDepth 10000
namespace Mine

def turnOf (target iter : Expr) (ifs : List Expr) (it : Value) (body : Sem Unit) (again' : Code) (env : Env) : Sem PySem.Fin := do
  standAt iter.pos
  match ← pyNext it with
  | none => pure (.done .next)
  | some v =>
    letOwnedTupleGo target it v
    assign target env v
    let mut ok := true
    for c in ifs do
      if ok then ok ← isTrue c env (eval c env)
    if ok then body
    again again'

section
variable {c : Cx} {X : String → St → Prop} {st : St} {μ : Locals} {σ : AHeap}

theorem comp_loopG {gens : List Comprehension} {depth : Nat} {elt target iter : Expr} {ifs : List Expr} {scope : Scope} {pos : Pos} {it acc : Addr} {Sk KP P items} (hcalm : c.lv.calm = true) (IT : IterAt c.toGx target it Sk KP P items) (body : Sem Unit)
    (hturn : compTurn (.ListComp elt gens scope pos) depth (.ref it) (.ref acc) c.env = turnOf target iter ifs (.ref it) body (.compLoop (.ListComp elt gens scope pos) depth (.ref it) (.ref acc) c.env) c.env) (I : Nat → St → Prop) (hP : ∀ k st, I k st → P st.2)
    (turn : ∀ k p st, items[k]? = some p → I k st → WAsg c target p X (fun st₁ => WIfs c ifs X (fun b st₂ => (b = true → WT c UnitRep body X (fun _ st₃ => ∃ st₄, I (k + 1) st₄ ∧ St.le st₄ st₃) st₂) ∧ (b = false → ∃ st₄, I (k + 1) st₄ ∧ St.le st₄ st₂)) st₁) st)
    {hid stk h₀} (ok : COk c.lv c.A c.env (stk.map (·.1))) {k : Nat} {hs st s} (hk : k ≤ items.length) (hS : Sk k hs) (hK : KP s.heap) (hI : I k st) (R : Rep c.base c.os (hs ++ hid) ((c.env.locals, st.1) :: stk) st.2 s) (hk0 : Keeps h₀ s.heap) :
    codeAny c.M c.A (.compLoop (.ListComp elt gens scope pos) depth (.ref it) (.ref acc) c.env) (CompR c X (fun st => I items.length st) hid stk h₀) s := by
  have hh : c.A.handled = none := ok.handled hcalm
  have hE : ∀ e s'', PostX c X hid stk e s'' → notedBy c.M c.A c.env (fun e s' => CompR c X (fun st => I items.length st) hid stk h₀ (.error e) s') e s'' :=
    fun e s'' hx => hx.noted ok fun x cls st' s' R n q => ⟨x, cls, st', rfl, R, n, q⟩
  refine codeAny_loop rfl (fun n s' => ∃ k hs st', n = items.length - k ∧ k ≤ items.length ∧ Sk k hs ∧ KP s'.heap ∧ I k st' ∧ Rep c.base c.os (hs ++ hid) ((c.env.locals, st'.1) :: stk) st'.2 s' ∧ Keeps h₀ s'.heap) ?_ (items.length - k)
    ⟨k, hs, st, rfl, hk, hS, hK, hI, R, hk0⟩
  clear hk hS hK hI R hk0
  rintro n s' ⟨k, hs', st', rfl, hle, hSk, hKP, hI, R', k'⟩
  show wpAny _ c.A ((compTurn (.ListComp elt gens scope pos) depth (.ref it) (.ref acc) c.env).onRaise (fun x => do noteFrame x c.env; theTreesLotGoes x)) _ _ s'
  refine wpAny_noted ?_
  rw [hturn]
  unfold turnOf
  refine wpAny_bind (wpAny_standAt (wpAny_bind ?_))
  rcases Nat.lt_or_ge k items.length with hlt | hge
  · have hx : items[k]? = some items[k] := List.getElem?_eq_getElem hlt
    refine IT.next k _ hx _ _ _ _ _ _ _ _ hh hSk hKP (hP _ _ hI) R' fun v s₃ own hv₃ k₃ => ?_
    refine wpAny_bind (own _ _ _ fun s₄ hs₄ hSk₄ R₄ k₄ => ?_)
    refine wpAny_bind (wpAny_mono (turn k _ st' hx hI v (hs₄ ++ hid) stk s₄ ok R₄ (hv₃.mono k₄)) (fun _ s₅ h₅ => ?_) fun e s'' y => hE e s'' y.hidDrop)
    obtain ⟨_, st₅, R₅, _, k₅, h₅⟩ := h₅
    refine wpAny_bind (wpAny_mono (h₅ (hs₄ ++ hid) stk s₅ ok R₅) (fun b s₆ h₆ => ?_) fun e s'' y => hE e s'' y.hidDrop)
    obtain ⟨bb, st₆, R₆, hb, k₆, h₆⟩ := h₆
    cases hb
    have again : ∀ s₇ (st₇ : St), Rep c.base c.os (hs₄ ++ hid) ((c.env.locals, st₇.1) :: stk) st₇.2 s₇ → Keeps s₆.heap s₇.heap → (∃ st₃, I (k + 1) st₃ ∧ St.le st₃ st₇) → ∃ m, m < items.length - k ∧ (∃ k hs st', m = items.length - k ∧ k ≤ items.length ∧ Sk k hs ∧ KP s₇.heap ∧ I k st' ∧ Rep c.base c.os (hs ++ hid) ((c.env.locals, st'.1) :: stk) st'.2 s₇ ∧ Keeps h₀ s₇.heap) := by
      rintro s₇ st₇ R₇ k₇ ⟨st₃, hI₃, hl₃⟩
      have kk : Keeps s'.heap s₇.heap := k₃.trans (k₄.trans (k₅.trans (k₆.trans k₇)))
      exact ⟨items.length - (k + 1), by omega, k + 1, hs₄, st₃, rfl, hlt, hSk₄, IT.mono _ _ kk hKP, hI₃, (R₇.weaken hl₃.2).locals hl₃.1, k'.trans kk⟩
    cases b with
    | true =>
      simp only [if_true]
      refine wpAny_bind (wpAny_mono (h₆.1 rfl (hs₄ ++ hid) stk s₆ ok R₆) (fun x s₇ h₇ => ?_) fun e s'' y => hE e s'' y.hidDrop)
      obtain ⟨_, st₇, R₇, _, k₇, fin⟩ := h₇
      exact wpAny_pure ⟨rfl, again s₇ st₇ R₇ k₇ fin⟩
    | false =>
      simp only [Bool.false_eq_true, if_false]
      exact wpAny_pure ⟨rfl, again s₆ st₆ R₆ (.refl _) (h₆.2 rfl)⟩
  · have hk : k = items.length := by omega
    subst hk
    refine IT.stop _ _ _ _ _ _ _ _ hh hSk hKP (hP _ _ hI) R' fun s₃ R₃ k₃ => ?_
    exact wpAny_pure ⟨rfl, st', R₃, k'.trans k₃, hI⟩


theorem W1_mono {α β : Type} {rep : Heap → β → α → Prop} {p : PV} {t : Value → Sem α} {Q Q' : β → St → Prop} (h : W1 c rep p t X Q st) (hQ : ∀ x st, Q x st → Q' x st) : W1 c rep p t X Q' st := fun v hid stk s ok R hv =>
  wpAny_mono (h v hid stk s ok R hv) (fun _ _ ⟨p, st', a, b, k, q⟩ => ⟨p, st', a, b, k, hQ _ _ q⟩) fun _ _ y => y
/-- the last clause's body -/
def emitL (elt : Expr) (acc : Value) (env : Env) : Sem Unit := do let _ ← call (.builtin "list.append") [acc, ← eval elt env]
theorem W_emit {elt : Expr} {acc : Addr} {I : Nat → St → Prop} {k : Nat} (h : WE c elt X (fun q st₃ => compQ I k acc q st₃) st) : WT c UnitRep (emitL elt (.ref acc) c.env) X (fun _ st₃ => ∃ st₄, I k st₄ ∧ St.le st₄ st₃) st := fun hid stk s ok R => by
  unfold emitL
  refine wpAny_bind (wpAny_mono (h hid stk s ok R) (fun x s₇ h₇ => ?_) fun _ _ y => y)
  obtain ⟨q, st₇, R₇, hq, k₇, l, hl, hz, fin⟩ := h₇
  have := append_list (c := c) (X := X) (μ := st₇.1) (σ := st₇.2) (a := acc) (l := l) (p := q) (Q := fun _ st => ∃ st₄, I k st₄ ∧ St.le st₄ st) hl (by omega) fin [.ref acc, x] hid stk s₇ ok R₇ (.cons rfl (.cons hq .nil))
  refine wpAny_bind (wpAny_mono this (fun _ s₈ h₈ => ?_) fun _ _ y => y)
  obtain ⟨_, st₈, R₈, _, k₈, fin⟩ := h₈
  exact wpAny_pure ⟨(), st₈, R₈, trivial, k₇.trans k₈, fin⟩

/-- the inner clause of two -/
def innerL (e : Expr) (g : Comprehension) (acc : Value) (env : Env) : Sem Unit := do
  let x ← eval g.iter env
  standAt g.iter.pos
  let x ← foldedSetIterable g.iter env x
  let _ ← runOwn (.compStart e 1 (← holding [x] (pyIter x)) acc env) env
theorem codeAny_compStart_one {prog : Program} {w : World} {A : Around} {R : Result → Shared → Prop} {s : Shared} {elt g₀ target iter ifs scope pos it acc env}
    (h0 : codeAny (model prog w) A (.compLoop (.ListComp elt [g₀, ⟨target, iter, ifs, 0⟩] scope pos) 1 it acc env) R s)
    (h : wpAny (model prog w) A (pyIter it) (fun it' s' => codeAny (model prog w) A (.compLoop (.ListComp elt [g₀, ⟨target, iter, ifs, 0⟩] scope pos) 1 it' acc env) R s')
      (notedBy (model prog w) A env fun x s' => R (.error x) s') s) :
    codeAny (model prog w) A (.compStart (.ListComp elt [g₀, ⟨target, iter, ifs, 0⟩] scope pos) 1 it acc env) R s := by
  refine codeAny_of_tree ?_
  show wpAny _ _ ((compStart (.ListComp elt [g₀, ⟨target, iter, ifs, 0⟩] scope pos) 1 it acc env).onRaise (fun x => do noteFrame x env; standAt theWindowsPlace)) _ _ s
  refine wpAny_notedAt ?_
  unfold compStart
  show wpAny _ _ (ask >>= _) _ _ s
  refine wpAny_bind (wpAny_askSetting (wpAny_ite ?_))
  split
  · first
      | exact wpAny_bind (wpAny_pure (wpAny_pure (And.intro rfl h0)))
      | exact wpAny_pure (And.intro rfl h0)
  · first
      | exact wpAny_bind (wpAny_rule (wpAny_bind (wpAny_standAt (wpAny_bind (wpAny_mono h (fun it' s' h' => wpAny_pure (And.intro rfl h')) fun _ _ h' => h')))))
      | exact wpAny_bind (wpAny_pure (wpAny_bind (wpAny_rule (wpAny_bind (wpAny_standAt (wpAny_bind (wpAny_mono h (fun it' s' h' => wpAny_pure (And.intro rfl h')) fun _ _ h' => h')))))))
theorem W_inner {elt : Expr} {g₀ : Comprehension} {target iter : Expr} {ifs : List Expr} {scope : Scope} {pos : Pos} {acc : Addr} {Q : St → Prop} (hcalm : c.lv.calm = true) (hf : ∀ x, foldedSetIterable iter c.env x = pure x)
    (h : WE c iter X (fun p st₁ => ∃ items P, ItOk c target p st₁ items P ∧ ∃ (I : Nat → St → Prop) (st₀ : St), I 0 st₀ ∧ St.le st₀ st₁ ∧ (∀ k st, I k st → P st.2) ∧
      (∀ k p st, items[k]? = some p → I k st → WAsg c target p X (fun st₁ => WIfs c ifs X (fun b st₂ => (b = true → WE c elt X (fun q st₃ => compQ I (k + 1) acc q st₃) st₂) ∧ (b = false → ∃ st₄, I (k + 1) st₄ ∧ St.le st₄ st₂)) st₁) st) ∧
      (∀ st, I items.length st → Q st)) st) :
    WT c UnitRep (innerL (.ListComp elt [g₀, ⟨target, iter, ifs, 0⟩] scope pos) ⟨target, iter, ifs, 0⟩ (.ref acc) c.env) X (fun _ st => Q st) st := fun hid stk s ok R => by
  unfold innerL
  refine wpAny_bind (wpAny_mono (h hid stk s ok R) (fun v s₁ hp => ?_) fun _ _ y => y)
  obtain ⟨p, st₁, R₁, hv, k₁, items, P, hit, I, st₀, h0, hl0, hP, turn, fin⟩ := hp
  refine wpAny_bind (wpAny_standAt (wpAny_bind (wpAny_of_eq (hf v) (wpAny_bind (wpAny_holding ?_)))))
  refine hit v hid stk s₁ _ _ ok R₁ hv fun it Sk KP hs s₂ IT hS0 hK0 R₂ k₂ => ?_
  refine wpAny_bind (wpAny_runOwn ?_)
  have hR₂ := (R₂.weaken hl0.2).locals hl0.1
  have hloop : codeAny c.M c.A (.compLoop (.ListComp elt [g₀, ⟨target, iter, ifs, 0⟩] scope pos) 1 (.ref it) (.ref acc) c.env) (CompR c X (fun st => I items.length st) hid stk s.heap) s₂ :=
    comp_loopG hcalm IT (emitL elt (.ref acc) c.env) rfl I hP (fun k p st hp hI => W1_mono (turn k p st hp hI) fun _ st₁ h₁ => WT.mono h₁ (fun b st₂ h₂ => ⟨fun hb => W_emit (h₂.1 hb), h₂.2⟩) fun _ _ x => x) ok (Nat.zero_le _) hS0 hK0 h0 hR₂ (k₁.trans k₂)
  have hback : ∀ r s', CompR c X (fun st => I items.length st) hid stk s.heap r s' → (match (generalizing := false) r with
      | .ok f => wpAny c.M c.A (pure ()) (Post c UnitRep (fun _ st => Q st) hid stk s.heap) (PostX c X hid stk) s'
      | .error e => cameBackBy c.M c.A c.env (PostX c X hid stk) e s') := fun r s' hr => by
    cases r with
    | ok f => obtain ⟨_, st', R', k', q⟩ := hr; exact wpAny_pure ⟨(), st', R', trivial, k', fin st' q⟩
    | error e =>
      obtain ⟨x, cls, st', rfl, R', hx, q⟩ := hr
      exact wp_cameBack R' hx fun s'' R' n' => ⟨x, cls, st', rfl, R', n'.at, q⟩
  refine codeAny_compStart_one (codeAny_mono hloop hback) ?_
  exact IT.self 0 _ _ _ _ _ _ _ _ hS0 hR₂ (codeAny_mono hloop hback)

theorem turn_two {elt target iter : Expr} {ifs : List Expr} {g₁ : Comprehension} {scope : Scope} {pos : Pos} {it acc : Value} {env : Env} (h : g₁.is_async = 0) :
    compTurn (.ListComp elt [⟨target, iter, ifs, 0⟩, g₁] scope pos) 0 it acc env = turnOf target iter ifs it (innerL (.ListComp elt [⟨target, iter, ifs, 0⟩, g₁] scope pos) g₁ acc env) (.compLoop (.ListComp elt [⟨target, iter, ifs, 0⟩, g₁] scope pos) 0 it acc env) env := by
  obtain ⟨t1, i1, f1, a1⟩ := g₁
  have h' : a1 = 0 := h
  subst h'
  have e : compTurn (.ListComp elt [⟨target, iter, ifs, 0⟩, ⟨t1, i1, f1, 0⟩] scope pos) 0 it acc env = (do
    standAt iter.pos
    match ← pyNext it with
    | none => pure (.done .next)
    | some v =>
      letOwnedTupleGo target it v
      assign target env v
      let mut ok := true
      for c in ifs do
        if ok then ok ← isTrue c env (eval c env)
      if ok then
        let x ← eval i1 env
        standAt i1.pos
        let x ← foldedSetIterable i1 env x
        let _ ← runOwn (.compStart (.ListComp elt [⟨target, iter, ifs, 0⟩, ⟨t1, i1, f1, 0⟩] scope pos) 1 (← holding [x] (pyIter x)) acc env) env
      again (.compLoop (.ListComp elt [⟨target, iter, ifs, 0⟩, ⟨t1, i1, f1, 0⟩] scope pos) 0 it acc env)) := rfl
  rw [e]
  unfold turnOf innerL
  simp only [bind_assoc, pure_bind]
/-- what is asked of the loop of a comprehension over items -/
structure CompOk2 (c : Cx) (e : Expr) (g₁ : Comprehension) (scope : Scope) (cl : List (Str × Addr)) (target : Expr) (ifs : List Expr) (items : List PV) (P : AHeap → Prop) (X : String → St → Prop) (μ : Locals) (σ : AHeap) (Q : Addr → AHeap → Prop) : Prop where
  run : ∀ (c' : Cx) (a : Addr), c'.toGx = c.toGx → c'.lv = c.lv → c'.env.scope = relabel scope c.env → c'.env.cells = cl → σ a = none →
    ∃ I : Nat → St → Prop, I 0 ([], σ.set a (.list [])) ∧ (∀ k st, I k st → P st.2) ∧
      (∀ k p st, items[k]? = some p → I k st → WAsg c' target p (fun e st => X e (μ, st.2)) (fun st₁ => WIfs c' ifs (fun e st => X e (μ, st.2)) (fun b st₂ => (b = true → WT c' UnitRep (innerL e g₁ (.ref a) c'.env) (fun e st => X e (μ, st.2)) (fun _ st₃ => ∃ st₄, I (k + 1) st₄ ∧ St.le st₄ st₃) st₂) ∧ (b = false → ∃ st₄, I (k + 1) st₄ ∧ St.le st₄ st₂)) st₁) st) ∧
      (∀ st, I items.length st → Q a st.2)

theorem wp_comp2 {g₁ : Comprehension} {elt target iter : Expr} {ifs : List Expr} {scope : Scope} {pos : Pos} {cl : List (Str × Addr)} {use : Option (Value → Sem Unit)} {QV : Value → Shared → Prop} (ha1 : g₁.is_async = 0) (hcalm : c.lv.calm = true)
    (hclos : closureFor scope c.env = pure cl) (hcell : ∀ y ∈ scope.names, y.2 ≠ .cell) (hkind : scope.kind = .function) (hnames : ∀ x ∈ scope.names, x.2 = .local → scope.names.lookup x.1 = some .local) (hf : ∀ x, foldedSetIterable iter c.env x = pure x)
    {hid stk s₀} (ok : COk c.lv c.A c.env (stk.map (·.1))) (R : Rep c.base c.os hid ((c.env.locals, st.1) :: stk) st.2 s₀) {p0 : Pos}
    (h : WE c iter X (fun p st₁ => ∃ items P, ItOk c target p st₁ items P ∧ CompOk2 c (.ListComp elt [⟨target, iter, ifs, 0⟩, g₁] scope pos) g₁ scope cl target ifs items P X st₁.1 st₁.2 (fun a σ' => ∀ C ν s', Rep c.base c.os hid ((C, ν) :: (c.env.locals, st₁.1) :: stk) σ' s' → Keeps s₀.heap s'.heap →
      compPost c.M c.A (PostX c X hid stk) use QV (.ref a) C (.ok .next) s')) st) :
    wpAny c.M c.A (comprehension (.ListComp elt [⟨target, iter, ifs, 0⟩, g₁] scope pos) scope c.env p0 (newList []) false (eval iter c.env) use) QV (PostX c X hid stk) s₀ := by
  refine wpAny_comprehension_free rfl hf hclos hkind hnames (wpAny_mono (h hid stk s₀ ok R) (fun v s₁ hp => ?_) fun _ _ y => y)
  obtain ⟨p, st₁, R₁, hv, k₁, items, P, hit, hrun⟩ := hp
  refine hit v hid stk s₁ _ _ ok R₁ hv fun it Sk KP hs s₂ IT hS0 hK0 R₂ k₂ => ?_
  refine wpAny_newObj_type ?_ (by size_fits)
  -- the accumulator, then the block's own names
  have R₃ := R₂.newList (l := []) (vs := []) .nil
  refine wpAny_newFunctionEnv hcell (by intro y hy; simp at hy) (fun h₁ hns₁ hsb₁ => ?_) hkind
  dsimp only at hns₁ hsb₁ ⊢
  generalize hs₃e : ({ s₂ with heap := s₂.heap.push { cls := .type "list", dict := none, data := .seq ([] : List Value).toArray, slots := #[] } } : Shared) = s₃ at R₃
  have ha3 : s₃.heap = s₂.heap.push { cls := .type "list", dict := none, data := .seq ([] : List Value).toArray, slots := #[] } := by rw [← hs₃e]
  have hkeep : ∀ b o, s₃.heap.get? b = some o → h₁.get? b = some o := fun b o e => by
    rw [ha3] at e
    exact hsb₁.extBut b o (Nat.ne_of_lt (Heap.lt_size e)) (Heap.get?_push_of_some _ e)
  have R₄ : Rep c.base c.os (hs ++ hid) ((s₃.heap.objs.size, []) :: (c.env.locals, st₁.1) :: stk) (st₁.2.set s₂.heap.objs.size (.list [])) { s₃ with heap := h₁ } := by
    have Rg := R₃.grow (s' := { s₃ with heap := h₁ }) hkeep rfl rfl
    refine ⟨Rg.stays, Rg.gens, Rg.os, fun q hq => ?_, fun f hf => ?_, ?_, Rg.hnd, Rg.heap, Rg.tk⟩
    · obtain ⟨a1, b1, c1, d1, e1⟩ := Rg.hid q hq
      exact ⟨a1, b1, c1, fun q' => by
        rw [List.map_cons, List.mem_cons] at q'
        rcases q' with q' | q'
        · exact R₃.fresh_hid q hq q'
        · exact d1 q', e1⟩
    · rcases List.mem_cons.mp hf with rfl | hf
      · exact ⟨⟨R₃.fresh_base, _, by rw [ha3]; exact hns₁, fun x p e => by cases e⟩, R₃.fresh_σ⟩
      · exact Rg.frames f hf
    · rw [List.map_cons, List.nodup_cons]
      exact ⟨fun q => by obtain ⟨f, hf, e⟩ := List.mem_map.mp q; exact R₃.fresh_stk f hf e, Rg.nodup⟩
  have k₃ : Keeps s₂.heap h₁ := fun b vs ⟨n, e⟩ => ⟨n, hkeep _ _ (by rw [ha3]; exact Heap.get?_push_of_some _ e)⟩
  have kall : Keeps s₀.heap h₁ := (k₁.trans k₂).trans k₃
  obtain ⟨I, h0, hP, turn, fin⟩ := hrun.run ⟨c.toGx, c.lv, c.A, compEnvC scope cl s₃.heap.objs.size c.env⟩ s₂.heap.objs.size rfl rfl rfl rfl R₂.fresh_σ
  have hok' : COk c.lv c.A (compEnvC scope cl s₃.heap.objs.size c.env) (((c.env.locals, st₁.1) :: stk).map (·.1)) := ok.inner rfl hkind rfl rfl
  have hloop : ∀ s₄ : Shared, s₄ = { s₃ with heap := h₁ } → codeAny c.M c.A (.compLoop (.ListComp elt [⟨target, iter, ifs, 0⟩, g₁] scope pos) 0 (.ref it) (.ref s₂.heap.objs.size) (compEnvC scope cl s₃.heap.objs.size c.env)) (compPost c.M c.A (PostX c X hid stk) use QV (.ref s₂.heap.objs.size) s₃.heap.objs.size) s₄ := by
    rintro s₄ rfl
    refine codeAny_mono (comp_loopG (c := ⟨c.toGx, c.lv, c.A, compEnvC scope cl s₃.heap.objs.size c.env⟩) (X := fun e st => X e (st₁.1, st.2)) hcalm IT (innerL (.ListComp elt [⟨target, iter, ifs, 0⟩, g₁] scope pos) g₁ (.ref s₂.heap.objs.size) (compEnvC scope cl s₃.heap.objs.size c.env)) (turn_two ha1) I hP turn (stk := (c.env.locals, st₁.1) :: stk) hok' (Nat.zero_le _) hS0 (IT.mono _ _ k₃ hK0) h0 R₄ kall) fun r s' hr => ?_
    cases r with
    | ok f =>
      obtain ⟨rfl, st', R', k', q⟩ := hr
      exact fin st' q _ _ s' R' k'
    | error e =>
      obtain ⟨x, cls, st', rfl, R', hx, q⟩ := hr
      have key : ∃ m, s'.heap.Ns s₃.heap.objs.size m ∧ ∀ h', Heap.SameBut s₃.heap.objs.size s'.heap h' → ∀ cenv : Env, cenv.locals = s₃.heap.objs.size → wpAny c.M c.A (PySem.passOn "comprehension.variables-let-go" (.ref x) cenv : Sem Value) (fun _ _ => False) (PostX c X hid stk) { s' with heap := h' } := by
        obtain ⟨⟨hnew, m, hn, _⟩, hσC⟩ := R'.frames _ (List.mem_cons_self ..)
        refine ⟨m, hn, fun h' hsb cenv _ => ?_⟩
        obtain ⟨R'', kk⟩ := R'.popChange (tk := s'.toks) hsb
        -- the exception is not the block
        obtain ⟨ha, ob, vs, T, oT, ts, x1, x2, x3, x4, k1, y2, y3, y4, y5, y6, y7⟩ := hx
        have hxC : x ≠ s₃.heap.objs.size := fun q => stk_not_fields R' x1 x4 _ (List.mem_cons_self ..) q.symm
        have hTC : T ≠ s₃.heap.objs.size := fun q => stk_not_fields R' y2 y4 _ (List.mem_cons_self ..) q.symm
        have hx' : ExcNoted c.base hid st'.2 h' x cls := ⟨ha, ob, vs, T, oT, ts, (hsb.2 x hxC).trans x1, x2, x3, x4, k1, (hsb.2 T hTC).trans y2, y3, y4, y5, y6, y7⟩
        unfold PySem.passOn
        refine wpAny_bind (wpAny_field ((hsb.2 x hxC).trans x1) x4 k1 ?_)
        rw [if_neg (by simp)]
        exact wpAny_bind (wp_flight (s := { s' with heap := h' }) R'' hx' fun s'' R3 n3 => wpAny_throw ⟨x, cls, (st₁.1, st'.2), rfl, R3, n3.at, q⟩)
      cases use <;> exact key
  have henv : ({ newEnv scope s₃.heap.objs.size c.env.globals cl c.env.qual none .none (some c.env) c.env.builtins with scope := relabel scope c.env } : Env) = compEnvC scope cl s₃.heap.objs.size c.env := rfl
  have hsz : (s₂.heap.push { cls := .type "list", dict := none, data := .seq ([] : List Value).toArray }).objs.size = s₃.heap.objs.size := by rw [ha3]
  rw [hsz]
  have hst : ({ s₂ with heap := h₁, toks := s₂.toks + ([] : List (Str × Value)).length } : Shared) = { s₃ with heap := h₁ } := by rw [← hs₃e]; rfl
  show codeAny c.M c.A (.compStart (.ListComp elt [⟨target, iter, ifs, 0⟩, g₁] scope pos) 0 (.ref it) (.ref s₂.heap.objs.size) (compEnvC scope cl s₃.heap.objs.size c.env)) _ _
  rw [hst]
  refine codeAny_compStart_list (hloop _ rfl) ?_
  exact IT.self 0 _ _ _ _ _ _ _ _ hS0 R₄ (hloop _ rfl)

/-- a comprehension whose value goes to a local name at once -/
theorem S_AssignComp2 {g₁ : Comprehension} {x : Str} {pos' spos : Pos} {elt target iter : Expr} {ifs : List Expr} {scope : Scope} {pos : Pos} {cl : List (Str × Addr)} {Q : AFlow → St → Prop} (ha1 : g₁.is_async = 0) (hcalm : c.lv.calm = true)
    (hsw : swapsWith (.ListComp elt [⟨target, iter, ifs, 0⟩, g₁] scope pos) (some (.Name x pos')) spos.line c.env = pure true) (hl : c.env.scope.names.lookup x = some .local)
    (hclos : closureFor scope c.env = pure cl) (hcell : ∀ y ∈ scope.names, y.2 ≠ .cell) (hkind : scope.kind = .function) (hnames : ∀ x ∈ scope.names, x.2 = .local → scope.names.lookup x.1 = some .local) (hf : ∀ x, foldedSetIterable iter c.env x = pure x)
    (h : WE c iter X (fun p st₁ => ∃ items P, ItOk c target p st₁ items P ∧ CompOk2 c (.ListComp elt [⟨target, iter, ifs, 0⟩, g₁] scope pos) g₁ scope cl target ifs items P X st₁.1 st₁.2 (fun a σ' => Q .next (setL x (.ref a) st₁.1, σ'))) st) :
    WX c (.Assign [.Name x pos'] (.ListComp elt [⟨target, iter, ifs, 0⟩, g₁] scope pos) spos) X Q st := fun hid stk s ok R => by
  rw [exec_Assign_Name_used x pos' _ spos hsw]
  refine wpAny_bind (wpAny_standAt (wpAny_bind ?_))
  show wpAny _ _ (do let _ ← comprehension (.ListComp elt [⟨target, iter, ifs, 0⟩, g₁] scope pos) scope c.env _ (newList []) false (eval iter c.env) (some (assign (.Name x pos') c.env))) _ _ s
  refine wpAny_bind (wp_comp2 (ha1 := ha1) (use := some (assign (.Name x pos') c.env)) hcalm hclos hcell hkind hnames hf ok R (WT.mono h (fun p st₁ ⟨items, P, hit, hr⟩ => ⟨items, P, hit, ⟨fun c' a h1 h2 h3 h4 h5 => ?_⟩⟩) fun _ _ y => y))
  obtain ⟨I, h0, hP, turn, fin⟩ := hr.run c' a h1 h2 h3 h4 h5
  refine ⟨I, h0, hP, turn, fun st' hI C ν s' R' k' => ?_⟩
  have := Asg_local (c := c) (X := X) (x := x) (pos := pos') (p := .ref a) (μ := st₁.1) (σ := st'.2) (Q := fun st => Q .next st) hl (fin st' hI) (.ref a) hid ((C, ν) :: stk) s' (ok.more C) R'.swap rfl
  refine wpAny_mono this (fun _ s'' hq => ?_) fun e s'' hx => ?_
  · obtain ⟨_, st₂, R₂, _, k₂, q⟩ := hq
    have R₂' := R₂.swap
    obtain ⟨⟨_, m, hn, _⟩, _⟩ := R₂'.frames _ (List.mem_cons_self ..)
    refine ⟨m, hn, fun h' hsb => ?_⟩
    obtain ⟨R₃, kk⟩ := R₂'.popChange (tk := s''.toks) hsb
    exact wpAny_pure (wpAny_pure ⟨.next, st₂, R₃, rfl, (k'.trans k₂).trans kk, q⟩)
  · obtain ⟨x, cls, st₂, rfl, R₂, hx, q⟩ := hx
    exact ⟨x, cls, st₂, rfl, R₂.swap.pop, hx, q⟩
end
end Mine
end
section
open PySem PySem.W PyProof.Rows
set_option Elab.async false
set_option linter.unusedVariables false
set_option maxRecDepth 10000
namespace Mine

theorem wp_drawL {G : Gx} {A : Around} {E : Value → Shared → Prop} {it a : Addr} {l : List PV} {σ : AHeap} {hid stk} (hl : seqAt σ a = some l) : ∀ (n i : Nat) (s : Shared) (o : Obj) (Q : List Value → Shared → Prop), IsLIt a i o → Rep G.base G.os ([(it, o)] ++ hid) stk σ s → i + n ≤ l.length →
    (∀ vs o' s', IsLIt a (i + n) o' → Rep G.base G.os ([(it, o')] ++ hid) stk σ s' → Keeps s.heap s'.heap → VReps s'.heap ((l.drop i).take n) vs → Q vs s') → wpAny G.M A (draw (.ref it) n) Q E s
  | 0, i, s, o, Q, ho, R, hle, hQ => wpAny_pure (hQ [] o s ho R (.refl _) (by simpa using VReps.nil))
  | n + 1, i, s, o, Q, ho, R, hle, hQ => by
    obtain ⟨vs, hL, hvs⟩ := R.seq hl
    have hlt : i < l.length := by omega
    obtain ⟨v, hv, hr⟩ := hvs.get i l[i] (List.getElem?_eq_getElem hlt)
    have hob := (R.hid (it, o) (by simp)).1
    show wpAny _ _ (pyNext (.ref it) >>= _) Q E s
    refine wpAny_bind (wpAny_pyNext_list_item ⟨_, hob, ho.1, ho.2⟩ hL.isList (by simpa using hv) fun h' hit' hs' => ?_)
    obtain ⟨o', ho', hc', hd'⟩ := hit'
    obtain ⟨R', kp⟩ := R.hidChange (hs := [(it, o)]) (hid := hid) (hs' := [(it, o')]) (tk := s.toks) (h' := h') rfl (fun q hq => by simp at hq; subst hq; exact ⟨ho', by rw [hc']; decide⟩) (fun b ob hb e => (hs'.2 b (by simpa using hb)).trans e) (fun q hq => by simp at hq; subst hq; show o.cls ≠ _; rw [ho.1]; decide)
    refine wpAny_bind (wpAny_holding (wp_drawL hl n (i + 1) _ o' _ ⟨hc', by simpa using hd'⟩ R' (by omega) fun vs' o'' s'' h1 h2 h3 h4 => wpAny_pure ?_))
    refine hQ (v :: vs') o'' s'' (by rw [show i + (n + 1) = i + 1 + n by omega]; exact h1) h2 (kp.trans h3) ?_
    rw [List.drop_eq_getElem_cons hlt, List.take_succ_cons]
    exact .cons (hr.mono (kp.trans h3)) h4

section
variable {c : Cx} {X : String → St → Prop} {st : St} {μ : Locals} {σ : AHeap}
/-- a list is taken apart -/
theorem Asg_TupleL {elts k pos a l} {Q : St → Prop} (hcalm : c.lv.calm = true) (ha : seqAt σ a = some l) (h : asgAll c X elts l Q (μ, σ)) (he : (assignEach elts c.env).map (·.2) = elts.map (fun e => assign e c.env)) (hl : elts.length = l.length)
    (hstar : (assignEach elts c.env).findIdx? (·.1) = none) : WAsg c (.Tuple elts k pos) (.ref a) X Q (μ, σ) := fun v hid stk s ok R hv => by
  have hh : c.A.handled = none := ok.handled hcalm
  simp only [VRep] at hv; subst hv
  obtain ⟨vs, hL, hvs⟩ := R.seq ha
  have e1 := hvs.length
  have hlen : (assignEach elts c.env).length = l.length := by
    have := congrArg List.length he
    simp only [List.length_map] at this
    rw [this]; exact hl
  show wpAny _ _ (assign (.Tuple elts k pos) c.env (.ref a)) _ _ s
  rw [arm_assign_Tuple]
  refine wpAny_bind (wpAny_standAt ?_)
  unfold unpack
  rw [hlen, hstar, he]
  refine wpAny_bind (wpAny_holding ?_)
  unfold unpackItems
  refine wpAny_bind ?_
  unfold notIterableAtAll
  refine wpAny_bind (wpAny_specialOf hL.isList.typeIs slot_list_iter.lookup ?_)
  refine wpAny_pure ?_
  simp only [Bool.false_eq_true, if_false]
  refine wpAny_bind (wpAny_holding (wpAny_pyIter_list hL.isList ?_))
  have R1 := R.hidNew (ob := { cls := .type "list_iterator", data := .fields #[.ref a, .int 0 0] }) (by show Value.type "list_iterator" ≠ Value.type "tuple"; decide) rfl
  refine wpAny_bind (wpAny_holding (wp_drawL (G := c.toGx) ha l.length 0 _ _ _ ⟨rfl, rfl⟩ R1 (by omega) fun vs' o' s' h1 h2 h3 h4 => ?_))
  have e4 := h4.length
  simp at e4
  rw [if_neg (by omega)]
  obtain ⟨ws, hL', hws⟩ := h2.seq ha
  have e5 := hws.length
  have hob := (h2.hid (s.heap.objs.size, o') (by simp)).1
  refine wpAny_bind (wpAny_holding (wpAny_pyNext_list_end hh ⟨_, hob, h1.1, h1.2⟩ hL'.isList (by simp; omega) fun h' he' => ?_))
  simp only [Option.isSome_none, Bool.false_eq_true, if_false]
  obtain ⟨R2, k2⟩ := h2.hidForget (hs := [(s.heap.objs.size, o')]) (hid := hid) (tk := s'.toks) (h' := h') (fun b o hb e => he' b o (by simpa using hb) e) (fun q hq => by simp at hq; subst hq; show o'.cls ≠ _; rw [h1.1]; decide)
  have k3 : Keeps s.heap h' := (Keeps.push _ _).trans (h3.trans k2)
  refine wpAny_pure ?_
  simp at h4
  exact wpAny_mono (asgAll_wp ok he hl R2 (h4.mono k2) h) (fun _ _ y => y.keeps k3) fun _ _ y => y
end
end Mine
end
section
set_option Elab.async false
set_option linter.unusedVariables false
namespace Mine

/-! heaps, plainly -/
section
variable {α β : Type}
def sdnB (lt : α → α → Bool) (d x : α) (pos : Nat) (l : List α) : List α :=
  if h : pos > 0 then
    if lt x (l.getD ((pos - 1) / 2) d) then sdnB lt d x ((pos - 1) / 2) (l.set pos (l.getD ((pos - 1) / 2) d)) else l.set pos x
  else l.set pos x
termination_by pos
decreasing_by omega

def supB (lt : α → α → Bool) (d : α) (pos : Nat) (l : List α) : Nat × List α :=
  if h : 2 * pos + 1 < l.length then
    if 2 * pos + 2 < l.length ∧ lt (l.getD (2 * pos + 1) d) (l.getD (2 * pos + 2) d) = false then supB lt d (2 * pos + 2) (l.set pos (l.getD (2 * pos + 2) d))
    else supB lt d (2 * pos + 1) (l.set pos (l.getD (2 * pos + 1) d))
  else (pos, l)
termination_by l.length - pos
decreasing_by all_goals simp only [List.length_set]; omega

/-- sifted up from the top, x being there -/
def topB (lt : α → α → Bool) (d x : α) (l : List α) : List α := let r := supB lt d 0 l; sdnB lt d x r.1 (r.2.set r.1 x)

structure LtTot (lt : α → α → Bool) : Prop where
  asym : ∀ a b, lt a b = true → lt b a = false
  ntrans : ∀ a b c, lt a b = false → lt b c = false → lt a c = false
theorem LtTot.left {lt : α → α → Bool} (h : LtTot lt) {a b c : α} (h1 : lt a b = true) (h2 : lt c b = false) : lt c a = false := by
  cases q : lt c a with
  | false => rfl
  | true =>
    -- c < a < b
    have := h.ntrans c b a h2 (h.asym _ _ h1)
    rw [q] at this; cases this
def IsHeap (lt : α → α → Bool) (d : α) (l : List α) : Prop := ∀ k, 0 < k → k < l.length → lt (l.getD k d) (l.getD ((k - 1) / 2) d) = false

theorem getD_set_same {l : List α} {i : Nat} {x d : α} (h : i < l.length) : (l.set i x).getD i d = x := by simp [List.getD_eq_getElem?_getD, h]
theorem getD_set_ne {l : List α} {i j : Nat} {x d : α} (h : i ≠ j) : (l.set i x).getD j d = l.getD j d := by simp [List.getD_eq_getElem?_getD, List.getElem?_set_ne h]

@[simp] theorem supB_length (lt : α → α → Bool) (d : α) (pos : Nat) (l : List α) : (supB lt d pos l).2.length = l.length := by
  fun_induction supB lt d pos l <;> simp_all
theorem supB_lt {lt : α → α → Bool} {d : α} {pos : Nat} {l : List α} (h : pos < l.length) : (supB lt d pos l).1 < l.length := by
  fun_induction supB lt d pos l with
  | case1 pos l h1 h2 ih => have := ih (by simp; omega); simpa using this
  | case2 pos l h1 h2 ih => have := ih (by simp; omega); simpa using this
  | case3 pos l h1 => exact h
theorem supB_leaf {lt : α → α → Bool} {d : α} {pos : Nat} {l : List α} : l.length ≤ 2 * (supB lt d pos l).1 + 1 := by
  fun_induction supB lt d pos l with
  | case1 pos l h1 h2 ih => simpa using ih
  | case2 pos l h1 h2 ih => simpa using ih
  | case3 pos l h1 => simp; omega

/-- but for the hole at pos -/
structure Hole (lt : α → α → Bool) (d : α) (pos : Nat) (l : List α) : Prop where
  else_ : ∀ k, 0 < k → k < l.length → k ≠ pos → (k - 1) / 2 ≠ pos → lt (l.getD k d) (l.getD ((k - 1) / 2) d) = false
  over : 0 < pos → ∀ k, 0 < k → k < l.length → (k - 1) / 2 = pos → lt (l.getD k d) (l.getD ((pos - 1) / 2) d) = false

theorem sdnB_heap {lt : α → α → Bool} (ht : LtTot lt) {d x : α} {pos : Nat} {l : List α} (hp : pos < l.length) (H : Hole lt d pos l) (hx : ∀ k, 0 < k → k < l.length → (k - 1) / 2 = pos → lt (l.getD k d) x = false) :
    IsHeap lt d (sdnB lt d x pos l) := by
  fun_induction sdnB lt d x pos l with
  | case1 pos l h1 h2 ih =>
    have hq : (pos - 1) / 2 < pos := by omega
    refine ih (by simp; omega) ⟨fun k k0 kl kq kp => ?_, fun q0 k k0 kl kp => ?_⟩ fun k k0 kl kp => ?_
    · simp only [List.length_set] at kl
      by_cases e : (k - 1) / 2 = pos
      · have hk : pos ≠ k := by omega
        rw [getD_set_ne hk, e, getD_set_same hp]
        exact H.over h1 k k0 kl e
      · by_cases e2 : k = pos
        · subst e2; exact absurd rfl kp
        · rw [getD_set_ne (Ne.symm e2), getD_set_ne (Ne.symm e)]
          exact H.else_ k k0 kl e2 e
    · simp only [List.length_set] at kl
      have hg : ((pos - 1) / 2 - 1) / 2 ≠ pos := by omega
      rw [getD_set_ne (Ne.symm hg)]
      have up := H.else_ ((pos - 1) / 2) q0 (by omega) (by omega) hg
      by_cases e2 : k = pos
      · subst e2; rw [getD_set_same hp]; exact up
      · rw [getD_set_ne (Ne.symm e2)]
        refine ht.ntrans _ _ _ ?_ up
        have := H.else_ k k0 kl e2 (by omega)
        rwa [kp] at this
    · simp only [List.length_set] at kl
      by_cases e2 : k = pos
      · subst e2; rw [getD_set_same hp]; exact ht.asym _ _ h2
      · rw [getD_set_ne (Ne.symm e2)]
        have := H.else_ k k0 kl e2 (by omega)
        rw [kp] at this
        exact ht.left h2 this
  | case2 pos l h1 h2 =>
    intro k k0 kl
    simp only [List.length_set] at kl
    by_cases e : k = pos
    · subst e
      have : (k - 1) / 2 ≠ k := by omega
      rw [getD_set_same hp, getD_set_ne (Ne.symm this)]
      simpa using h2
    · rw [getD_set_ne (Ne.symm e)]
      by_cases e2 : (k - 1) / 2 = pos
      · rw [e2, getD_set_same hp]; exact hx k k0 kl e2
      · rw [getD_set_ne (Ne.symm e2)]; exact H.else_ k k0 kl e e2
  | case3 pos l h1 =>
    intro k k0 kl
    simp only [List.length_set] at kl
    have e : k ≠ pos := by omega
    rw [getD_set_ne (Ne.symm e)]
    by_cases e2 : (k - 1) / 2 = pos
    · rw [e2, getD_set_same hp]; exact hx k k0 kl e2
    · rw [getD_set_ne (Ne.symm e2)]; exact H.else_ k k0 kl e e2

theorem supB_hole {lt : α → α → Bool} (ht : LtTot lt) {d : α} {pos : Nat} {l : List α} (hp : pos < l.length) (H : Hole lt d pos l) : Hole lt d (supB lt d pos l).1 (supB lt d pos l).2 := by
  have step : ∀ (pos : Nat) (l : List α) (c : Nat), pos < l.length → Hole lt d pos l → (c = 2 * pos + 1 ∨ c = 2 * pos + 2) → c < l.length → (∀ k, 0 < k → k < l.length → (k - 1) / 2 = pos → k ≠ c → lt (l.getD k d) (l.getD c d) = false) → Hole lt d c (l.set pos (l.getD c d)) := by
    intro pos l c hp H hc hcl hmin
    refine ⟨fun k k0 kl kc kp => ?_, fun c0 k k0 kl kp => ?_⟩
    · simp only [List.length_set] at kl
      by_cases e : k = pos
      · subst e
        have : (k - 1) / 2 ≠ k := by omega
        rw [getD_set_same hp, getD_set_ne (Ne.symm this)]
        exact H.over k0 c (by omega) hcl (by omega)
      · rw [getD_set_ne (Ne.symm e)]
        by_cases e2 : (k - 1) / 2 = pos
        · rw [e2, getD_set_same hp]; exact hmin k k0 kl e2 kc
        · rw [getD_set_ne (Ne.symm e2)]; exact H.else_ k k0 kl e e2
    · simp only [List.length_set] at kl
      have hcp : (c - 1) / 2 = pos := by omega
      have e : k ≠ pos := by omega
      rw [hcp, getD_set_same hp, getD_set_ne (Ne.symm e)]
      have := H.else_ k k0 kl e (by omega)
      rwa [kp] at this
  fun_induction supB lt d pos l with
  | case1 pos l h1 h2 ih =>
    refine ih (by simp; omega) (step pos l _ hp H (.inr rfl) h2.1 fun k k0 kl kp kc => ?_)
    have : k = 2 * pos + 1 := by omega
    subst this; exact h2.2
  | case2 pos l h1 h2 ih =>
    refine ih (by simp; omega) (step pos l _ hp H (.inl rfl) h1 fun k k0 kl kp kc => ?_)
    have : k = 2 * pos + 2 := by omega
    subst this
    have : lt (l.getD (2 * pos + 1) d) (l.getD (2 * pos + 2) d) = true := by
      cases q : lt (l.getD (2 * pos + 1) d) (l.getD (2 * pos + 2) d) with
      | true => rfl
      | false => exact absurd ⟨kl, q⟩ h2
    exact ht.asym _ _ this
  | case3 pos l h1 => exact H

theorem IsHeap.hole0 {lt : α → α → Bool} {d : α} {l : List α} (h : IsHeap lt d l) : Hole lt d 0 l := ⟨fun k k0 kl _ _ => h k k0 kl, fun h => absurd h (Nat.lt_irrefl 0)⟩
theorem Hole.set {lt : α → α → Bool} {d x : α} {pos : Nat} {l : List α} (H : Hole lt d pos l) : Hole lt d pos (l.set pos x) := by
  refine ⟨fun k k0 kl kp kq => ?_, fun h k k0 kl kp => ?_⟩
  · simp only [List.length_set] at kl
    rw [getD_set_ne (Ne.symm kp), getD_set_ne (Ne.symm kq)]; exact H.else_ k k0 kl kp kq
  · simp only [List.length_set] at kl
    have e1 : pos ≠ k := by omega
    have e2 : pos ≠ (pos - 1) / 2 := by omega
    rw [getD_set_ne e1, getD_set_ne e2]; exact H.over h k k0 kl kp
theorem topB_heap {lt : α → α → Bool} (ht : LtTot lt) {d x : α} {l : List α} (hl : 0 < l.length) (H : Hole lt d 0 l) : IsHeap lt d (topB lt d x l) := by
  have h1 := supB_lt (lt := lt) (d := d) hl
  have h2 := supB_leaf (lt := lt) (d := d) (pos := 0) (l := l)
  refine sdnB_heap ht (by simpa using h1) (Hole.set (supB_hole ht hl H)) fun k k0 kl kp => ?_
  simp at kl; omega
/-- one more at the end -/
theorem push_heap {lt : α → α → Bool} (ht : LtTot lt) {d x : α} {l : List α} (h : IsHeap lt d l) : IsHeap lt d (sdnB lt d x l.length (l ++ [x])) := by
  refine sdnB_heap ht (by simp) ⟨fun k k0 kl kp kq => ?_, fun _ k k0 kl kp => ?_⟩ fun k k0 kl kp => ?_
  · simp at kl
    have hk : k < l.length := by omega
    have := h k k0 hk
    simpa [List.getD_eq_getElem?_getD, List.getElem?_append_left, hk, show (k - 1) / 2 < l.length by omega] using this
  · simp at kl; omega
  · simp at kl; omega
theorem IsHeap.min {lt : α → α → Bool} (ht : LtTot lt) {d : α} {l : List α} (h : IsHeap lt d l) (hirr : ∀ a, lt a a = false) : ∀ k, k < l.length → lt (l.getD k d) (l.getD 0 d) = false := by
  intro k
  induction k using Nat.strongRecOn with
  | _ k ih =>
    intro hk
    by_cases e : k = 0
    · subst e; exact hirr _
    · exact ht.ntrans _ _ _ (h k (by omega) hk) (ih ((k - 1) / 2) (by omega) (by omega))

variable [DecidableEq α]
theorem swap_perm {l : List α} {i j : Nat} {x d : α} (hi : i < l.length) (hj : j < l.length) (hij : i ≠ j) : ((l.set i (l.getD j d)).set j x).Perm (l.set i x) := by
  refine List.perm_iff_count.mpr fun a => ?_
  have e : l.getD j d = l[j] := by simp [List.getD_eq_getElem?_getD, hj]
  rw [e, List.count_set (by simpa using hj), List.count_set hi, List.count_set hi]
  have e2 : (l.set i l[j])[j]'(by simpa using hj) = l[j] := by simp [List.getElem_set_ne hij]
  rw [e2]
  have c1 : (if l[i] == a then 1 else 0) ≤ l.count a := by
    split
    · rename_i h; have : l[i] = a := by simpa using h
      exact List.count_pos_iff.mpr (this ▸ List.getElem_mem hi)
    · exact Nat.zero_le _
  split <;> split <;> split <;> simp_all <;> omega
theorem sdnB_perm {lt : α → α → Bool} {d x : α} {pos : Nat} {l : List α} (hp : pos < l.length) : (sdnB lt d x pos l).Perm (l.set pos x) := by
  fun_induction sdnB lt d x pos l with
  | case1 pos l h1 h2 ih => exact (ih (by simp; omega)).trans (swap_perm hp (by omega) (by omega))
  | case2 pos l h1 h2 => exact .refl _
  | case3 pos l h1 => exact .refl _
theorem supB_perm {lt : α → α → Bool} {d x : α} {pos : Nat} {l : List α} (hp : pos < l.length) : ((supB lt d pos l).2.set (supB lt d pos l).1 x).Perm (l.set pos x) := by
  fun_induction supB lt d pos l with
  | case1 pos l h1 h2 ih => exact (ih (by simp; omega)).trans (swap_perm hp (by omega) (by omega))
  | case2 pos l h1 h2 ih => exact (ih (by simp; omega)).trans (swap_perm hp (by omega) (by omega))
  | case3 pos l h1 => exact .refl _
theorem topB_perm {lt : α → α → Bool} {d x : α} {l : List α} (hl : 0 < l.length) : (topB lt d x l).Perm (l.set 0 x) := by
  have h1 := supB_lt (lt := lt) (d := d) hl
  refine (sdnB_perm (by simpa using h1)).trans ?_
  rw [List.set_set]
  exact supB_perm hl
theorem push_perm {lt : α → α → Bool} {d x : α} {l : List α} : (sdnB lt d x l.length (l ++ [x])).Perm (l ++ [x]) := by
  have := sdnB_perm (lt := lt) (d := d) (x := x) (pos := l.length) (l := l ++ [x]) (by simp)
  simpa using this
end

/-! the same over other names -/
section
variable {α β : Type} {f : α → β} {lt : α → α → Bool} {lt' : β → β → Bool} {d : α}
theorem getD_map' (l : List α) (i : Nat) : (l.map f).getD i (f d) = f (l.getD i d) := by
  simp only [List.getD_eq_getElem?_getD, List.getElem?_map]
  cases l[i]? <;> rfl
theorem sdnB_map (h : ∀ a b, lt' (f a) (f b) = lt a b) (x : α) (pos : Nat) (l : List α) : sdnB lt' (f d) (f x) pos (l.map f) = (sdnB lt d x pos l).map f := by
  fun_induction sdnB lt d x pos l with
  | case1 pos l h1 h2 ih => rw [sdnB, dif_pos h1, getD_map', h, if_pos h2, ← List.map_set, ih]
  | case2 pos l h1 h2 => rw [sdnB, dif_pos h1, getD_map', h, if_neg h2, ← List.map_set]
  | case3 pos l h1 => rw [sdnB, dif_neg h1, ← List.map_set]
theorem supB_map (h : ∀ a b, lt' (f a) (f b) = lt a b) (pos : Nat) (l : List α) : supB lt' (f d) pos (l.map f) = ((supB lt d pos l).1, (supB lt d pos l).2.map f) := by
  fun_induction supB lt d pos l with
  | case1 pos l h1 h2 ih =>
    rw [supB, dif_pos (by simpa using h1), getD_map', getD_map', h, if_pos (by simpa using h2), ← List.map_set, ih]
  | case2 pos l h1 h2 ih =>
    rw [supB, dif_pos (by simpa using h1), getD_map', getD_map', h, if_neg (by simpa using h2), ← List.map_set, ih]
  | case3 pos l h1 => rw [supB, dif_neg (by simpa using h1)]
theorem topB_map (h : ∀ a b, lt' (f a) (f b) = lt a b) (x : α) (l : List α) : topB lt' (f d) (f x) (l.map f) = (topB lt d x l).map f := by
  unfold topB
  simp only [supB_map h, ← List.map_set, sdnB_map h]
end
end Mine
end
section
open PySem PySem.W
set_option Elab.async false
set_option linter.unusedVariables false
namespace Mine

/-- x is sifted down, where it may not be comparable -/
def sdnP (ltx : PV → Option Bool) (d x : PV) (pos : Nat) (l : List PV) : Except (List PV) (List PV) :=
  if h : pos > 0 then
    match ltx (l.getD ((pos - 1) / 2) d) with
    | none => .error l
    | some true => sdnP ltx d x ((pos - 1) / 2) (l.set pos (l.getD ((pos - 1) / 2) d))
    | some false => .ok (l.set pos x)
  else .ok (l.set pos x)
termination_by pos
decreasing_by omega
theorem sdnP_ok {ltx : PV → Option Bool} {lt : PV → PV → Bool} {d x : PV} (D : PV → Prop) (h : ∀ q, D q → ltx q = some (lt x q)) : ∀ (pos : Nat) (l : List PV), pos < l.length → (∀ j q, j ≠ pos → l[j]? = some q → D q) → sdnP ltx d x pos l = .ok (sdnB lt d x pos l) := by
  intro pos
  induction pos using Nat.strongRecOn with
  | _ pos ih =>
    intro l hl hD
    rw [sdnP, sdnB]
    by_cases hp : pos > 0
    · rw [dif_pos hp, dif_pos hp]
      have hq : (pos - 1) / 2 < l.length := by omega
      have hdq : D (l.getD ((pos - 1) / 2) d) := hD ((pos - 1) / 2) _ (by omega) (by rw [List.getD_eq_getElem?_getD, List.getElem?_eq_getElem hq]; rfl)
      rw [h _ hdq]
      cases hc : lt x (l.getD ((pos - 1) / 2) d) with
      | true =>
        rw [if_pos rfl]
        refine ih _ (by omega) _ (by simpa using hq) fun j q hj e => ?_
        by_cases hjp : j = pos
        · subst hjp; rw [List.getElem?_set_self hl] at e; cases e; exact hdq
        · rw [List.getElem?_set_ne (Ne.symm hjp)] at e; exact hD j q hjp e
      | false => rw [if_neg (by decide)]
    · rw [dif_neg hp, dif_neg hp]
/-- p < q is known wherever the state is as S says -/
def LtAt (G : Gx) (S : AHeap → Prop) (r : Option Bool) (p q : PV) : Prop :=
  ∀ (c : Cx) μ σ (X : String → St → Prop) (Q : PV → St → Prop), c.toGx = G → c.lv.calm = true → S σ → (match r with | some b => Q (.bool b) (μ, σ) | none => X "TypeError" (μ, σ)) → W2 c VRep p q (compareOp .Lt) X Q (μ, σ)
def Over (σ : AHeap) (a : Addr) : AHeap → Prop := fun σ' => ∃ l, σ' = σ.set a (.list l)
theorem LtAt.mono {G S S' r p q} (h : LtAt G S r p q) (hS : ∀ σ, S' σ → S σ) : LtAt G S' r p q := fun c μ σ X Q a b hs k => h c μ σ X Q a b (hS σ hs) k
theorem Over.set {σ : AHeap} {a : Addr} {l : List PV} : ∀ σ', Over (σ.set a (.list l)) a σ' → Over σ a σ' := fun σ' ⟨l', e⟩ => ⟨l', by rw [e, AHeap.set_set]⟩

section
variable {c : Cx} {X : String → St → Prop} {st : St}
/-- a def of the text, by its name -/
theorem E_CallG {x : Str} {pos' e rest pos} {Q : PV → St → Prop} {a : Addr} {o : Obj} {fd : FuncData} (hG : Gd c.toGx) (hl : c.env.scope.names.lookup x = some .globalImplicit) (hv : c.mg x = some (.ref a)) (ho : c.base.get? a = some o) (hf : o.data = .func fd)
    (h : WA c pos (e :: rest) X (fun ps st₂ => WN c VRep ps (fun vs => call (.ref a) vs) X Q st₂) st) (hd : (x == ("__debug__" : Str)) = false)
    (hev : eval (.Call (.Name x pos') (e :: rest) [] pos) c.env = (do callWith pos (← eval (.Name x pos') c.env) [] (backTo pos (starEach (e :: rest) c.env)) (backToKw pos (keywordEach [] c.env))))
    (he : starEach (e :: rest) c.env = (false, eval e c.env) :: starEach rest c.env)
    (hplain : (backTo pos (starEach rest c.env)).any (·.1) = false) : WE c (.Call (.Name x pos') (e :: rest) [] pos) X Q st :=
  E_Call (E_global hG hl hv rfl ⟨⟨o, fd, ho, hf⟩, h⟩ hd) hev he hplain
/-- a builtin function or type, by its name -/
theorem E_CallB {x : Str} {pos' e rest pos} {Q : PV → St → Prop} {id : String} (hG : Gd c.toGx) (hl : c.env.scope.names.lookup x = some .globalImplicit) (hm : c.mg x = none) (hn : x ≠ "__name__") (hv : bootBuiltins x = some (.builtin id))
    (h : WA c pos (e :: rest) X (fun ps st₂ => WN c VRep ps (fun vs => call (.builtin id) vs) X Q st₂) st) (hd : (x == ("__debug__" : Str)) = false)
    (hev : eval (.Call (.Name x pos') (e :: rest) [] pos) c.env = (do callWith pos (← eval (.Name x pos') c.env) [] (backTo pos (starEach (e :: rest) c.env)) (backToKw pos (keywordEach [] c.env))))
    (he : starEach (e :: rest) c.env = (false, eval e c.env) :: starEach rest c.env)
    (hplain : (backTo pos (starEach rest c.env)).any (·.1) = false) : WE c (.Call (.Name x pos') (e :: rest) [] pos) X Q st :=
  E_Call (E_builtin hG hl hm hn hv rfl ⟨trivial, h⟩ hd) hev he hplain
theorem E_CallT {x : Str} {pos' e rest pos} {Q : PV → St → Prop} {id : String} (hG : Gd c.toGx) (hl : c.env.scope.names.lookup x = some .globalImplicit) (hm : c.mg x = none) (hn : x ≠ "__name__") (hv : bootBuiltins x = some (.type id))
    (h : WA c pos (e :: rest) X (fun ps st₂ => WN c VRep ps (fun vs => call (.type id) vs) X Q st₂) st) (hd : (x == ("__debug__" : Str)) = false)
    (hev : eval (.Call (.Name x pos') (e :: rest) [] pos) c.env = (do callWith pos (← eval (.Name x pos') c.env) [] (backTo pos (starEach (e :: rest) c.env)) (backToKw pos (keywordEach [] c.env))))
    (he : starEach (e :: rest) c.env = (false, eval e c.env) :: starEach rest c.env)
    (hplain : (backTo pos (starEach rest c.env)).any (·.1) = false) : WE c (.Call (.Name x pos') (e :: rest) [] pos) X Q st :=
  E_Call (E_builtin hG hl hm hn hv rfl ⟨trivial, h⟩ hd) hev he hplain
end
theorem swapped_of {targets : List Expr} {value : Expr} {env : Env} {S : Scope} {r : Sem (Option (List Str))} (h : env.scope = S) (hr : swappedStores targets value { (default : Env) with scope := S } = r) : swappedStores targets value env = r := by
  rw [← hr]
  unfold swappedStores Env.kindOf Env.blockKind
  rw [h]
theorem closure_of {scope : Scope} {env : Env} {cs : List (Str × Addr)} {r : Sem (List (Str × Addr))} (h : env.cells = cs) (hr : closureFor scope { (default : Env) with cells := cs } = r) : closureFor scope env = r := by
  rw [← hr]
  unfold closureFor cellOf
  rw [h]
theorem relabel_of {scope S : Scope} {env : Env} (h : env.scope = S) : relabel scope env = relabel scope { (default : Env) with scope := S } := by
  unfold relabel Env.kindOf
  rw [h]
theorem at_set_fresh {σ : AHeap} {a b : Addr} {o o' : AObj} (h : σ a = none) (h2 : σ b = some o) : (σ.set a o') b = some o := AHeap.sub_set o' h _ _ h2
theorem ne_of_fresh {σ : AHeap} {a b : Addr} {o : AObj} (h : σ a = none) (h2 : σ b = some o) : b ≠ a := fun e => by rw [e, h] at h2; cases h2
theorem AHeap.Sub.trans {σ τ υ : AHeap} (h : σ.Sub τ) (h2 : τ.Sub υ) : σ.Sub υ := fun a o e => h2 a o (h a o e)
theorem AHeap.Sub.fresh {σ τ : AHeap} {a : Addr} {o : AObj} (h : σ.Sub τ) (h2 : τ a = none) : σ.Sub (τ.set a o) := h.trans (AHeap.sub_set o h2)
/-- a list that is not told of may change -/
theorem AHeap.Sub.off {σ τ : AHeap} {a : Addr} {o : AObj} (h : σ.Sub τ) (h2 : σ a = none) : σ.Sub (τ.set a o) := fun b o' e => by
  have : b ≠ a := fun q => by rw [q, h2] at e; cases e
  rw [AHeap.set_ne _ _ this]; exact h b o' e
theorem swaps_of {value : Expr} {target : Option Expr} {n : Nat} {env : Env} {S : Scope} {r : Sem Bool} (h : env.scope = S) (hr : swapsWith value target n { (default : Env) with scope := S } = r) : swapsWith value target n env = r := by
  rw [← hr]
  unfold swapsWith Env.kindOf Env.blockKind
  rw [h]
theorem mulOk2 {i : Int} : IntMulOk 2 i := IntMulOk.of_left (by decide)
end Mine
end
section
open PySem PySem.W
set_option Elab.async false
set_option linter.unusedVariables false
namespace Mine
section
variable {c : Cx} {X : String → St → Prop} {st : St} {Q : PV → St → Prop}
theorem is_none_n (h : Q (.bool true) st) : W2 c VRep .none .none (compareOp .Is) X Q st := is_none (fun _ e => nomatch e) h
end
end Mine
end
section
set_option Elab.async false
set_option linter.unusedVariables false
namespace Mine

theorem nodup_len {α : Type} [DecidableEq α] : ∀ {l m : List α}, l.Nodup → (∀ x ∈ l, x ∈ m) → l.length ≤ m.length
  | [], m, _, _ => Nat.zero_le _
  | x :: l, m, hn, hs => by
    obtain ⟨h1, h2⟩ := List.nodup_cons.mp hn
    have hx : x ∈ m := hs x (List.mem_cons_self ..)
    have := nodup_len (l := l) (m := m.erase x) h2 fun y hy => by
      have hne : y ≠ x := fun e => h1 (by rw [← e]; exact hy)
      exact (List.mem_erase_of_ne hne).mpr (hs y (List.mem_cons_of_mem _ hy))
    rw [List.length_erase_of_mem hx] at this
    have : 0 < m.length := List.length_pos_of_mem hx
    simp; omega

structure Wy where
  (a b c h : Nat)
abbrev Lab := Nat × Nat
def WyOk (ys : List Wy) : Prop := ∀ y ∈ ys, y.a < 5 ∧ y.b < 5

/-- the ways from place 0: where they end, with their cost and hours -/
inductive Walk (ys : List Wy) : Nat → Lab → Prop
  | start : Walk ys 0 (0, 0)
  | step {p l} (w : Walk ys p l) (y : Wy) (hy : y ∈ ys) (ha : y.a = p) : Walk ys y.b (l.1 + y.c, l.2 + y.h)
theorem Walk.lt {ys : List Wy} (ok : WyOk ys) {p l} (w : Walk ys p l) : p < 5 := by
  cases w with
  | start => omega
  | step w y hy ha => exact (ok y hy).2

def Dom (x y : Lab) : Prop := x.1 ≤ y.1 ∧ x.2 ≤ y.2
theorem Dom.refl (x : Lab) : Dom x x := ⟨Nat.le_refl _, Nat.le_refl _⟩
theorem Dom.trans {x y z : Lab} (h : Dom x y) (k : Dom y z) : Dom x z := ⟨Nat.le_trans h.1 k.1, Nat.le_trans h.2 k.2⟩
def LexLe (x y : Lab) : Prop := x.1 < y.1 ∨ (x.1 = y.1 ∧ x.2 ≤ y.2)
def Stair (l : List Lab) : Prop := l.Pairwise fun x y => x.1 < y.1 ∧ y.2 < x.2
theorem Stair.nodup {l : List Lab} (h : Stair l) : l.Nodup := h.imp fun {x y} k e => by subst e; exact Nat.lt_irrefl _ k.1
theorem Stair.anti {l : List Lab} (h : Stair l) {x y : Lab} (hx : x ∈ l) (hy : y ∈ l) (d : Dom x y) : x = y := by
  obtain ⟨i, hi, rfl⟩ := List.getElem_of_mem hx
  obtain ⟨j, hj, rfl⟩ := List.getElem_of_mem hy
  have hp := List.pairwise_iff_getElem.mp h
  rcases Nat.lt_trichotomy i j with q | q | q
  · have := hp i j hi hj q; have := d.2; omega
  · subst q; rfl
  · have := hp j i hj hi q; have := d.1; omega
/-- two rows of that kind, each as good as the other, are one -/
theorem stair_unique : ∀ {l m : List Lab}, Stair l → Stair m → (∀ x ∈ l, ∃ y ∈ m, Dom y x) → (∀ y ∈ m, ∃ x ∈ l, Dom x y) → l = m := by
  have sub : ∀ {l m : List Lab}, Stair l → Stair m → (∀ x ∈ l, ∃ y ∈ m, Dom y x) → (∀ y ∈ m, ∃ x ∈ l, Dom x y) → ∀ x ∈ l, x ∈ m := by
    intro l m hl hm h1 h2 x hx
    obtain ⟨y, hy, d⟩ := h1 x hx
    obtain ⟨z, hz, d'⟩ := h2 y hy
    have e := hl.anti hz hx (d'.trans d)
    subst e
    have : y = z := Prod.ext (Nat.le_antisymm d.1 d'.1) (Nat.le_antisymm d.2 d'.2)
    rw [← this]; exact hy
  have key : ∀ {l m : List Lab}, Stair l → Stair m → (∀ x ∈ l, x ∈ m) → (∀ x ∈ m, x ∈ l) → l = m := by
    intro l
    induction l with
    | nil => intro m _ _ _ h2; cases m with | nil => rfl | cons y m => exact absurd (h2 y (List.mem_cons_self ..)) (by simp)
    | cons x l ih =>
      intro m hl hm h1 h2
      cases m with
      | nil => exact absurd (h1 x (List.mem_cons_self ..)) (by simp)
      | cons y m =>
        obtain ⟨a1, a2⟩ := List.pairwise_cons.mp hl
        obtain ⟨b1, b2⟩ := List.pairwise_cons.mp hm
        have e : x = y := by
          rcases List.mem_cons.mp (h1 x (List.mem_cons_self ..)) with q | q
          · exact q
          · rcases List.mem_cons.mp (h2 y (List.mem_cons_self ..)) with q' | q'
            · exact q'.symm
            · have := b1 x q; have := a1 y q'; omega
        subst e
        rw [ih a2 b2 (fun z hz => ?_) (fun z hz => ?_)]
        · rcases List.mem_cons.mp (h1 z (List.mem_cons_of_mem _ hz)) with q | q
          · have := a1 z hz; rw [q] at this; omega
          · exact q
        · rcases List.mem_cons.mp (h2 z (List.mem_cons_of_mem _ hz)) with q | q
          · have := b1 z hz; rw [q] at this; omega
          · exact q
  intro l m hl hm h1 h2
  exact key hl hm (sub hl hm h1 h2) (sub hm hl h2 h1)

/-! ways that come by no place twice -/
structure Row where
  pre : List Nat
  lst : Nat
  c : Nat
  h : Nat
def Row.seen (r : Row) : List Nat := r.pre ++ [r.lst]
def Row.ext (r : Row) (y : Wy) : Row := ⟨r.seen, y.b, r.c + y.c, r.h + y.h⟩
def fits (r : Row) (y : Wy) : Bool := y.a == r.lst && !(r.seen.contains y.b)
def nextRows (ys : List Wy) (rows : List Row) : List Row := rows.flatMap fun r => (ys.filter (fits r)).map r.ext
def rowsN (ys : List Wy) : Nat → List Row
  | 0 => [⟨[], 0, 0, 0⟩]
  | n + 1 => nextRows ys (rowsN ys n)
def toldN (ys : List Wy) : Nat → List Row
  | 0 => rowsN ys 0
  | n + 1 => toldN ys n ++ rowsN ys (n + 1)
theorem mem_next {ys : List Wy} {rows : List Row} {r : Row} : r ∈ nextRows ys rows ↔ ∃ r₀ ∈ rows, ∃ y ∈ ys, y.a = r₀.lst ∧ y.b ∉ r₀.seen ∧ r = r₀.ext y := by
  unfold nextRows fits
  simp only [List.mem_flatMap, List.mem_map, List.mem_filter, Bool.and_eq_true, beq_iff_eq, Bool.not_eq_true', List.contains_eq_mem, decide_eq_false_iff_not]
  constructor
  · rintro ⟨r₀, h1, y, ⟨h2, h3, h4⟩, rfl⟩; exact ⟨r₀, h1, y, h2, h3, h4, rfl⟩
  · rintro ⟨r₀, h1, y, h2, h3, h4, rfl⟩; exact ⟨r₀, h1, y, ⟨h2, h3, h4⟩, rfl⟩
theorem mem_told {ys : List Wy} {r : Row} : ∀ {n}, r ∈ toldN ys n ↔ ∃ m, m ≤ n ∧ r ∈ rowsN ys m
  | 0 => ⟨fun h => ⟨0, Nat.le_refl _, h⟩, fun ⟨m, h1, h2⟩ => by
    have : m = 0 := Nat.le_zero.mp h1
    subst this
    exact h2⟩
  | n + 1 => by
    rw [toldN, List.mem_append, mem_told]
    constructor
    · rintro (⟨m, h1, h2⟩ | h)
      · exact ⟨m, by omega, h2⟩
      · exact ⟨_, Nat.le_refl _, h⟩
    · rintro ⟨m, h1, h2⟩
      rcases Nat.lt_or_ge m (n + 1) with q | q
      · exact .inl ⟨m, by omega, h2⟩
      · have : m = n + 1 := by omega
        subst this; exact .inr h2
theorem row_walk {ys : List Wy} : ∀ {n r}, r ∈ rowsN ys n → Walk ys r.lst (r.c, r.h)
  | 0, r, h => by simp only [rowsN, List.mem_singleton] at h; subst h; exact .start
  | n + 1, r, h => by
    obtain ⟨r₀, h1, y, h2, h3, h4, rfl⟩ := mem_next.mp h
    exact .step (row_walk h1) y h2 h3
theorem row_seen {ys : List Wy} (ok : WyOk ys) : ∀ {n r}, r ∈ rowsN ys n → r.seen.length = n + 1 ∧ r.seen.Nodup ∧ ∀ x ∈ r.seen, x < 5
  | 0, r, h => by simp only [rowsN, List.mem_singleton] at h; subst h; simp [Row.seen]
  | n + 1, r, h => by
    obtain ⟨r₀, h1, y, h2, h3, h4, rfl⟩ := mem_next.mp h
    obtain ⟨a1, a2, a3⟩ := row_seen ok h1
    refine ⟨(by have : (r₀.seen ++ [y.b]).length = n + 1 + 1 := by rw [List.length_append, a1]; rfl
                exact this), ?_, fun x hx => ?_⟩
    · show (r₀.seen ++ [y.b]).Nodup
      rw [List.nodup_append]
      refine ⟨a2, by simp, fun a ha b hb e => ?_⟩
      simp at hb; subst hb; exact h4 (e ▸ ha)
    · have hx' : x ∈ r₀.seen ++ [y.b] := hx
      rcases List.mem_append.mp hx' with q | q
      · exact a3 x q
      · simp at q; subst q; exact (ok y h2).2
theorem row_short {ys : List Wy} (ok : WyOk ys) {n r} (h : r ∈ rowsN ys n) : n ≤ 4 := by
  obtain ⟨a1, a2, a3⟩ := row_seen ok h
  have := nodup_len (m := List.range 5) a2 fun x hx => List.mem_range.mpr (a3 x hx)
  simp at this; omega
theorem row_prefix {ys : List Wy} : ∀ {n r}, r ∈ rowsN ys n → ∀ b ∈ r.seen, ∃ m r', m ≤ n ∧ r' ∈ rowsN ys m ∧ r'.lst = b ∧ r'.c ≤ r.c ∧ r'.h ≤ r.h
  | 0, r, h, b, hb => by
    simp only [rowsN, List.mem_singleton] at h; subst h
    simp [Row.seen] at hb; subst hb
    exact ⟨0, _, Nat.le_refl _, List.mem_singleton.mpr rfl, rfl, Nat.le_refl _, Nat.le_refl _⟩
  | n + 1, r, h, b, hb => by
    obtain ⟨r₀, h1, y, h2, h3, h4, rfl⟩ := mem_next.mp h
    have hb' : b ∈ r₀.seen ++ [y.b] := hb
    rcases List.mem_append.mp hb' with q | q
    · obtain ⟨m, r', e1, e2, e3, e4, e5⟩ := row_prefix h1 b q
      exact ⟨m, r', by omega, e2, e3, by simp only [Row.ext]; omega, by simp only [Row.ext]; omega⟩
    · simp at q; subst q
      exact ⟨n + 1, _, Nat.le_refl _, h, rfl, Nat.le_refl _, Nat.le_refl _⟩
/-- every way has a way without twice a place that is as cheap and as quick -/
theorem walk_simple {ys : List Wy} (ok : WyOk ys) {p l} (w : Walk ys p l) : ∃ r ∈ toldN ys 4, r.lst = p ∧ Dom (r.c, r.h) l := by
  induction w with
  | start => exact ⟨⟨[], 0, 0, 0⟩, mem_told.mpr ⟨0, by omega, List.mem_singleton.mpr rfl⟩, rfl, .refl _⟩
  | @step p l w y hy ha ih =>
    obtain ⟨r, hr, e, d⟩ := ih
    obtain ⟨m, hm, hr'⟩ := mem_told.mp hr
    by_cases hb : y.b ∈ r.seen
    · obtain ⟨m', r', e1, e2, e3, e4, e5⟩ := row_prefix hr' _ hb
      refine ⟨r', mem_told.mpr ⟨m', by omega, e2⟩, e3, ?_⟩
      have d1 := d.1; have d2 := d.2
      exact ⟨by simp only at d1 ⊢; omega, by simp only at d2 ⊢; omega⟩
    · have hn : r.ext y ∈ rowsN ys (m + 1) := mem_next.mpr ⟨r, hr', y, hy, by rw [ha, e], hb, rfl⟩
      refine ⟨r.ext y, mem_told.mpr ⟨m + 1, row_short ok hn, hn⟩, rfl, ?_⟩
      have d1 := d.1; have d2 := d.2
      exact ⟨by simp only [Row.ext] at d1 ⊢; omega, by simp only [Row.ext] at d2 ⊢; omega⟩
theorem told_walk {ys : List Wy} {n r} (h : r ∈ toldN ys n) : Walk ys r.lst (r.c, r.h) := by
  obtain ⟨m, _, h⟩ := mem_told.mp h; exact row_walk h
theorem flatMap_len {α β : Type} (f : α → List β) (k : Nat) : ∀ (l : List α), (∀ x ∈ l, (f x).length ≤ k) → (l.flatMap f).length ≤ k * l.length
  | [], _ => by simp
  | x :: l, h => by
    rw [List.flatMap_cons, List.length_append]
    have := flatMap_len f k l fun y hy => h y (List.mem_cons_of_mem _ hy)
    have := h x (List.mem_cons_self ..)
    rw [List.length_cons, Nat.mul_succ]; omega
theorem next_len {ys : List Wy} (h : ys.length ≤ 18) (rows : List Row) : (nextRows ys rows).length ≤ 18 * rows.length :=
  flatMap_len _ 18 rows fun r _ => by rw [List.length_map]; exact Nat.le_trans (List.length_filter_le _ _) h
theorem rows_len {ys : List Wy} (h : ys.length ≤ 18) : ∀ n, (rowsN ys n).length ≤ 18 ^ n
  | 0 => by simp [rowsN]
  | n + 1 => by
    have := next_len h (rowsN ys n)
    have := rows_len h n
    rw [rowsN, Nat.pow_succ]; omega
theorem told_len {ys : List Wy} (h : ys.length ≤ 18) : (toldN ys 4).length ≤ 111151 := by
  have h0 := rows_len h 0
  have h1 := rows_len h 1
  have h2 := rows_len h 2
  have h3 := rows_len h 3
  have h4 := rows_len h 4
  simp only [toldN, List.length_append]
  simp only [Nat.zero_add, Nat.reduceAdd, Nat.reducePow] at *
  omega

/-! one more pair comes to a row -/
theorem takeWhile_sat {α : Type} {f : α → Bool} {x : α} : ∀ {l : List α}, x ∈ l.takeWhile f → f x = true
  | [], h => by simp at h
  | y :: l, h => by
    rw [List.takeWhile_cons] at h
    split at h
    · rename_i q
      rcases List.mem_cons.mp h with e | e
      · rw [e]; exact q
      · exact takeWhile_sat e
    · simp at h
theorem keep_ok {A B : List Lab} {p : Lab} (h : Stair (A ++ B)) (hA : ∀ x ∈ A, LexLe x p) (hB : ∀ x ∈ B, ¬ LexLe x p) (hd : ∀ x ∈ A, p.2 < x.2) :
    Stair (A ++ p :: B.dropWhile (fun x => decide (p.2 ≤ x.2))) ∧ (∀ x ∈ A ++ B, ∃ y ∈ A ++ p :: B.dropWhile (fun x => decide (p.2 ≤ x.2)), Dom y x) ∧ (∀ x ∈ A ++ p :: B.dropWhile (fun x => decide (p.2 ≤ x.2)), x ∈ A ++ B ∨ x = p) := by
  have hsub : (B.dropWhile (fun x => decide (p.2 ≤ x.2))).Sublist B := List.dropWhile_sublist _
  obtain ⟨h1, h2, h3⟩ := List.pairwise_append.mp h
  have hlow : ∀ x ∈ B.dropWhile (fun x => decide (p.2 ≤ x.2)), x.2 < p.2 := by
    intro x hx
    clear h hB h3 hsub
    induction B with
    | nil => simp at hx
    | cons b B ih =>
      rw [List.dropWhile_cons] at hx
      split at hx
      · exact ih (List.pairwise_cons.mp h2).2 hx
      · rename_i q
        simp at q
        rcases List.mem_cons.mp hx with e | e
        · subst e; exact q
        · have := (List.pairwise_cons.mp h2).1 x e; omega
  refine ⟨?_, ?_, ?_⟩
  · refine List.pairwise_append.mpr ⟨h1, List.pairwise_cons.mpr ⟨fun x hx => ?_, h2.sublist hsub⟩, fun a ha b hb => ?_⟩
    · have l1 := hlow x hx
      have l2 := hB x (hsub.subset hx)
      unfold LexLe at l2
      omega
    · rcases List.mem_cons.mp hb with e | e
      · subst e
        have l1 := hA a ha
        have l2 := hd a ha
        unfold LexLe at l1
        omega
      · exact h3 a ha b (hsub.subset e)
  · intro x hx
    rcases List.mem_append.mp hx with q | q
    · exact ⟨x, List.mem_append_left _ q, .refl _⟩
    · by_cases e : x ∈ B.dropWhile (fun x => decide (p.2 ≤ x.2))
      · exact ⟨x, List.mem_append_right _ (List.mem_cons_of_mem _ e), .refl _⟩
      · refine ⟨p, List.mem_append_right _ (List.mem_cons_self ..), ?_⟩
        have l1 : p.2 ≤ x.2 := by
          have := List.takeWhile_append_dropWhile (p := fun x : Lab => decide (p.2 ≤ x.2)) (l := B)
          rw [← this] at q
          rcases List.mem_append.mp q with q | q
          · have := takeWhile_sat q; simpa using this
          · exact absurd q e
        have l2 := hB x q
        unfold LexLe at l2
        exact ⟨by omega, l1⟩
  · intro x hx
    rcases List.mem_append.mp hx with q | q
    · exact .inl (List.mem_append_left _ q)
    · rcases List.mem_cons.mp q with e | e
      · exact .inr e
      · exact .inl (List.mem_append_right _ (hsub.subset e))

/-! what the heap's loop keeps -/
structure Tr where
  (c h p : Nat)
  deriving DecidableEq
structure Inv (ys : List Wy) (H : List Tr) (N : Nat → List Lab) : Prop where
  hw : ∀ t ∈ H, Walk ys t.p (t.c, t.h)
  st : ∀ i, Stair (N i)
  nt : ∀ i, ∀ x ∈ N i, ∃ r ∈ toldN ys 4, r.lst = i ∧ (r.c, r.h) = x
  lo : ∀ i, ∀ x ∈ N i, ∀ t ∈ H, LexLe x (t.c, t.h)
  s0 : (∃ x ∈ N 0, Dom x (0, 0)) ∨ ⟨0, 0, 0⟩ ∈ H
  cov : ∀ i, ∀ x ∈ N i, ∀ y ∈ ys, y.a = i → (∃ z ∈ N y.b, Dom z (x.1 + y.c, x.2 + y.h)) ∨ ⟨x.1 + y.c, x.2 + y.h, y.b⟩ ∈ H
theorem Inv.reach {ys H N} (I : Inv ys H N) {p l} (w : Walk ys p l) : (∃ x ∈ N p, Dom x l) ∨ ∃ t ∈ H, Dom (t.c, t.h) l := by
  induction w with
  | start =>
    rcases I.s0 with h | h
    · exact .inl h
    · exact .inr ⟨_, h, .refl _⟩
  | @step p l w y hy ha ih =>
    rcases ih with ⟨x, hx, d⟩ | ⟨t, ht, d⟩
    · rcases I.cov p x hx y hy ha with ⟨z, hz, d'⟩ | h
      · exact .inl ⟨z, hz, d'.trans ⟨Nat.add_le_add_right d.1 _, Nat.add_le_add_right d.2 _⟩⟩
      · exact .inr ⟨_, h, ⟨Nat.add_le_add_right d.1 _, Nat.add_le_add_right d.2 _⟩⟩
    · exact .inr ⟨t, ht, d.trans ⟨Nat.le_add_right _ _, Nat.le_add_right _ _⟩⟩
theorem Inv.start {ys : List Wy} : Inv ys [⟨0, 0, 0⟩] (fun _ => []) :=
  ⟨fun t ht => by simp at ht; subst ht; exact .start, fun _ => .nil, fun _ _ h => by simp at h, fun _ _ h => by simp at h, .inr (by simp), fun _ _ h => by simp at h⟩

/-- the top is passed over -/
theorem Inv.skip {ys H N} (I : Inv ys H N) {t : Tr} {H' : List Tr} (hp : H.Perm (t :: H')) (hd : ∃ x ∈ N t.p, Dom x (t.c, t.h)) : Inv ys H' N := by
  have hin : ∀ q, q ∈ H' → q ∈ H := fun q hq => hp.mem_iff.mpr (List.mem_cons_of_mem _ hq)
  have hout : ∀ q, q ∈ H → q = t ∨ q ∈ H' := fun q hq => List.mem_cons.mp (hp.mem_iff.mp hq)
  refine ⟨fun q hq => I.hw q (hin q hq), I.st, I.nt, fun i x hx q hq => I.lo i x hx q (hin q hq), ?_, fun i x hx y hy ha => ?_⟩
  · rcases I.s0 with h | h
    · exact .inl h
    · rcases hout _ h with e | e
      · rw [← e] at hd; exact .inl hd
      · exact .inr e
  · rcases I.cov i x hx y hy ha with h | h
    · exact .inl h
    · rcases hout _ h with e | e
      · rw [← e] at hd; exact .inl hd
      · exact .inr e

def note (N : Nat → List Lab) (p : Nat) (x : Lab) : Nat → List Lab := fun i => if i = p then N p ++ [x] else N i
theorem note_self (N : Nat → List Lab) (p : Nat) (x : Lab) : note N p x p = N p ++ [x] := by simp [note]
theorem note_ne (N : Nat → List Lab) {p i : Nat} (x : Lab) (h : i ≠ p) : note N p x i = N i := by simp [note, h]
theorem mem_note {N : Nat → List Lab} {p i : Nat} {x z : Lab} : z ∈ note N p x i ↔ z ∈ N i ∨ (i = p ∧ z = x) := by
  unfold note
  split
  · subst_vars; simp
  · rename_i h; simp [h]

/-- the top is noted and led on -/
theorem Inv.take {ys H N} (ok : WyOk ys) (I : Inv ys H N) {t : Tr} {H' H'' : List Tr} (hp : H.Perm (t :: H')) (hmin : ∀ q ∈ H, LexLe (t.c, t.h) (q.c, q.h)) (hq : ∀ x ∈ N t.p, t.h < x.2)
    (hp' : H''.Perm (((ys.filter (fun y => y.a == t.p)).map fun y => ⟨t.c + y.c, t.h + y.h, y.b⟩) ++ H')) : Inv ys H'' (note N t.p (t.c, t.h)) := by
  have hin : ∀ q, q ∈ H' → q ∈ H := fun q hq => hp.mem_iff.mpr (List.mem_cons_of_mem _ hq)
  have hout : ∀ q, q ∈ H → q = t ∨ q ∈ H' := fun q hq => List.mem_cons.mp (hp.mem_iff.mp hq)
  have ht : t ∈ H := hp.mem_iff.mpr (List.mem_cons_self ..)
  have h2 : ∀ q, q ∈ H'' ↔ (∃ y ∈ ys, y.a = t.p ∧ q = ⟨t.c + y.c, t.h + y.h, y.b⟩) ∨ q ∈ H' := fun q => by
    rw [hp'.mem_iff, List.mem_append, List.mem_map]
    refine or_congr ⟨?_, ?_⟩ Iff.rfl
    · rintro ⟨y, hy, rfl⟩
      obtain ⟨h1, h2⟩ := List.mem_filter.mp hy
      exact ⟨y, h1, by simpa using h2, rfl⟩
    · rintro ⟨y, h1, h2, rfl⟩
      exact ⟨y, List.mem_filter.mpr ⟨h1, by simpa using h2⟩, rfl⟩
  have hmin' : ∀ q ∈ H'', LexLe (t.c, t.h) (q.c, q.h) := fun q hq => by
    rcases (h2 q).mp hq with ⟨y, _, _, rfl⟩ | h
    · show t.c < t.c + y.c ∨ (t.c = t.c + y.c ∧ t.h ≤ t.h + y.h)
      omega
    · exact hmin q (hin q h)
  refine ⟨fun q hq => ?_, fun i => ?_, fun i x hx => ?_, fun i x hx q hq => ?_, ?_, fun i x hx y hy ha => ?_⟩
  · rcases (h2 q).mp hq with ⟨y, h1, h3, rfl⟩ | h
    · exact .step (I.hw t ht) y h1 h3
    · exact I.hw q (hin q h)
  · by_cases e : i = t.p
    · subst e
      rw [note_self]
      refine List.pairwise_append.mpr ⟨I.st _, by simp, fun a ha b hb => ?_⟩
      simp at hb; subst hb
      have l1 := hq a ha
      have l2 := I.lo _ a ha t ht
      unfold LexLe at l2
      simp only at l1 l2 ⊢
      omega
    · rw [note_ne _ _ e]; exact I.st i
  · rcases mem_note.mp hx with h | ⟨e1, e2⟩
    · exact I.nt i x h
    · subst e1 e2
      obtain ⟨r, hr, e, d⟩ := walk_simple ok (I.hw t ht)
      refine ⟨r, hr, e, ?_⟩
      rcases I.reach (told_walk hr) with ⟨z, hz, d'⟩ | ⟨q, hq', d'⟩
      · rw [e] at hz
        have l1 := hq z hz
        have l2 := d'.2; have l3 := d.2
        simp only at l2 l3
        omega
      · have l1 := hmin q hq'
        have a1 := d.1; have a2 := d.2; have b1 := d'.1; have b2 := d'.2
        unfold LexLe at l1
        simp only at l1 a1 a2 b1 b2
        exact Prod.ext (by simp only; omega) (by simp only; omega)
  · rcases mem_note.mp hx with h | ⟨e1, e2⟩
    · have l1 := I.lo i x h t ht
      have l2 := hmin' q hq
      unfold LexLe at *
      simp only at l1 l2 ⊢
      omega
    · subst e1 e2; exact hmin' q hq
  · rcases I.s0 with ⟨x, h, d⟩ | h
    · exact .inl ⟨x, mem_note.mpr (.inl h), d⟩
    · rcases hout _ h with e | e
      · refine .inl ⟨(t.c, t.h), mem_note.mpr (.inr ⟨by rw [← e], rfl⟩), ?_⟩
        rw [← e]; exact .refl _
      · exact .inr ((h2 _).mpr (.inr e))
  · rcases mem_note.mp hx with h | ⟨e1, e2⟩
    · rcases I.cov i x h y hy ha with ⟨z, hz, d⟩ | h
      · exact .inl ⟨z, mem_note.mpr (.inl hz), d⟩
      · rcases hout _ h with e | e
        · refine .inl ⟨(t.c, t.h), mem_note.mpr (.inr ⟨by rw [← e], rfl⟩), ?_⟩
          rw [← e]; exact .refl _
        · exact .inr ((h2 _).mpr (.inr e))
    · subst e1 e2
      exact .inr ((h2 _).mpr (.inl ⟨y, hy, ha, rfl⟩))

/-- at the end -/
theorem Inv.done {ys N} (I : Inv ys [] N) {p l} (w : Walk ys p l) : ∃ x ∈ N p, Dom x l := by
  rcases I.reach w with h | ⟨t, ht, _⟩
  · exact h
  · simp at ht
theorem Inv.size {ys H N} (I : Inv ys H N) (i : Nat) : (N i).length ≤ (toldN ys 4).length := by
  have := nodup_len (m := (toldN ys 4).map fun r => (r.c, r.h)) (I.st i).nodup fun x hx => by
    obtain ⟨r, h1, _, h2⟩ := I.nt i x hx
    exact List.mem_map.mpr ⟨r, h1, h2⟩
  simpa using this
def sumN (N : Nat → List Lab) : Nat := (N 0).length + (N 1).length + (N 2).length + (N 3).length + (N 4).length
theorem sumN_note {N : Nat → List Lab} {p : Nat} {x : Lab} (h : p < 5) : sumN (note N p x) = sumN N + 1 := by
  unfold sumN note
  match p, h with
  | 0, _ => simp; omega
  | 1, _ => simp; omega
  | 2, _ => simp; omega
  | 3, _ => simp; omega
  | 4, _ => simp; omega
theorem Inv.sum {ys H N} (I : Inv ys H N) (h : ys.length ≤ 18) : sumN N ≤ 555755 := by
  have := told_len h
  have h0 := I.size 0
  have h1 := I.size 1
  have h2 := I.size 2
  have h3 := I.size 3
  have h4 := I.size 4
  unfold sumN; omega
/-- the two rows of a place are one -/
theorem noted_due {ys N} (I : Inv ys [] N) {p : Nat} {D : List Lab} (hD : Stair D) (h1 : ∀ x ∈ D, ∃ r ∈ toldN ys 4, r.lst = p ∧ (r.c, r.h) = x) (h2 : ∀ r ∈ toldN ys 4, r.lst = p → ∃ x ∈ D, Dom x (r.c, r.h)) : N p = D := by
  refine stair_unique (I.st p) hD (fun x hx => ?_) fun y hy => ?_
  · obtain ⟨r, h3, h4, h5⟩ := I.nt p x hx
    rw [← h5]; exact h2 r h3 h4
  · obtain ⟨r, h3, h4, h5⟩ := h1 y hy
    rw [← h5]
    have := I.done (told_walk h3)
    rw [h4] at this; exact this
end Mine
end
section
open PySem PySem.W
set_option Elab.async false
set_option maxRecDepth 100000
namespace Mine
def stAt (i : Nat) : Stmt := PySem.Challenge.rw_dn0048_05.row.prog.main.body.getD i (.Pass default)
/-- the record of a def of the text -/
def mkFd (i : Nat) (dfl kwd pm code : Value) : FuncData := match stAt i with
  | .FunctionDef name args body _ _ _ scope _ _ _ => { name := name, qualname := name, params := args, body := .stmts body, scope := scope, globals := 3, closure := [], defaults := dfl, kwdefaults := kwd, doc := .none, pyModule := pm, annotations := none, code := code, closureTuple := .none, builtins := 0 }
  | _ => default
def fdAt : Nat → FuncData
  | 21 => mkFd 1 (.none) (.none) (.str (Str.ofString "cpy313.heapq") 187) (.ref 20)
  | 28 => mkFd 2 (.none) (.none) (.str (Str.ofString "cpy313.heapq") 187) (.ref 27)
  | 35 => mkFd 3 (.none) (.none) (.str (Str.ofString "cpy313.heapq") 187) (.ref 34)
  | 42 => mkFd 4 (.none) (.none) (.str (Str.ofString "cpy313.heapq") 187) (.ref 41)
  | 51 => mkFd 6 (.ref 43) (.ref 44) (.str (Str.ofString "cpy313.bisect") 231) (.ref 50)
  | 60 => mkFd 7 (.ref 52) (.ref 53) (.str (Str.ofString "cpy313.bisect") 231) (.ref 59)
  | 69 => mkFd 10 (.ref 62) (.none) (.str (Str.ofString "cpy313.functools") 260) (.ref 68)
  | 76 => mkFd 12 (.none) (.none) (.str (Str.ofString "law_dn0048_05") 275) (.ref 75)
  | 81 => mkFd 13 (.none) (.none) (.str (Str.ofString "law_dn0048_05") 275) (.ref 80)
  | 86 => mkFd 14 (.none) (.none) (.str (Str.ofString "law_dn0048_05") 275) (.ref 85)
  | 93 => mkFd 15 (.none) (.none) (.str (Str.ofString "law_dn0048_05") 275) (.ref 92)
  | 98 => mkFd 16 (.none) (.none) (.str (Str.ofString "law_dn0048_05") 275) (.ref 97)
  | _ => default
def obAt : Nat → Obj
  | 43 => { cls := .type "tuple", data := .seq #[.int 0 233, .none] }
  | 52 => { cls := .type "tuple", data := .seq #[.int 0 246, .none] }
  | 61 => { cls := .type "object" }
  | 62 => { cls := .type "tuple", data := .seq #[.ref 61] }
  | a => { cls := .type "function", data := .func (fdAt a) }
def bdAt (a : Nat) : List Stmt := match (fdAt a).body with | .stmts l => l | _ => []
def esW (p : Params) : Array DictEntry := #[⟨PyData.keyHash p (Str.ofString "__name__"), .str (Str.ofString "__name__") 165, .str (Str.ofString "law_dn0048_05") 275⟩,
  ⟨PyData.keyHash p (Str.ofString "__doc__"), .str (Str.ofString "__doc__") 166, .none⟩,
  ⟨PyData.keyHash p (Str.ofString "__package__"), .str (Str.ofString "__package__") 167, .none⟩,
  ⟨PyData.keyHash p (Str.ofString "__loader__"), .str (Str.ofString "__loader__") 168, .builtin "__main__.__loader__#opaque"⟩,
  ⟨PyData.keyHash p (Str.ofString "__spec__"), .str (Str.ofString "__spec__") 169, .none⟩,
  ⟨PyData.keyHash p (Str.ofString "__annotations__"), .str (Str.ofString "__annotations__") 170, .ref 6⟩,
  ⟨PyData.keyHash p (Str.ofString "__builtins__"), .str (Str.ofString "__builtins__") 171, .ref 4⟩,
  ⟨PyData.keyHash p (Str.ofString "__file__"), .str (Str.ofString "__file__") 173, .str (Str.ofString "/claim/cut.py") 172⟩,
  ⟨PyData.keyHash p (Str.ofString "__cached__"), .str (Str.ofString "__cached__") 174, .none⟩,
  ⟨PyData.keyHash p (Str.ofString "heappush"), .str (Str.ofString "heappush") 196, .ref 21⟩,
  ⟨PyData.keyHash p (Str.ofString "heappop"), .str (Str.ofString "heappop") 205, .ref 28⟩,
  ⟨PyData.keyHash p (Str.ofString "_siftdown"), .str (Str.ofString "_siftdown") 217, .ref 35⟩,
  ⟨PyData.keyHash p (Str.ofString "_siftup"), .str (Str.ofString "_siftup") 230, .ref 42⟩,
  ⟨PyData.keyHash p (Str.ofString "insort_right"), .str (Str.ofString "insort_right") 245, .ref 51⟩,
  ⟨PyData.keyHash p (Str.ofString "bisect_right"), .str (Str.ofString "bisect_right") 259, .ref 60⟩,
  ⟨PyData.keyHash p (Str.ofString "_initial_missing"), .str (Str.ofString "_initial_missing") 262, .ref 61⟩,
  ⟨PyData.keyHash p (Str.ofString "reduce"), .str (Str.ofString "reduce") 274, .ref 69⟩,
  ⟨PyData.keyHash p (Str.ofString "_law_ways"), .str (Str.ofString "_law_ways") 289, .ref 76⟩,
  ⟨PyData.keyHash p (Str.ofString "_law_noted"), .str (Str.ofString "_law_noted") 295, .ref 81⟩,
  ⟨PyData.keyHash p (Str.ofString "_law_all"), .str (Str.ofString "_law_all") 301, .ref 86⟩,
  ⟨PyData.keyHash p (Str.ofString "_law_keep"), .str (Str.ofString "_law_keep") 310, .ref 93⟩,
  ⟨PyData.keyHash p (Str.ofString "law"), .str (Str.ofString "law") 316, .ref 98⟩]
def mgW (p : Params) (x : Str) : Option Value := nsFind (esW p) x
end Mine
end
section
open PySem PySem.W
set_option Elab.async false
set_option linter.unusedVariables false
set_option maxRecDepth 100000
namespace Mine

def G (w : World) (base : Heap) (os : OsState) (mb : Str → Option Value) : Gx := ⟨PySem.Challenge.rw_dn0048_05.row.prog, w, base, os, mgW w.params, mb⟩

/-- what is told of the defs -/
structure FnOk (base : Heap) (a : Nat) : Prop where
  get : base.get? a = some (obAt a)
  code : base.CodeRec (fdAt a).code (fdAt a).qualname
structure Bs (G : Gx) : Prop where
  gd : Gd G
  ob : ∀ a ∈ [43, 52, 61, 62], G.base.get? a = some (obAt a)
  kw : ∀ a ∈ [44, 53], ∃ m, G.base.Ns a m ∧ m (Str.ofString "key") = some .none
  fn : ∀ a ∈ [21, 28, 35, 42, 51, 60, 69, 76, 81, 86, 93, 98], FnOk G.base a

-- an object of the state
local macro_rules | `(tactic| walk_at "hp") => `(tactic| first | assumption | exact at_set_same | (refine at_set_ne ?_ ?_; (first | assumption | (apply Ne.symm; assumption)); walk_at "hp"))
set_option hygiene false in
local macro_rules | `(tactic| walk_at "kd") => `(tactic| (rw [hsc]; rfl))
set_option hygiene false in
local macro_rules | `(tactic| walk_at "s1") => `(tactic| with_reducible first
  | refine seqQ_next ?_
  | refine seqQ_brk ?_
  | refine seqQ_cont ?_
  | refine seqQ_ret ?_
  | refine loopQ_brk ?_
  | refine loopQ_ret ?_
  | refine forQ_brk ?_
  | refine forQ_ret ?_
  | refine S_last ?_
  | refine S_seq ?_
  | refine S_nil ?_
  | (refine S_Assign ?_ ?h1; (case h1 => with_unfolding_all exact rfl))
  | (refine S_AssignSub ?_ ?h1; (case h1 => with_unfolding_all exact rfl))
  | refine S_if ?_
  | refine S_Return ?_
  | refine S_Break ?_
  | refine S_Continue ?_
  | (refine S_Expr ?_ ?h1 ?h2; (case h1 => with_unfolding_all (unfold PySem.interactive; walk_at "kd")); (case h2 => with_unfolding_all exact rfl))
  | (refine' W1_store ?h1 ?_; (case h1 => with_unfolding_all walk_at "kd"))
  | (refine' E_local ?h1 ?h2 ?_ ?h3; (case h1 => with_unfolding_all walk_at "kd"); (case h2 => with_unfolding_all exact rfl); (case h3 => with_unfolding_all exact rfl))
  | refine E_int ?_
  | refine E_none ?_
  | refine E_BinOp ?_
  | (refine E_Subscript ?_ ?h1; (case h1 => with_unfolding_all exact rfl))
  | (refine C_Compare ?_ ?h1; (case h1 => with_unfolding_all exact rfl))
  | refine C_Not ?_
  | refine C_BoolOp ?_
  | refine truthy_b ?_
  | refine bin_add ?_
  | refine bin_sub ?_
  | (refine bin_shr ?h1 ?_; (case h1 => with_unfolding_all decide))
  | refine cmp_lt ?_
  | (refine bin_mul ?_ ?h1; (case h1 => exact mulOk2))
  | refine And_last ?_
  | refine And_step ?_
  | refine Or_last ?_
  | refine Or_step ?_
  | refine andQ_true ?_
  | refine andQ_false ?_
  | refine orQ_true ?_
  | refine orQ_false ?_
  | refine ifQ_true ?_
  | refine ifQ_false ?_
  | (refine' E_CallG B.gd ?h1 ?h2 ?h3 ?h4 ?_ ?h5 ?h6 ?h7 ?h8; (case h1 => with_unfolding_all walk_at "kd"); (case h2 => with_unfolding_all exact rfl); (case h3 => exact (B.fn _ (by simp)).get); (case h4 => with_unfolding_all exact rfl); (case h5 => with_unfolding_all exact rfl); (case h6 => with_unfolding_all exact rfl); (case h7 => with_unfolding_all exact rfl); (case h8 => with_unfolding_all exact rfl))
  | (refine' E_CallB B.gd ?h1 ?h2 ?h3 ?h4 ?_ ?h5 ?h6 ?h7 ?h8; (case h1 => with_unfolding_all walk_at "kd"); (case h2 => with_unfolding_all exact rfl); (case h3 => decide); (case h4 => with_unfolding_all exact rfl); (case h5 => with_unfolding_all exact rfl); (case h6 => with_unfolding_all exact rfl); (case h7 => with_unfolding_all exact rfl); (case h8 => with_unfolding_all exact rfl))
  | (refine' E_CallT B.gd ?h1 ?h2 ?h3 ?h4 ?_ ?h5 ?h6 ?h7 ?h8; (case h1 => with_unfolding_all walk_at "kd"); (case h2 => with_unfolding_all exact rfl); (case h3 => decide); (case h4 => with_unfolding_all exact rfl); (case h5 => with_unfolding_all exact rfl); (case h6 => with_unfolding_all exact rfl); (case h7 => with_unfolding_all exact rfl); (case h8 => with_unfolding_all exact rfl))
  | refine cmp_gt ?_
  | refine And.intro ⟨_, _, rfl, seq_of (by with_unfolding_all walk_at "hp")⟩ ?_
  | (refine' E_MethList (id := "list.append") F.slot_list_append F.type_list_append ?_ ?h1 ?h2 ?h3 ?h4 ?h5; (case h1 => with_unfolding_all exact rfl); (case h2 => with_unfolding_all exact rfl); (case h3 => with_unfolding_all exact rfl); (case h4 => with_unfolding_all exact rfl); (case h5 => with_unfolding_all exact rfl))
  | (refine' E_MethList0 (id := "list.pop") F.slot_list_pop F.type_list_pop ?_ ?h1 ?h2; (case h1 => with_unfolding_all exact rfl); (case h2 => with_unfolding_all exact rfl))
  | (refine C_value ?_ ?h1; (case h1 => with_unfolding_all exact rfl))
  | refine truthy_i ?_
  | (refine E_Tuple ?_)
  | (refine S_AssignTup ?_ ?h1 ?h2; (case h1 => with_unfolding_all exact rfl); (case h2 => with_unfolding_all exact swapped_of hsc rfl))
  | (refine Asg_Tuple rfl ?_ ?h1 ?h2 ?h3; (case h1 => with_unfolding_all exact rfl); (case h2 => with_unfolding_all exact rfl); (case h3 => with_unfolding_all exact rfl))
  | refine asgAll_cons ?_
  | refine asgAll_nil ?_
  | (refine' Asg_local ?h1 ?_; (case h1 => with_unfolding_all walk_at "kd"))
  | refine Asg_Sub ?_
  | refine A_nil ?_
  | (refine A_cons ?_ ?h1; (case h1 => with_unfolding_all exact rfl)))

variable {w : World} {base : Heap} {os : OsState} {mb : Str → Option Value}

theorem siftdown_call (B : Bs (G w base os mb)) {n : Nat} {a : Addr} {l : List PV} {pos : Nat} {σ : AHeap} {x d : PV} {ltx : PV → Option Bool} (D : PV → Prop)
    {X : String → AHeap → Prop} {Q : PV → AHeap → Prop} (hs : σ a = some (.list l)) (hp : l[pos]? = some x) (hz : l.length ≤ 16000000)
    (hD : ∀ j q, j ≠ pos → l[j]? = some q → D q) (hlt : ∀ q, D q → LtAt (G w base os mb) (Over σ a) (ltx q) x q)
    (hX : ∀ l', sdnP ltx d x pos l = .error l' → X "TypeError" (σ.set a (.list l')))
    (hQ : ∀ l', sdnP ltx d x pos l = .ok l' → Q .none (σ.set a (.list l'))) :
    CallS (G w base os mb) ⟨n + 1, true⟩ (.ref 35) [.ref a, .int 0, .int pos] X Q σ := by
  refine call_def (fd := fdAt 35) (body := bdAt 35) [Str.ofString "heap", Str.ofString "startpos", Str.ofString "pos"] B.gd (B.fn 35 (by simp)).get rfl rfl (B.fn 35 (by simp)).code rfl rfl rfl rfl rfl rfl (by decide) rfl (fun vs hv => ?_) (fun i => rfl) (fun i => rfl) ?_
  · match vs, hv with
    | [v1, v2, v3], _ => rfl
  intro c L hc hlv hsc hce hq hf
  obtain ⟨g, lv, A, env⟩ := c
  subst hc hlv
  show WS _ (bdAt 35) _ _ ([(Str.ofString "heap", .ref a), (Str.ofString "startpos", .int 0), (Str.ofString "pos", .int pos)], σ)
  refine S_seq ?_
  repeat walk_at "s1"
  refine get_list (seq_of (by walk_at "hp")) (by omega) (by simpa using hp) (by omega) ?_
  repeat walk_at "s1"
  refine S_while (fun n st => ∃ l', n < l'.length ∧ l'.length = l.length ∧ sdnP ltx d x n l' = sdnP ltx d x pos l ∧ (∀ j q, j ≠ n → l'[j]? = some q → D q) ∧
    st = ([(Str.ofString "heap", .ref a), (Str.ofString "startpos", .int 0), (Str.ofString "pos", .int n), (Str.ofString "newitem", x)], σ.set a (.list l'))) pos _ ⟨l, ?_, rfl, rfl, hD, rfl⟩ ?_ ?_
  · exact (List.getElem?_eq_some_iff.mp hp).1
  · rw [AHeap.set_self _ hs]; exact St.le_refl _
  · rintro n _ ⟨l', hn, hl', hsd, hD', rfl⟩
    repeat walk_at "s1"
    refine ⟨fun hb => ?_, fun hb => ?_⟩
    · have hgt : n > 0 := by simpa using hb
      rw [sdnP, dif_pos hgt] at hsd
      have hpp : ((n : Int) - 1).fdiv (2 ^ Int.toNat 1) = (((n - 1) / 2 : Nat) : Int) := by
        rw [show (2 : Int) ^ Int.toNat 1 = 2 from rfl, Int.fdiv_eq_ediv_of_nonneg _ (by omega)]; omega
      repeat walk_at "s1"
      rw [hpp]
      repeat walk_at "s1"
      have hlt2 : (n - 1) / 2 < l'.length := by omega
      have hget : l'[(n - 1) / 2]? = some (l'.getD ((n - 1) / 2) d) := by rw [List.getD_eq_getElem?_getD]; simp [hlt2]
      refine get_list (p := l'.getD ((n - 1) / 2) d) (seq_of (by walk_at "hp")) (by omega) (by rw [Int.toNat_natCast]; exact hget) (by omega) ?_
      repeat walk_at "s1"
      have hdq : D (l'.getD ((n - 1) / 2) d) := hD' _ _ (by omega) hget
      refine hlt _ hdq _ _ _ _ _ rfl rfl ⟨l', rfl⟩ ?_
      cases hc : ltx (l'.getD ((n - 1) / 2) d) with
      | none =>
        rw [hc] at hsd
        exact hX _ hsd.symm
      | some b =>
        rw [hc] at hsd
        dsimp only
        repeat walk_at "s1"
        refine ifQ_dec (fun hb => ?_) (fun hb => ?_)
        · subst hb
          repeat walk_at "s1"
          refine set_list (by walk_at "hp") (by omega) (by omega) (by omega) ?_
          repeat walk_at "s1"
          refine loopQ_cont ((n - 1) / 2) (by omega) ⟨l'.set n (l'.getD ((n - 1) / 2) d), by simpa using hlt2, by simpa using hl', hsd, fun j q hj e => ?_, rfl⟩ ?_
          · by_cases hjn : j = n
            · subst hjn; rw [List.getElem?_set_self hn] at e; cases e; exact hdq
            · rw [List.getElem?_set_ne (Ne.symm hjn)] at e; exact hD' j q hjn e
          · simp only [AHeap.set_set, Int.toNat_natCast]
            exact St.le_app (.refl _)
        · subst hb
          repeat walk_at "s1"
          refine set_list (by walk_at "hp") (by omega) (by omega) (by omega) ?_
          simp only [AHeap.set_set, Int.toNat_natCast]
          exact hQ _ hsd.symm
    · have hgt : ¬ n > 0 := by simpa using hb
      rw [sdnP, dif_neg hgt] at hsd
      repeat walk_at "s1"
      refine set_list (by walk_at "hp") (by omega) (by omega) (by omega) ?_
      simp only [AHeap.set_set, Int.toNat_natCast]
      exact hQ _ hsd.symm

theorem siftup_call (B : Bs (G w base os mb)) {n : Nat} {a : Addr} {l : List PV} {σ : AHeap} {x d : PV} {ltx : PV → Option Bool} {ltb : PV → PV → Bool} (D : PV → Prop)
    {X : String → AHeap → Prop} {Q : PV → AHeap → Prop} (hs : σ a = some (.list l)) (hp : l[0]? = some x) (hz : l.length ≤ 16000000)
    (hD : ∀ j q, j ≠ 0 → l[j]? = some q → D q) (hlt : ∀ q, D q → LtAt (G w base os mb) (Over σ a) (ltx q) x q) (hlt2 : ∀ p q, D p → D q → LtAt (G w base os mb) (Over σ a) (some (ltb p q)) p q)
    (hX : ∀ l', sdnP ltx d x (supB ltb d 0 l).1 ((supB ltb d 0 l).2.set (supB ltb d 0 l).1 x) = .error l' → X "TypeError" (σ.set a (.list l')))
    (hQ : ∀ l', sdnP ltx d x (supB ltb d 0 l).1 ((supB ltb d 0 l).2.set (supB ltb d 0 l).1 x) = .ok l' → Q .none (σ.set a (.list l'))) :
    CallS (G w base os mb) ⟨n + 2, true⟩ (.ref 42) [.ref a, .int 0] X Q σ := by
  have hl0 : 0 < l.length := (List.getElem?_eq_some_iff.mp hp).1
  refine call_def (fd := fdAt 42) (body := bdAt 42) [Str.ofString "heap", Str.ofString "pos"] B.gd (B.fn 42 (by simp)).get rfl rfl (B.fn 42 (by simp)).code rfl rfl rfl rfl rfl rfl (by decide) rfl (fun vs hv => ?_) (fun i => rfl) (fun i => rfl) ?_
  · match vs, hv with
    | [v1, v2], _ => rfl
  intro c L hc hlv hsc hce hq hf
  obtain ⟨g, lv, A, env⟩ := c
  subst hc hlv
  show WS _ (bdAt 42) _ _ ([(Str.ofString "heap", .ref a), (Str.ofString "pos", .int 0)], σ)
  refine S_seq ?_
  repeat walk_at "s1"
  refine len_seq (seq_of (by walk_at "hp")) (by omega) ?_
  repeat walk_at "s1"
  refine get_list (seq_of (by walk_at "hp")) (by omega) (by simpa using hp) (by omega) ?_
  repeat walk_at "s1"
  refine S_while (fun m st => ∃ (p : Nat) (pi : Int) (l' : List PV), pi = p ∧ p < l.length ∧ m + p = l.length ∧ l'.length = l.length ∧ supB ltb d p l' = supB ltb d 0 l ∧ (∀ j q, j ≠ p → l'[j]? = some q → D q) ∧
    st = ([(Str.ofString "heap", .ref a), (Str.ofString "pos", .int pi), (Str.ofString "endpos", .int l.length), (Str.ofString "startpos", .int 0), (Str.ofString "newitem", x), (Str.ofString "childpos", .int (2 * pi + 1))], σ.set a (.list l'))) l.length _ ⟨0, 0, l, rfl, hl0, rfl, rfl, rfl, hD, rfl⟩ ?_ ?_
  · rw [AHeap.set_self _ hs]; exact St.le_refl _
  · rintro m _ ⟨p, pi, l', hpi, hpl, hm, hl', hsu, hD', rfl⟩
    repeat walk_at "s1"
    have hget : ∀ (i : Int) (j : Nat), i = j → j < l'.length → l'[i.toNat]? = some (l'.getD j d) := fun i j e hj => by
      subst e; rw [Int.toNat_natCast, List.getD_eq_getElem?_getD]; simp [hj]
    have hDn : ∀ j, p < j → j < l'.length → D (l'.getD j d) := fun j h1 h2 => hD' j _ (by omega) (by rw [List.getD_eq_getElem?_getD]; simp [h2])
    have hDs : ∀ (cp : Nat), p < cp → cp < l'.length → ∀ j q, j ≠ cp → (l'.set p (l'.getD cp d))[j]? = some q → D q := fun cp h1 h2 j q hj e => by
      by_cases hjp : j = p
      · subst hjp; rw [List.getElem?_set_self (by omega)] at e; cases e; exact hDn cp h1 h2
      · rw [List.getElem?_set_ne (Ne.symm hjp)] at e; exact hD' j q hjp e
    refine ⟨fun hb => ?_, fun hb => ?_⟩
    · have hc1 : 2 * p + 1 < l'.length := by have h9 : 2 * pi + 1 < (l.length : Int) := (by simpa using hb); omega
      rw [supB, dif_pos hc1] at hsu
      repeat walk_at "s1"
      refine andQ_dec (fun hb2 => ?_) (fun hb2 => ?_)
      · have hc2 : 2 * p + 2 < l'.length := by have h9 : 2 * pi + 1 + 1 < (l.length : Int) := (by simpa using hb2); omega
        repeat walk_at "s1"
        refine get_list (seq_of (by walk_at "hp")) (by omega) (hget _ (2 * p + 1) (by omega) hc1) (by omega) ?_
        repeat walk_at "s1"
        refine get_list (seq_of (by walk_at "hp")) (by omega) (hget _ (2 * p + 2) (by omega) hc2) (by omega) ?_
        refine hlt2 _ _ (hDn _ (by omega) hc1) (hDn _ (by omega) hc2) _ _ _ _ _ rfl rfl ⟨l', rfl⟩ ?_
        dsimp only
        repeat walk_at "s1"
        refine ifQ_dec (fun hb3 => ?_) (fun hb3 => ?_)
        · have hl3 : ltb (l'.getD (2 * p + 1) d) (l'.getD (2 * p + 2) d) = false := by simpa using hb3
          rw [if_pos ⟨hc2, hl3⟩] at hsu
          repeat walk_at "s1"
          refine get_list (seq_of (by walk_at "hp")) (by omega) (hget _ (2 * p + 2) (by omega) hc2) (by omega) ?_
          repeat walk_at "s1"
          refine set_list (by walk_at "hp") (by omega) (by omega) (by omega) ?_
          repeat walk_at "s1"
          refine loopQ_next (l.length - (2 * p + 2)) (by omega) ⟨2 * p + 2, 2 * pi + 1 + 1, l'.set p (l'.getD (2 * p + 2) d), by omega, by omega, by omega, by simpa using hl', hsu, hDs _ (by omega) hc2, rfl⟩ ?_
          rw [show pi.toNat = p by omega, AHeap.set_set]
          exact St.le_app (.refl _)
        · have hl3 : ltb (l'.getD (2 * p + 1) d) (l'.getD (2 * p + 2) d) = true := by simpa using hb3
          rw [if_neg (fun q => by rw [hl3] at q; exact absurd q.2 (by decide))] at hsu
          repeat walk_at "s1"
          refine get_list (seq_of (by walk_at "hp")) (by omega) (hget _ (2 * p + 1) (by omega) hc1) (by omega) ?_
          repeat walk_at "s1"
          refine set_list (by walk_at "hp") (by omega) (by omega) (by omega) ?_
          repeat walk_at "s1"
          refine loopQ_next (l.length - (2 * p + 1)) (by omega) ⟨2 * p + 1, 2 * pi + 1, l'.set p (l'.getD (2 * p + 1) d), by omega, by omega, by omega, by simpa using hl', hsu, hDs _ (by omega) hc1, rfl⟩ ?_
          rw [show pi.toNat = p by omega, AHeap.set_set]
          exact St.le_app (.refl _)
      · have hc2 : ¬ 2 * p + 2 < l'.length := by have h9 : ¬ 2 * pi + 1 + 1 < (l.length : Int) := (by simpa using hb2); omega
        rw [if_neg (fun q => hc2 q.1)] at hsu
        repeat walk_at "s1"
        refine get_list (seq_of (by walk_at "hp")) (by omega) (hget _ (2 * p + 1) (by omega) hc1) (by omega) ?_
        repeat walk_at "s1"
        refine set_list (by walk_at "hp") (by omega) (by omega) (by omega) ?_
        repeat walk_at "s1"
        refine loopQ_next (l.length - (2 * p + 1)) (by omega) ⟨2 * p + 1, 2 * pi + 1, l'.set p (l'.getD (2 * p + 1) d), by omega, by omega, by omega, by simpa using hl', hsu, hDs _ (by omega) hc1, rfl⟩ ?_
        rw [show pi.toNat = p by omega, AHeap.set_set]
        exact St.le_app (.refl _)
    · have hc1 : ¬ 2 * p + 1 < l'.length := by have h9 : ¬ 2 * pi + 1 < (l.length : Int) := (by simpa using hb); omega
      rw [supB, dif_neg hc1] at hsu
      subst hpi
      repeat walk_at "s1"
      refine set_list (by walk_at "hp") (by omega) (by omega) (by omega) ?_
      rw [Int.toNat_natCast, AHeap.set_set]
      repeat walk_at "s1"
      rw [← hsu] at hX hQ
      refine WN_call ?_
      refine siftdown_call B (l := l'.set p x) (d := d) (ltx := ltx) D at_set_same (List.getElem?_set_self (by omega)) (by rw [List.length_set]; omega) (fun j q hj e => ?_) (fun q hq => (hlt q hq).mono Over.set) (fun l'' e => ?_) (fun l'' e => ?_)
      · rw [List.getElem?_set_ne (Ne.symm hj)] at e; exact hD' j q hj e
      · rw [AHeap.set_set]; exact hX _ e
      · rw [AHeap.set_set]
        repeat walk_at "s1"
        exact hQ _ e

theorem heappush_call (B : Bs (G w base os mb)) {n : Nat} {a : Addr} {l : List PV} {σ : AHeap} {x d : PV} {ltx : PV → Option Bool} (D : PV → Prop)
    {X : String → AHeap → Prop} {Q : PV → AHeap → Prop} (hs : σ a = some (.list l)) (hz : l.length ≤ 15000000)
    (hD : ∀ q ∈ l, D q) (hlt : ∀ q, D q → LtAt (G w base os mb) (Over σ a) (ltx q) x q)
    (hX : ∀ l', sdnP ltx d x l.length (l ++ [x]) = .error l' → X "TypeError" (σ.set a (.list l')))
    (hQ : ∀ l', sdnP ltx d x l.length (l ++ [x]) = .ok l' → Q .none (σ.set a (.list l'))) :
    CallS (G w base os mb) ⟨n + 2, true⟩ (.ref 21) [.ref a, x] X Q σ := by
  refine call_def (fd := fdAt 21) (body := bdAt 21) [Str.ofString "heap", Str.ofString "item"] B.gd (B.fn 21 (by simp)).get rfl rfl (B.fn 21 (by simp)).code rfl rfl rfl rfl rfl rfl (by decide) rfl (fun vs hv => ?_) (fun i => rfl) (fun i => rfl) ?_
  · match vs, hv with
    | [v1, v2], _ => rfl
  intro c L hc hlv hsc hce hq hf
  obtain ⟨g, lv, A, env⟩ := c
  subst hc hlv
  show WS _ (bdAt 21) _ _ ([(Str.ofString "heap", .ref a), (Str.ofString "item", x)], σ)
  refine S_seq ?_
  repeat walk_at "s1"
  refine append_list (by walk_at "hp") (by omega) ?_
  repeat walk_at "s1"
  refine len_seq (seq_of (by walk_at "hp")) (by simp; omega) ?_
  repeat walk_at "s1"
  rw [show (((l ++ [x]).length : Nat) : Int) - 1 = (l.length : Nat) by simp]
  refine WN_call ?_
  refine siftdown_call B (l := l ++ [x]) (d := d) (ltx := ltx) D at_set_same (by simp) (by simp; omega) (fun j q hj e => ?_) (fun q hq => (hlt q hq).mono Over.set) (fun l'' e => ?_) (fun l'' e => ?_)
  · rcases Nat.lt_or_ge j l.length with h | h
    · rw [List.getElem?_append_left h] at e; exact hD q (List.mem_of_getElem? e)
    · rw [List.getElem?_append_right h] at e
      have : j - l.length ≠ 0 := by omega
      rw [List.getElem?_eq_none (by simp; omega)] at e; cases e
  · rw [AHeap.set_set]; exact hX _ e
  · rw [AHeap.set_set]
    repeat walk_at "s1"
    exact hQ _ e

theorem heappop_call (B : Bs (G w base os mb)) {n : Nat} {a : Addr} {l : List PV} {σ : AHeap} {d : PV} {ltb : PV → PV → Bool} (D : PV → Prop)
    {X : String → AHeap → Prop} {Q : PV → AHeap → Prop} (hs : σ a = some (.list l)) (hz : l.length ≤ 15000000)
    (hD : ∀ q ∈ l, D q) (hlt2 : ∀ p q, D p → D q → LtAt (G w base os mb) (Over σ a) (some (ltb p q)) p q)
    (h0 : l = [] → X "IndexError" σ)
    (h1 : ∀ x, l = [x] → Q x (σ.set a (.list [])))
    (hQ : ∀ r m x, l = r :: m ++ [x] → Q r (σ.set a (.list (topB ltb d x ((r :: m).set 0 x))))) :
    CallS (G w base os mb) ⟨n + 3, true⟩ (.ref 28) [.ref a] X Q σ := by
  refine call_def (fd := fdAt 28) (body := bdAt 28) [Str.ofString "heap"] B.gd (B.fn 28 (by simp)).get rfl rfl (B.fn 28 (by simp)).code rfl rfl rfl rfl rfl rfl (by decide) rfl (fun vs hv => ?_) (fun i => rfl) (fun i => rfl) ?_
  · match vs, hv with
    | [v1], _ => rfl
  intro c L hc hlv hsc hce hq hf
  obtain ⟨g, lv, A, env⟩ := c
  subst hc hlv
  show WS _ (bdAt 28) _ _ ([(Str.ofString "heap", .ref a)], σ)
  refine S_seq ?_
  repeat walk_at "s1"
  rcases List.eq_nil_or_concat l with hl | ⟨m, x, hl⟩
  · subst hl
    exact pop_list_empty rfl (by walk_at "hp") (h0 rfl)
  · rw [List.concat_eq_append] at hl
    subst hl
    refine pop_list (l := m) (p := x) (by walk_at "hp") (by simp at hz; omega) ?_
    repeat walk_at "s1"
    refine truthy_l (seq_of (by walk_at "hp")) (by simp at hz; omega) ?_
    cases m with
    | nil =>
      refine ifQ_false ?_
      repeat walk_at "s1"
      exact h1 x rfl
    | cons r m =>
      refine ifQ_true ?_
      repeat walk_at "s1"
      refine get_list (p := r) (seq_of (by walk_at "hp")) (by omega) rfl (by simp at hz ⊢; omega) ?_
      repeat walk_at "s1"
      refine set_list (by walk_at "hp") (by omega) (by simp <;> omega) (by simp at hz ⊢; omega) ?_
      repeat walk_at "s1"
      have hDx : D x := hD x (by simp)
      have hDm : ∀ j q, ((r :: m).set 0 x)[j]? = some q → D q := fun j q e => by
        by_cases hj : j = 0
        · subst hj; rw [List.getElem?_set_self (by simp)] at e; cases e; exact hDx
        · rw [List.getElem?_set_ne (Ne.symm hj)] at e; exact hD q (List.mem_append_left _ (List.mem_of_getElem? e))
      have hfin : ∀ l'', sdnP (fun q => some (ltb x q)) d x (supB ltb d 0 ((r :: m).set 0 x)).1 ((supB ltb d 0 ((r :: m).set 0 x)).2.set (supB ltb d 0 ((r :: m).set 0 x)).1 x) = l'' → l'' = .ok (topB ltb d x ((r :: m).set 0 x)) := fun l'' e => by
        rw [← e]
        exact sdnP_ok (lt := ltb) (fun _ => True) (fun q _ => rfl) _ _ (by
          have := supB_lt (lt := ltb) (d := d) (pos := 0) (l := (r :: m).set 0 x) (by simp)
          simpa using this) (fun _ _ _ _ => trivial)
      refine WN_call ?_
      refine siftup_call B (l := (r :: m).set 0 x) (d := d) (ltx := fun q => some (ltb x q)) (ltb := ltb) D ?_ rfl (by simp at hz ⊢; omega) (fun j q hj e => hDm j q e) (fun q hq => (hlt2 x q hDx hq).mono ?_) (fun p q hp hq => (hlt2 p q hp hq).mono ?_) (fun l'' e => ?_) (fun l'' e => ?_)
      · exact at_set_same
      · intro σ' h; exact Over.set _ (Over.set _ h)
      · intro σ' h; exact Over.set _ (Over.set _ h)
      · have := hfin _ e; cases this
      · have := hfin _ e; cases this
        rw [AHeap.set_set, AHeap.set_set]
        repeat walk_at "s1"
        exact hQ r m x rfl
end Mine
end
section
open PySem PySem.W
set_option Elab.async false
set_option linter.unusedVariables false
set_option maxRecDepth 100000
namespace Mine
-- an object of the state
local macro_rules | `(tactic| walk_at "hp") => `(tactic| first | assumption | exact at_set_same | (refine at_set_ne ?_ ?_; (first | assumption | (apply Ne.symm; assumption)); walk_at "hp") | (refine at_set_fresh (by assumption) ?_; walk_at "hp"))
set_option hygiene false in
local macro_rules | `(tactic| walk_at "kd") => `(tactic| first | (rw [hsc]; rfl) | (rw [hsc', relabel_of hsc]; rfl))
set_option hygiene false in
local macro_rules | `(tactic| walk_at "ce") => `(tactic| first | (rw [hce]; rfl) | (rw [hce']; rfl))
set_option hygiene false in
local macro_rules | `(tactic| walk_at "s1") => `(tactic| with_reducible first
  | refine seqQ_next ?_
  | refine seqQ_brk ?_
  | refine seqQ_cont ?_
  | refine seqQ_ret ?_
  | refine loopQ_brk ?_
  | refine loopQ_ret ?_
  | refine forQ_brk ?_
  | refine forQ_ret ?_
  | refine S_last ?_
  | refine S_seq ?_
  | refine S_nil ?_
  | (refine S_Assign ?_ ?h1; (case h1 => with_unfolding_all exact rfl))
  | (refine S_AssignSub ?_ ?h1; (case h1 => with_unfolding_all exact rfl))
  | refine S_if ?_
  | refine S_Return ?_
  | refine S_Break ?_
  | refine S_Continue ?_
  | (refine S_Expr ?_ ?h1 ?h2; (case h1 => with_unfolding_all (unfold PySem.interactive; walk_at "kd")); (case h2 => with_unfolding_all exact rfl))
  | (refine' W1_store ?h1 ?_; (case h1 => with_unfolding_all walk_at "kd"))
  | (refine' E_local ?h1 ?h2 ?_ ?h3; (case h1 => with_unfolding_all walk_at "kd"); (case h2 => with_unfolding_all exact rfl); (case h3 => with_unfolding_all exact rfl))
  | (refine' E_cell ?h1 ?h2 ?h3 ?_ ?h4; (case h1 => with_unfolding_all walk_at "kd"); (case h2 => with_unfolding_all walk_at "ce"); (case h3 => walk_at "hp"); (case h4 => with_unfolding_all exact rfl))
  | (refine' E_free ?h1 ?h2 ?h3 ?_ ?h4 ?h5; (case h1 => with_unfolding_all walk_at "kd"); (case h2 => with_unfolding_all walk_at "ce"); (case h3 => walk_at "hp"); (case h4 => with_unfolding_all exact rfl); (case h5 => with_unfolding_all exact rfl))
  | (refine' E_global B.gd ?h1 ?h2 ?h3 ?_ ?h4; (case h1 => with_unfolding_all walk_at "kd"); (case h2 => with_unfolding_all exact rfl); (case h3 => with_unfolding_all exact rfl); (case h4 => with_unfolding_all exact rfl))
  | refine E_int ?_
  | refine E_none ?_
  | refine E_BinOp ?_
  | refine E_ifE ?_
  | refine ifE_true ?_
  | refine ifE_false ?_
  | refine storeAll_cons ?_
  | refine storeAll_nil ?_
  | refine E_Slice ?_
  | refine Part_none ?_
  | refine Part_some ?_
  | refine E_bool ?_
  | (refine E_Subscript ?_ ?h1; (case h1 => with_unfolding_all exact rfl))
  | (refine C_Compare ?_ ?h1; (case h1 => with_unfolding_all exact rfl))
  | refine C_Not ?_
  | refine C_BoolOp ?_
  | refine truthy_b ?_
  | refine bin_add ?_
  | refine bin_sub ?_
  | (refine bin_shr ?h1 ?_; (case h1 => with_unfolding_all decide))
  | refine cmp_lt ?_
  | (refine bin_mul ?_ ?h1; (case h1 => exact mulOk2))
  | refine And_last ?_
  | refine And_step ?_
  | refine Or_last ?_
  | refine Or_step ?_
  | refine andQ_true ?_
  | refine andQ_false ?_
  | refine orQ_true ?_
  | refine orQ_false ?_
  | refine ifQ_true ?_
  | refine ifQ_false ?_
  | (refine' E_CallG B.gd ?h1 ?h2 ?h3 ?h4 ?_ ?h5 ?h6 ?h7 ?h8; (case h1 => with_unfolding_all walk_at "kd"); (case h2 => with_unfolding_all exact rfl); (case h3 => exact (B.fn _ (by simp)).get); (case h4 => with_unfolding_all exact rfl); (case h5 => with_unfolding_all exact rfl); (case h6 => with_unfolding_all exact rfl); (case h7 => with_unfolding_all exact rfl); (case h8 => with_unfolding_all exact rfl))
  | (refine' E_CallB B.gd ?h1 ?h2 ?h3 ?h4 ?_ ?h5 ?h6 ?h7 ?h8; (case h1 => with_unfolding_all walk_at "kd"); (case h2 => with_unfolding_all exact rfl); (case h3 => decide); (case h4 => with_unfolding_all exact rfl); (case h5 => with_unfolding_all exact rfl); (case h6 => with_unfolding_all exact rfl); (case h7 => with_unfolding_all exact rfl); (case h8 => with_unfolding_all exact rfl))
  | (refine' E_CallT B.gd ?h1 ?h2 ?h3 ?h4 ?_ ?h5 ?h6 ?h7 ?h8; (case h1 => with_unfolding_all walk_at "kd"); (case h2 => with_unfolding_all exact rfl); (case h3 => decide); (case h4 => with_unfolding_all exact rfl); (case h5 => with_unfolding_all exact rfl); (case h6 => with_unfolding_all exact rfl); (case h7 => with_unfolding_all exact rfl); (case h8 => with_unfolding_all exact rfl))
  | refine cmp_gt ?_
  | refine cmp_le ?_
  | refine cmp_ge ?_
  | refine is_none_n ?_
  | refine is_none_r ?_
  | refine is_none_i ?_
  | refine is_none_t ?_
  | refine isNot_none_n ?_
  | refine isNot_none_r ?_
  | refine isNot_none_i ?_
  | refine isNot_none_t ?_
  | refine Ifs_one ?_
  | refine Ifs_nil ?_
  | refine cmp_ne ?_
  | refine cmp_eq ?_
  | (refine bin_floordiv ?h1 ?h2 ?_; (case h1 => with_unfolding_all decide); (case h2 => with_unfolding_all decide))
  | refine E_List ?_
  | refine And.intro ⟨_, _, rfl, seq_of (by with_unfolding_all walk_at "hp")⟩ ?_
  | (refine' E_MethList (id := "list.append") F.slot_list_append F.type_list_append ?_ ?h1 ?h2 ?h3 ?h4 ?h5; (case h1 => with_unfolding_all exact rfl); (case h2 => with_unfolding_all exact rfl); (case h3 => with_unfolding_all exact rfl); (case h4 => with_unfolding_all exact rfl); (case h5 => with_unfolding_all exact rfl))
  | (refine' E_MethList0 (id := "list.pop") F.slot_list_pop F.type_list_pop ?_ ?h1 ?h2; (case h1 => with_unfolding_all exact rfl); (case h2 => with_unfolding_all exact rfl))
  | (refine' E_MethList (id := "list.insert") F.slot_list_insert F.type_list_insert ?_ ?h1 ?h2 ?h3 ?h4 ?h5; (case h1 => with_unfolding_all exact rfl); (case h2 => with_unfolding_all exact rfl); (case h3 => with_unfolding_all exact rfl); (case h4 => with_unfolding_all exact rfl); (case h5 => with_unfolding_all exact rfl))
  | (refine' E_MethList (id := "list.extend") F.slot_list_extend F.type_list_extend ?_ ?h1 ?h2 ?h3 ?h4 ?h5; (case h1 => with_unfolding_all exact rfl); (case h2 => with_unfolding_all exact rfl); (case h3 => with_unfolding_all exact rfl); (case h4 => with_unfolding_all exact rfl); (case h5 => with_unfolding_all exact rfl))
  | (refine' E_MethList (id := "list.pop") F.slot_list_pop F.type_list_pop ?_ ?h1 ?h2 ?h3 ?h4 ?h5; (case h1 => with_unfolding_all exact rfl); (case h2 => with_unfolding_all exact rfl); (case h3 => with_unfolding_all exact rfl); (case h4 => with_unfolding_all exact rfl); (case h5 => with_unfolding_all exact rfl))
  | (refine C_value ?_ ?h1; (case h1 => with_unfolding_all exact rfl))
  | refine truthy_i ?_
  | (refine E_Tuple ?_)
  | (refine S_AssignTup ?_ ?h1 ?h2; (case h1 => with_unfolding_all exact rfl); (case h2 => with_unfolding_all exact swapped_of hsc rfl))
  | (refine Asg_Tuple rfl ?_ ?h1 ?h2 ?h3; (case h1 => with_unfolding_all exact rfl); (case h2 => with_unfolding_all exact rfl); (case h3 => with_unfolding_all exact rfl))
  | refine asgAll_cons ?_
  | refine asgAll_nil ?_
  | (refine' Asg_local ?h1 ?_; (case h1 => with_unfolding_all walk_at "kd"))
  | refine Asg_Sub ?_
  | refine A_nil ?_
  | (refine A_cons ?_ ?h1; (case h1 => with_unfolding_all exact rfl)))


variable {w : World} {base : Heap} {os : OsState} {mb : Str → Option Value}
theorem VReps.two {h : Heap} {p q : PV} {vs : List Value} (x : VReps h [p, q] vs) : ∃ v u, vs = [v, u] ∧ VRep h p v ∧ VRep h q u := by
  obtain ⟨v1, r1, rfl, h1, x⟩ := x.cons_inv
  obtain ⟨v2, r2, rfl, h2, x⟩ := x.cons_inv
  exact ⟨v1, v2, by rw [x.nil_inv], h1, h2⟩
theorem VReps.three {h : Heap} {p q r : PV} {vs : List Value} (x : VReps h [p, q, r] vs) : ∃ v u w, vs = [v, u, w] ∧ VRep h p v ∧ VRep h q u ∧ VRep h r w := by
  obtain ⟨v1, r1, rfl, h1, x⟩ := x.cons_inv
  obtain ⟨v2, w, rfl, h2, h3⟩ := x.two
  exact ⟨v1, v2, w, rfl, h1, h2, h3⟩
theorem VReps.four {h : Heap} {p q r t : PV} {vs : List Value} (x : VReps h [p, q, r, t] vs) : ∃ v u w z, vs = [v, u, w, z] ∧ VRep h p v ∧ VRep h q u ∧ VRep h r w ∧ VRep h t z := by
  obtain ⟨v1, r1, rfl, h1, x⟩ := x.cons_inv
  obtain ⟨v2, w, z, rfl, h2⟩ := x.three
  exact ⟨v1, v2, w, z, rfl, h1, h2⟩

/-- where x stands in a row: behind all that it is not less than -/
structure Cut (lt : PV → Bool) (l : List PV) (k : Nat) : Prop where
  le : k ≤ l.length
  low : ∀ i p, i < k → l[i]? = some p → lt p = false
  high : ∀ i p, k ≤ i → l[i]? = some p → lt p = true

theorem bisect_body (B : Bs (G w base os mb)) {n : Nat} {A : Around} {env : Env} {a : Addr} {l : List PV} {σ : AHeap} {x : PV} {lt : PV → Bool} {k : Nat} {X : String → AHeap → Prop} {Q : PV → AHeap → Prop} (hsc : env.scope = (fdAt 60).scope)
    (hs : seqAt σ a = some l) (hz : l.length ≤ 16000000) (hlt : ∀ q ∈ l, LtAt (G w base os mb) (fun σ' => σ' = σ) (some (lt q)) x q) (hk : Cut lt l k) (hQ : Q (.int k) σ) :
    WS ⟨G w base os mb, ⟨n, true⟩, A, env⟩ (bdAt 60) (fun e st => X e st.2) (fun f st => Q (match f with | .ret p => p | _ => .none) st.2)
      ([(Str.ofString "a", .ref a), (Str.ofString "x", x), (Str.ofString "lo", .int 0), (Str.ofString "hi", .none), (Str.ofString "key", .none)], σ) := by
  refine S_seq ?_
  repeat walk_at "s1"
  refine ifQ_false ?_
  repeat walk_at "s1"
  refine len_seq hs (by omega) ?_
  repeat walk_at "s1"
  refine S_while (fun m st => ∃ (lo hi : Int), 0 ≤ lo ∧ lo ≤ k ∧ (k : Int) ≤ hi ∧ hi ≤ l.length ∧ (m : Int) = hi - lo ∧ 
    st = ([(Str.ofString "a", .ref a), (Str.ofString "x", x), (Str.ofString "lo", .int lo), (Str.ofString "hi", .int hi), (Str.ofString "key", .none)], σ)) l.length _ ⟨0, l.length, by omega, by omega, by have := hk.le; omega, by omega, by omega, rfl⟩ (St.le_refl _) ?_
  rintro m _ ⟨lo, hi, h0, h1, h2, h3, h4, rfl⟩
  repeat walk_at "s1"
  refine ⟨fun hb => ?_, fun hb => ?_⟩
  · have hb' : lo < hi := by simpa using hb
    repeat walk_at "s1"
    have hm : (lo + hi).fdiv 2 = (((lo + hi) / 2).toNat : Nat) := by rw [Int.fdiv_eq_ediv_of_nonneg _ (by omega)]; omega
    rw [hm]
    have hml : ((lo + hi) / 2).toNat < l.length := by omega
    have hg := List.getElem?_eq_getElem hml
    repeat walk_at "s1"
    refine get_list hs (by omega) (by rw [Int.toNat_natCast]; exact hg) (by omega) ?_
    refine hlt _ (List.getElem_mem hml) _ _ _ _ _ rfl rfl rfl ?_
    dsimp only
    repeat walk_at "s1"
    refine ifQ_dec (fun hb2 => ?_) (fun hb2 => ?_)
    · have hk2 : ¬ ((lo + hi) / 2).toNat < k := fun q => by have := hk.low _ _ q hg; rw [this] at hb2; cases hb2
      repeat walk_at "s1"
      exact loopQ_next (((lo + hi) / 2).toNat - lo.toNat) (by omega) ⟨lo, ((lo + hi) / 2).toNat, h0, h1, by omega, by omega, by omega, rfl⟩ (St.le_app (.refl _))
    · have hk2 : ¬ k ≤ ((lo + hi) / 2).toNat := fun q => by have := hk.high _ _ q hg; rw [this] at hb2; cases hb2
      repeat walk_at "s1"
      exact loopQ_next (hi.toNat - (((lo + hi) / 2).toNat + 1)) (by omega) ⟨((lo + hi) / 2).toNat + 1, hi, by omega, by omega, by omega, by omega, by omega, rfl⟩ (St.le_app (.refl _))
  · have hb' : ¬ lo < hi := by simpa using hb
    repeat walk_at "s1"
    have : lo = (k : Int) := by omega
    subst this
    exact hQ
theorem bisect_call2 (B : Bs (G w base os mb)) {n : Nat} {a : Addr} {l : List PV} {σ : AHeap} {x : PV} {lt : PV → Bool} {k : Nat} {X : String → AHeap → Prop} {Q : PV → AHeap → Prop}
    (hs : seqAt σ a = some l) (hz : l.length ≤ 16000000) (hlt : ∀ q ∈ l, LtAt (G w base os mb) (fun σ' => σ' = σ) (some (lt q)) x q) (hk : Cut lt l k) (hQ : Q (.int k) σ) :
    CallS (G w base os mb) ⟨n + 1, true⟩ (.ref 60) [.ref a, x] X Q σ := by
  refine call_bind (fd := fdAt 60) (body := bdAt 60) (kw := []) (ps := [.ref a, x, .int 0, .none, .none]) [Str.ofString "a", Str.ofString "x", Str.ofString "lo", Str.ofString "hi", Str.ofString "key"] B.gd (B.fn 60 (by simp)).get rfl rfl (B.fn 60 (by simp)).code rfl rfl rfl rfl rfl rfl (by decide) rfl ?_ (fun i => rfl) (fun i => rfl) ?_
  · intro A hid stk s vs ks E Q R hv hks hQ
    obtain ⟨v1, v2, rfl, h1, h2⟩ := hv.two
    obtain rfl := hks.nil_inv
    obtain ⟨m, hm, hkey⟩ := B.kw 53 (by simp)
    show wpAny _ _ (seqItems? (Value.ref 52) >>= _) _ _ s
    refine wpAny_bind (wpAny_seqItems (R.stays _ _ (B.ob 52 (by simp))) rfl ?_)
    show wpAny _ _ (((nsGet 53 (Str.ofString "key") >>= _) >>= _) >>= _) _ _ s
    refine wpAny_bind (wpAny_bind (wpAny_bind (wpAny_nsGet (hm.keeps R.stays) ?_)))
    rw [hkey]
    exact wpAny_pure (wpAny_pure (wpAny_pure (hQ [v1, v2, .int 0 246, .none, .none] s R (.refl _) (.cons h1 (.cons h2 (.cons (p := .int 0) ⟨_, rfl⟩ (.cons (p := .none) rfl (.cons (p := .none) rfl .nil))))))))
  intro c L hc hlv hsc hce hq hf
  obtain ⟨g, lv, A, env⟩ := c
  subst hc hlv
  exact bisect_body B hsc hs hz hlt hk hQ
theorem bisect_call4 (B : Bs (G w base os mb)) {n : Nat} {a : Addr} {l : List PV} {σ : AHeap} {x : PV} {lt : PV → Bool} {k : Nat} {X : String → AHeap → Prop} {Q : PV → AHeap → Prop}
    (hs : seqAt σ a = some l) (hz : l.length ≤ 16000000) (hlt : ∀ q ∈ l, LtAt (G w base os mb) (fun σ' => σ' = σ) (some (lt q)) x q) (hk : Cut lt l k) (hQ : Q (.int k) σ) :
    CallS (G w base os mb) ⟨n + 1, true⟩ (.ref 60) [.ref a, x, .int 0, .none] X Q σ := by
  refine call_bind (fd := fdAt 60) (body := bdAt 60) (kw := []) (ps := [.ref a, x, .int 0, .none, .none]) [Str.ofString "a", Str.ofString "x", Str.ofString "lo", Str.ofString "hi", Str.ofString "key"] B.gd (B.fn 60 (by simp)).get rfl rfl (B.fn 60 (by simp)).code rfl rfl rfl rfl rfl rfl (by decide) rfl ?_ (fun i => rfl) (fun i => rfl) ?_
  · intro A hid stk s vs ks E Q R hv hks hQ
    obtain ⟨v1, v2, v3, v4, rfl, h1, h2, h3, h4⟩ := hv.four
    obtain rfl := hks.nil_inv
    obtain ⟨m, hm, hkey⟩ := B.kw 53 (by simp)
    show wpAny _ _ (seqItems? (Value.ref 52) >>= _) _ _ s
    refine wpAny_bind (wpAny_seqItems (R.stays _ _ (B.ob 52 (by simp))) rfl ?_)
    show wpAny _ _ (((nsGet 53 (Str.ofString "key") >>= _) >>= _) >>= _) _ _ s
    refine wpAny_bind (wpAny_bind (wpAny_bind (wpAny_nsGet (hm.keeps R.stays) ?_)))
    rw [hkey]
    exact wpAny_pure (wpAny_pure (wpAny_pure (hQ [v1, v2, v3, v4, .none] s R (.refl _) (.cons h1 (.cons h2 (.cons h3 (.cons h4 (.cons (p := .none) rfl .nil))))))))
  intro c L hc hlv hsc hce hq hf
  obtain ⟨g, lv, A, env⟩ := c
  subst hc hlv
  exact bisect_body B hsc hs hz hlt hk hQ
theorem insort_call2 (B : Bs (G w base os mb)) {n : Nat} {a : Addr} {l : List PV} {σ : AHeap} {x : PV} {lt : PV → Bool} {k : Nat} {X : String → AHeap → Prop} {Q : PV → AHeap → Prop}
    (hs : σ a = some (.list l)) (hz : l.length ≤ 15000000) (hlt : ∀ q ∈ l, LtAt (G w base os mb) (fun σ' => σ' = σ) (some (lt q)) x q) (hk : Cut lt l k) (hQ : Q .none (σ.set a (.list (l.take k ++ x :: l.drop k)))) :
    CallS (G w base os mb) ⟨n + 2, true⟩ (.ref 51) [.ref a, x] X Q σ := by
  refine call_bind (fd := fdAt 51) (body := bdAt 51) (kw := []) (ps := [.ref a, x, .int 0, .none, .none]) [Str.ofString "a", Str.ofString "x", Str.ofString "lo", Str.ofString "hi", Str.ofString "key"] B.gd (B.fn 51 (by simp)).get rfl rfl (B.fn 51 (by simp)).code rfl rfl rfl rfl rfl rfl (by decide) rfl ?_ (fun i => rfl) (fun i => rfl) ?_
  · intro A hid stk s vs ks E Q R hv hks hQ
    obtain ⟨v1, v2, rfl, h1, h2⟩ := hv.two
    obtain rfl := hks.nil_inv
    obtain ⟨m, hm, hkey⟩ := B.kw 44 (by simp)
    show wpAny _ _ (seqItems? (Value.ref 43) >>= _) _ _ s
    refine wpAny_bind (wpAny_seqItems (R.stays _ _ (B.ob 43 (by simp))) rfl ?_)
    show wpAny _ _ (((nsGet 44 (Str.ofString "key") >>= _) >>= _) >>= _) _ _ s
    refine wpAny_bind (wpAny_bind (wpAny_bind (wpAny_nsGet (hm.keeps R.stays) ?_)))
    rw [hkey]
    exact wpAny_pure (wpAny_pure (wpAny_pure (hQ [v1, v2, .int 0 233, .none, .none] s R (.refl _) (.cons h1 (.cons h2 (.cons (p := .int 0) ⟨_, rfl⟩ (.cons (p := .none) rfl (.cons (p := .none) rfl .nil))))))))
  intro c L hc hlv hsc hce hq hf
  obtain ⟨g, lv, A, env⟩ := c
  subst hc hlv
  show WS _ (bdAt 51) _ _ ([(Str.ofString "a", .ref a), (Str.ofString "x", x), (Str.ofString "lo", .int 0), (Str.ofString "hi", .none), (Str.ofString "key", .none)], σ)
  refine S_seq ?_
  repeat walk_at "s1"
  refine WN_call ?_
  refine bisect_call4 B (seq_of hs) (by omega) hlt hk ?_
  repeat walk_at "s1"
  refine insert_list hs (by omega) (by have := hk.le; omega) (by omega) ?_
  rw [Int.toNat_natCast]
  exact hQ

theorem is_own_base {c : Cx} {X : String → St → Prop} {μ : Locals} {σ : AHeap} {a b : Addr} {l : List PV} {ob : Obj} {Q : PV → St → Prop} (ha : σ a = some (.list l)) (hb : c.base.get? b = some ob) (h : Q (.bool false) (μ, σ)) : W2 c VRep (.ref a) (.ref b) (compareOp .Is) X Q (μ, σ) := fun v u hid stk s ok R hv hu =>
  is_list_base (seq_of ha) hb (fun e => by have := (R.heap _ _ ha).1; rw [e, hb] at this; cases this) h v u hid stk s ok R hv hu
/-- reduce: a def f of two arguments, from v on over the items -/
theorem reduce_call (B : Bs (G w base os mb)) {n : Nat} {f ob : Addr} {fo : Obj} {ffd : FuncData} {l : List PV} {z : Addr} {zl : List PV} {σ : AHeap} {X : String → AHeap → Prop} {Q : PV → AHeap → Prop}
    (hfo : base.get? f = some fo) (hfd : fo.data = .func ffd)
    (hs : seqAt σ ob = some l) (hz : σ z = some (.list zl))
    (I : Nat → PV → AHeap → Prop) (h0 : I 0 (.ref z) σ) (hkeep : ∀ k v σ', I k v σ' → seqAt σ' ob = some l)
    (hstep : ∀ k p v σ', l[k]? = some p → I k v σ' → CallS (G w base os mb) ⟨n, true⟩ (.ref f) [v, p] X (fun v' σ'' => I (k + 1) v' σ'') σ')
    (hQ : ∀ v σ', I l.length v σ' → Q v σ') :
    CallS (G w base os mb) ⟨n + 1, true⟩ (.ref 69) [.ref f, .ref ob, .ref z] X Q σ := by
  refine call_bind (fd := fdAt 69) (body := bdAt 69) (kw := []) (ps := [.ref f, .ref ob, .ref z]) [Str.ofString "function", Str.ofString "sequence", Str.ofString "initial"] B.gd (B.fn 69 (by simp)).get rfl rfl (B.fn 69 (by simp)).code rfl rfl rfl rfl rfl rfl (by decide) rfl ?_ (fun i => rfl) (fun i => rfl) ?_
  · intro A hid stk s vs ks E Q R hv hks hQ
    obtain ⟨v1, v2, v3, rfl, h1, h2, h3⟩ := hv.three
    obtain rfl := hks.nil_inv
    show wpAny _ _ (seqItems? (Value.ref 62) >>= _) _ _ s
    refine wpAny_bind (wpAny_seqItems (R.stays _ _ (B.ob 62 (by simp))) rfl ?_)
    exact wpAny_pure (hQ [v1, v2, v3] s R (.refl _) (.cons h1 (.cons h2 (.cons h3 .nil))))
  intro c L hc hlv hsc hce hq hf
  obtain ⟨g, lv, A, env⟩ := c
  subst hc hlv
  show WS _ (bdAt 69) _ _ ([(Str.ofString "function", .ref f), (Str.ofString "sequence", .ref ob), (Str.ofString "initial", .ref z)], σ)
  refine S_seq ?_
  repeat walk_at "s1"
  refine call_iter hs fun it oi hoi hit => ?_
  repeat walk_at "s1"
  refine is_own_base (at_set_fresh hit hz) (B.ob 61 (by simp)) ?_
  repeat walk_at "s1"
  refine S_forI rfl (fun k st => ∃ v σ', I k v σ' ∧ st = ([(Str.ofString "function", .ref f), (Str.ofString "sequence", .ref ob), (Str.ofString "initial", .ref z), (Str.ofString "it", .ref it), (Str.ofString "value", v)], σ')) (WI_of' ?_) (fun x => rfl)
  repeat walk_at "s1"
  refine ⟨l, _, _, it_iter (a := ob) hoi at_set_same, ?_⟩
  rw [AHeap.drop_set hit]
  refine ⟨_, ⟨_, _, h0, rfl⟩, St.le_refl _, ?_, ?_, ?_⟩
  · rintro k _ ⟨v, σ', hI, rfl⟩; exact hkeep k v σ' hI
  · rintro k p _ hp ⟨v, σ', hI, rfl⟩
    refine Asg_local (by walk_at "kd") ?_
    repeat walk_at "s1"
    refine E_Call ?_ rfl rfl rfl
    repeat walk_at "s1"
    refine ⟨⟨_, _, hfo, hfd⟩, ?_⟩
    repeat walk_at "s1"
    refine WN_call ?_
    refine CallK.mono (hstep k p v σ' hp hI) (fun e σ h => h) fun v' σ'' h => ?_
    repeat walk_at "s1"
    exact forQ_next ⟨v', σ'', h, rfl⟩ (St.le_app (.refl _))
  · rintro _ ⟨v, σ', hI, rfl⟩
    repeat walk_at "s1"
    exact hQ v σ' hI

end Mine
end
section
open PySem PySem.W
set_option Elab.async false
set_option linter.unusedVariables false
set_option maxRecDepth 100000
namespace Mine
-- an object of the state
local macro_rules | `(tactic| walk_at "hp") => `(tactic| first | assumption | exact at_set_same | (refine at_set_ne ?_ ?_; (first | assumption | (apply Ne.symm; assumption)); walk_at "hp") | (refine at_set_fresh (by assumption) ?_; walk_at "hp"))
set_option hygiene false in
local macro_rules | `(tactic| walk_at "kd") => `(tactic| first | (rw [hsc]; rfl) | (rw [hsc', relabel_of hsc]; rfl))
set_option hygiene false in
local macro_rules | `(tactic| walk_at "ce") => `(tactic| first | (rw [hce]; rfl) | (rw [hce']; rfl))
set_option hygiene false in
local macro_rules | `(tactic| walk_at "s1") => `(tactic| with_reducible first
  | refine seqQ_next ?_
  | refine seqQ_brk ?_
  | refine seqQ_cont ?_
  | refine seqQ_ret ?_
  | refine loopQ_brk ?_
  | refine loopQ_ret ?_
  | refine forQ_brk ?_
  | refine forQ_ret ?_
  | refine S_last ?_
  | refine S_seq ?_
  | refine S_nil ?_
  | (refine S_Assign ?_ ?h1; (case h1 => with_unfolding_all exact rfl))
  | (refine S_AssignSub ?_ ?h1; (case h1 => with_unfolding_all exact rfl))
  | refine S_if ?_
  | refine S_Return ?_
  | refine S_Break ?_
  | refine S_Continue ?_
  | (refine S_Expr ?_ ?h1 ?h2; (case h1 => with_unfolding_all (unfold PySem.interactive; walk_at "kd")); (case h2 => with_unfolding_all exact rfl))
  | (refine' W1_store ?h1 ?_; (case h1 => with_unfolding_all walk_at "kd"))
  | (refine' E_local ?h1 ?h2 ?_ ?h3; (case h1 => with_unfolding_all walk_at "kd"); (case h2 => with_unfolding_all exact rfl); (case h3 => with_unfolding_all exact rfl))
  | (refine' E_cell ?h1 ?h2 ?h3 ?_ ?h4; (case h1 => with_unfolding_all walk_at "kd"); (case h2 => with_unfolding_all walk_at "ce"); (case h3 => walk_at "hp"); (case h4 => with_unfolding_all exact rfl))
  | (refine' E_free ?h1 ?h2 ?h3 ?_ ?h4 ?h5; (case h1 => with_unfolding_all walk_at "kd"); (case h2 => with_unfolding_all walk_at "ce"); (case h3 => walk_at "hp"); (case h4 => with_unfolding_all exact rfl); (case h5 => with_unfolding_all exact rfl))
  | (refine' E_global B.gd ?h1 ?h2 ?h3 ?_ ?h4; (case h1 => with_unfolding_all walk_at "kd"); (case h2 => with_unfolding_all exact rfl); (case h3 => with_unfolding_all exact rfl); (case h4 => with_unfolding_all exact rfl))
  | refine E_int ?_
  | refine E_none ?_
  | refine E_BinOp ?_
  | refine E_ifE ?_
  | refine ifE_true ?_
  | refine ifE_false ?_
  | refine storeAll_cons ?_
  | refine storeAll_nil ?_
  | refine E_Slice ?_
  | refine Part_none ?_
  | refine Part_some ?_
  | refine E_bool ?_
  | (refine E_Subscript ?_ ?h1; (case h1 => with_unfolding_all exact rfl))
  | (refine C_Compare ?_ ?h1; (case h1 => with_unfolding_all exact rfl))
  | refine C_Not ?_
  | refine C_BoolOp ?_
  | refine truthy_b ?_
  | refine bin_add ?_
  | refine bin_sub ?_
  | (refine bin_shr ?h1 ?_; (case h1 => with_unfolding_all decide))
  | refine cmp_lt ?_
  | (refine bin_mul ?_ ?h1; (case h1 => exact mulOk2))
  | refine And_last ?_
  | refine And_step ?_
  | refine Or_last ?_
  | refine Or_step ?_
  | refine andQ_true ?_
  | refine andQ_false ?_
  | refine orQ_true ?_
  | refine orQ_false ?_
  | refine ifQ_true ?_
  | refine ifQ_false ?_
  | (refine' E_CallG B.gd ?h1 ?h2 ?h3 ?h4 ?_ ?h5 ?h6 ?h7 ?h8; (case h1 => with_unfolding_all walk_at "kd"); (case h2 => with_unfolding_all exact rfl); (case h3 => exact (B.fn _ (by simp)).get); (case h4 => with_unfolding_all exact rfl); (case h5 => with_unfolding_all exact rfl); (case h6 => with_unfolding_all exact rfl); (case h7 => with_unfolding_all exact rfl); (case h8 => with_unfolding_all exact rfl))
  | (refine' E_CallB B.gd ?h1 ?h2 ?h3 ?h4 ?_ ?h5 ?h6 ?h7 ?h8; (case h1 => with_unfolding_all walk_at "kd"); (case h2 => with_unfolding_all exact rfl); (case h3 => decide); (case h4 => with_unfolding_all exact rfl); (case h5 => with_unfolding_all exact rfl); (case h6 => with_unfolding_all exact rfl); (case h7 => with_unfolding_all exact rfl); (case h8 => with_unfolding_all exact rfl))
  | (refine' E_CallT B.gd ?h1 ?h2 ?h3 ?h4 ?_ ?h5 ?h6 ?h7 ?h8; (case h1 => with_unfolding_all walk_at "kd"); (case h2 => with_unfolding_all exact rfl); (case h3 => decide); (case h4 => with_unfolding_all exact rfl); (case h5 => with_unfolding_all exact rfl); (case h6 => with_unfolding_all exact rfl); (case h7 => with_unfolding_all exact rfl); (case h8 => with_unfolding_all exact rfl))
  | refine cmp_gt ?_
  | refine cmp_le ?_
  | refine cmp_ge ?_
  | refine is_none_n ?_
  | refine is_none_r ?_
  | refine is_none_i ?_
  | refine is_none_t ?_
  | refine isNot_none_n ?_
  | refine isNot_none_r ?_
  | refine isNot_none_i ?_
  | refine isNot_none_t ?_
  | refine Ifs_one ?_
  | refine Ifs_nil ?_
  | refine cmp_ne ?_
  | refine cmp_eq ?_
  | (refine bin_floordiv ?h1 ?h2 ?_; (case h1 => with_unfolding_all decide); (case h2 => with_unfolding_all decide))
  | refine E_List ?_
  | refine And.intro ⟨_, _, rfl, seq_of (by with_unfolding_all walk_at "hp")⟩ ?_
  | (refine' E_MethList (id := "list.append") F.slot_list_append F.type_list_append ?_ ?h1 ?h2 ?h3 ?h4 ?h5; (case h1 => with_unfolding_all exact rfl); (case h2 => with_unfolding_all exact rfl); (case h3 => with_unfolding_all exact rfl); (case h4 => with_unfolding_all exact rfl); (case h5 => with_unfolding_all exact rfl))
  | (refine' E_MethList0 (id := "list.pop") F.slot_list_pop F.type_list_pop ?_ ?h1 ?h2; (case h1 => with_unfolding_all exact rfl); (case h2 => with_unfolding_all exact rfl))
  | (refine' E_MethList (id := "list.insert") F.slot_list_insert F.type_list_insert ?_ ?h1 ?h2 ?h3 ?h4 ?h5; (case h1 => with_unfolding_all exact rfl); (case h2 => with_unfolding_all exact rfl); (case h3 => with_unfolding_all exact rfl); (case h4 => with_unfolding_all exact rfl); (case h5 => with_unfolding_all exact rfl))
  | (refine' E_MethList (id := "list.extend") F.slot_list_extend F.type_list_extend ?_ ?h1 ?h2 ?h3 ?h4 ?h5; (case h1 => with_unfolding_all exact rfl); (case h2 => with_unfolding_all exact rfl); (case h3 => with_unfolding_all exact rfl); (case h4 => with_unfolding_all exact rfl); (case h5 => with_unfolding_all exact rfl))
  | (refine' E_MethList (id := "list.pop") F.slot_list_pop F.type_list_pop ?_ ?h1 ?h2 ?h3 ?h4 ?h5; (case h1 => with_unfolding_all exact rfl); (case h2 => with_unfolding_all exact rfl); (case h3 => with_unfolding_all exact rfl); (case h4 => with_unfolding_all exact rfl); (case h5 => with_unfolding_all exact rfl))
  | (refine C_value ?_ ?h1; (case h1 => with_unfolding_all exact rfl))
  | refine truthy_i ?_
  | (refine E_Tuple ?_)
  | (refine S_AssignTup ?_ ?h1 ?h2; (case h1 => with_unfolding_all exact rfl); (case h2 => with_unfolding_all exact swapped_of hsc rfl))
  | (refine Asg_Tuple rfl ?_ ?h1 ?h2 ?h3; (case h1 => with_unfolding_all exact rfl); (case h2 => with_unfolding_all exact rfl); (case h3 => with_unfolding_all exact rfl))
  | refine asgAll_cons ?_
  | refine asgAll_nil ?_
  | (refine' Asg_local ?h1 ?_; (case h1 => with_unfolding_all walk_at "kd"))
  | refine Asg_Sub ?_
  | refine A_nil ?_
  | (refine A_cons ?_ ?h1; (case h1 => with_unfolding_all exact rfl)))


variable {w : World} {base : Heap} {os : OsState} {mb : Str → Option Value}
/-- what is kept in a heap -/
structure Kind (G : Gx) (α : Type) where
  f : α → PV
  lt : α → α → Bool
  d : α
  inj : ∀ a b, f a = f b → a = b
  tot : LtTot lt
  irr : ∀ a, lt a a = false
  at' : ∀ S a b, LtAt G S (some (lt a b)) (f a) (f b)
section
variable {α : Type} [DecidableEq α]
open Classical in
noncomputable def Kind.ltP {G : Gx} (K : Kind G α) (p q : PV) : Bool := decide (∃ a b, p = K.f a ∧ q = K.f b ∧ K.lt a b = true)
open Classical in
theorem Kind.ltP_eq {G : Gx} (K : Kind G α) (a b : α) : K.ltP (K.f a) (K.f b) = K.lt a b := by
  unfold Kind.ltP
  rw [Bool.eq_iff_iff]
  simp only [decide_eq_true_eq]
  constructor
  · rintro ⟨x, y, h1, h2, h3⟩; rw [K.inj _ _ h1, K.inj _ _ h2]; exact h3
  · exact fun h => ⟨a, b, rfl, rfl, h⟩
def Kind.D {G : Gx} (K : Kind G α) (p : PV) : Prop := ∃ a, p = K.f a
theorem Kind.ltAt {G : Gx} (K : Kind G α) {S : AHeap → Prop} : ∀ p q, K.D p → K.D q → LtAt G S (some (K.ltP p q)) p q := by
  rintro _ _ ⟨i, rfl⟩ ⟨j, rfl⟩; rw [K.ltP_eq]; exact K.at' S i j
theorem Kind.all {G : Gx} (K : Kind G α) {l : List α} : ∀ q ∈ l.map K.f, K.D q := fun q hq => by
  obtain ⟨i, _, rfl⟩ := List.mem_map.mp hq; exact ⟨i, rfl⟩
theorem Kind.sdnP {G : Gx} (K : Kind G α) {x : α} {pos : Nat} {l : List α} (h : pos < l.length) : Mine.sdnP (fun q => some (K.ltP (K.f x) q)) (K.f K.d) (K.f x) pos (l.map K.f) = .ok ((sdnB K.lt K.d x pos l).map K.f) := by
  rw [sdnP_ok (lt := K.ltP) (fun _ => True) (fun q _ => rfl) _ _ (by simpa using h) (fun _ _ _ _ => trivial), sdnB_map K.ltP_eq]
theorem min_top {G : Gx} (K : Kind G α) {r : α} {t : List α} (h : IsHeap K.lt K.d (r :: t)) : ∀ q ∈ r :: t, K.lt q r = false := fun q hq => by
  obtain ⟨i, hi, rfl⟩ := List.getElem_of_mem hq
  have := h.min K.tot K.irr i hi
  have e : (r :: t).getD i K.d = (r :: t)[i] := by rw [List.getD_eq_getElem?_getD, List.getElem?_eq_getElem hi]; rfl
  rw [e] at this
  exact this
theorem pushK {n : Nat} {a : Addr} {σ : AHeap} {X : String → AHeap → Prop} {Q : PV → AHeap → Prop} (B : Bs (G w base os mb)) (K : Kind (G w base os mb) α) {x : α} {l : List α} (hh : σ a = some (.list (l.map K.f))) (hz : l.length ≤ 15000000) (hp : IsHeap K.lt K.d l)
    (hQ : ∀ l', IsHeap K.lt K.d l' → l'.Perm (x :: l) → Q .none (σ.set a (.list (l'.map K.f)))) :
    CallS (G w base os mb) ⟨n + 2, true⟩ (.ref 21) [.ref a, K.f x] X Q σ := by
  have e : Mine.sdnP (fun q => some (K.ltP (K.f x) q)) (K.f K.d) (K.f x) (l.map K.f).length (l.map K.f ++ [K.f x]) = .ok ((sdnB K.lt K.d x l.length (l ++ [x])).map K.f) := by
    have := K.sdnP (x := x) (pos := l.length) (l := l ++ [x]) (by simp)
    rw [List.map_append] at this
    rw [List.length_map]; exact this
  refine heappush_call B (d := K.f K.d) (ltx := fun q => some (K.ltP (K.f x) q)) K.D hh (by simpa using hz) K.all (fun q hq => K.ltAt _ _ ⟨x, rfl⟩ hq) (fun l' h => ?_) (fun l' h => ?_)
  · rw [e] at h; cases h
  · rw [e] at h; cases h; exact hQ _ (push_heap K.tot hp) (push_perm.trans List.perm_append_comm)
theorem popK {n : Nat} {a : Addr} {σ : AHeap} {X : String → AHeap → Prop} {Q : PV → AHeap → Prop} (B : Bs (G w base os mb)) (K : Kind (G w base os mb) α) {l : List α} (hh : σ a = some (.list (l.map K.f))) (hz : l.length ≤ 15000000) (hp : IsHeap K.lt K.d l)
    (h0 : l = [] → X "IndexError" σ) (hQ : ∀ r l', IsHeap K.lt K.d l' → l.Perm (r :: l') → (∀ q ∈ l, K.lt q r = false) → Q (K.f r) (σ.set a (.list (l'.map K.f)))) :
    CallS (G w base os mb) ⟨n + 3, true⟩ (.ref 28) [.ref a] X Q σ := by
  refine heappop_call B (d := K.f K.d) (ltb := K.ltP) K.D hh (by simpa using hz) K.all K.ltAt (fun h => ?_) (fun x h => ?_) (fun r m x h => ?_)
  · cases l with
    | nil => exact h0 rfl
    | cons r t => cases h
  · match l, h, hp with
    | [y], h, hp => cases h; exact hQ y [] (by intro k k0 kl; simp at kl) (.refl _) (min_top K hp)
  · rcases List.eq_nil_or_concat l with e | ⟨l', y, e⟩
    · subst e; cases h
    · rw [List.concat_eq_append] at e
      subst e
      rw [List.map_append] at h
      obtain ⟨e1, e2⟩ := List.append_inj' h rfl
      cases e2
      cases l' with
      | nil => cases e1
      | cons r' m' =>
        cases e1
        have hh' : IsHeap K.lt K.d (r' :: m') := fun k k0 kl => by
          have := hp k k0 (by simp at kl ⊢; omega)
          have e1 : ((r' :: m') ++ [y]).getD k K.d = (r' :: m').getD k K.d := by simp only [List.getD_eq_getElem?_getD]; rw [List.getElem?_append_left kl]
          have e2 : ((r' :: m') ++ [y]).getD ((k - 1) / 2) K.d = (r' :: m').getD ((k - 1) / 2) K.d := by simp only [List.getD_eq_getElem?_getD]; rw [List.getElem?_append_left (by omega)]
          rw [e1, e2] at this; exact this
        have := hQ r' (topB K.lt K.d y ((r' :: m').set 0 y)) (topB_heap K.tot (by simp) (hh'.hole0.set)) ?_ (min_top K hp)
        · have e3 : (K.f r' :: List.map K.f m').set 0 (K.f y) = ((r' :: m').set 0 y).map K.f := by simp
          have e4 := topB_map (f := K.f) (lt := K.lt) (lt' := K.ltP) (d := K.d) K.ltP_eq y ((r' :: m').set 0 y)
          rw [e3, e4]; exact this
        · refine List.Perm.trans ?_ ((topB_perm (lt := K.lt) (d := K.d) (x := y) (l := (r' :: m').set 0 y) (by simp)).symm.cons r')
          simp only [List.set_cons_zero, List.cons_append]
          exact List.Perm.cons _ List.perm_append_comm
end

end Mine
end
section
open PySem PySem.W
set_option Elab.async false
set_option linter.unusedVariables false
set_option maxRecDepth 100000
namespace Mine
-- an object of the state
local macro_rules | `(tactic| walk_at "hp") => `(tactic| first | assumption | exact at_set_same | (refine at_set_ne ?_ ?_; (first | assumption | (apply Ne.symm; assumption)); walk_at "hp") | (refine at_set_fresh (by assumption) ?_; walk_at "hp"))
set_option hygiene false in
local macro_rules | `(tactic| walk_at "kd") => `(tactic| first | (rw [hsc]; rfl) | (rw [hsc', relabel_of hsc]; rfl))
set_option hygiene false in
local macro_rules | `(tactic| walk_at "ce") => `(tactic| first | (rw [hce]; rfl) | (rw [hce']; rfl))
set_option hygiene false in
local macro_rules | `(tactic| walk_at "s1") => `(tactic| with_reducible first
  | refine seqQ_next ?_
  | refine seqQ_brk ?_
  | refine seqQ_cont ?_
  | refine seqQ_ret ?_
  | refine loopQ_brk ?_
  | refine loopQ_ret ?_
  | refine forQ_brk ?_
  | refine forQ_ret ?_
  | refine S_last ?_
  | refine S_seq ?_
  | refine S_nil ?_
  | (refine S_Assign ?_ ?h1; (case h1 => with_unfolding_all exact rfl))
  | (refine S_AssignSub ?_ ?h1; (case h1 => with_unfolding_all exact rfl))
  | refine S_if ?_
  | refine S_Return ?_
  | refine S_Break ?_
  | refine S_Continue ?_
  | (refine S_Expr ?_ ?h1 ?h2; (case h1 => with_unfolding_all (unfold PySem.interactive; walk_at "kd")); (case h2 => with_unfolding_all exact rfl))
  | (refine' W1_store ?h1 ?_; (case h1 => with_unfolding_all walk_at "kd"))
  | (refine' E_local ?h1 ?h2 ?_ ?h3; (case h1 => with_unfolding_all walk_at "kd"); (case h2 => with_unfolding_all exact rfl); (case h3 => with_unfolding_all exact rfl))
  | (refine' E_cell ?h1 ?h2 ?h3 ?_ ?h4; (case h1 => with_unfolding_all walk_at "kd"); (case h2 => with_unfolding_all walk_at "ce"); (case h3 => walk_at "hp"); (case h4 => with_unfolding_all exact rfl))
  | (refine' E_free ?h1 ?h2 ?h3 ?_ ?h4 ?h5; (case h1 => with_unfolding_all walk_at "kd"); (case h2 => with_unfolding_all walk_at "ce"); (case h3 => walk_at "hp"); (case h4 => with_unfolding_all exact rfl); (case h5 => with_unfolding_all exact rfl))
  | (refine' E_global B.gd ?h1 ?h2 ?h3 ?_ ?h4; (case h1 => with_unfolding_all walk_at "kd"); (case h2 => with_unfolding_all exact rfl); (case h3 => with_unfolding_all exact rfl); (case h4 => with_unfolding_all exact rfl))
  | refine E_int ?_
  | refine E_none ?_
  | refine E_BinOp ?_
  | refine E_ifE ?_
  | refine ifE_true ?_
  | refine ifE_false ?_
  | refine storeAll_cons ?_
  | refine storeAll_nil ?_
  | refine E_Slice ?_
  | refine Part_none ?_
  | refine Part_some ?_
  | refine E_bool ?_
  | (refine E_Subscript ?_ ?h1; (case h1 => with_unfolding_all exact rfl))
  | (refine C_Compare ?_ ?h1; (case h1 => with_unfolding_all exact rfl))
  | refine C_Not ?_
  | refine C_BoolOp ?_
  | refine truthy_b ?_
  | refine bin_add ?_
  | refine bin_sub ?_
  | (refine bin_shr ?h1 ?_; (case h1 => with_unfolding_all decide))
  | refine cmp_lt ?_
  | (refine bin_mul ?_ ?h1; (case h1 => exact mulOk2))
  | refine And_last ?_
  | refine And_step ?_
  | refine Or_last ?_
  | refine Or_step ?_
  | refine andQ_true ?_
  | refine andQ_false ?_
  | refine orQ_true ?_
  | refine orQ_false ?_
  | refine ifQ_true ?_
  | refine ifQ_false ?_
  | (refine' E_CallG B.gd ?h1 ?h2 ?h3 ?h4 ?_ ?h5 ?h6 ?h7 ?h8; (case h1 => with_unfolding_all walk_at "kd"); (case h2 => with_unfolding_all exact rfl); (case h3 => exact (B.fn _ (by simp)).get); (case h4 => with_unfolding_all exact rfl); (case h5 => with_unfolding_all exact rfl); (case h6 => with_unfolding_all exact rfl); (case h7 => with_unfolding_all exact rfl); (case h8 => with_unfolding_all exact rfl))
  | (refine' E_CallB B.gd ?h1 ?h2 ?h3 ?h4 ?_ ?h5 ?h6 ?h7 ?h8; (case h1 => with_unfolding_all walk_at "kd"); (case h2 => with_unfolding_all exact rfl); (case h3 => decide); (case h4 => with_unfolding_all exact rfl); (case h5 => with_unfolding_all exact rfl); (case h6 => with_unfolding_all exact rfl); (case h7 => with_unfolding_all exact rfl); (case h8 => with_unfolding_all exact rfl))
  | (refine' E_CallT B.gd ?h1 ?h2 ?h3 ?h4 ?_ ?h5 ?h6 ?h7 ?h8; (case h1 => with_unfolding_all walk_at "kd"); (case h2 => with_unfolding_all exact rfl); (case h3 => decide); (case h4 => with_unfolding_all exact rfl); (case h5 => with_unfolding_all exact rfl); (case h6 => with_unfolding_all exact rfl); (case h7 => with_unfolding_all exact rfl); (case h8 => with_unfolding_all exact rfl))
  | refine cmp_gt ?_
  | refine cmp_le ?_
  | refine cmp_ge ?_
  | refine is_none_n ?_
  | refine is_none_r ?_
  | refine is_none_i ?_
  | refine is_none_t ?_
  | refine isNot_none_n ?_
  | refine isNot_none_r ?_
  | refine isNot_none_i ?_
  | refine isNot_none_t ?_
  | refine Ifs_one ?_
  | refine Ifs_nil ?_
  | refine cmp_ne ?_
  | refine cmp_eq ?_
  | (refine bin_floordiv ?h1 ?h2 ?_; (case h1 => with_unfolding_all decide); (case h2 => with_unfolding_all decide))
  | refine E_List ?_
  | refine And.intro ⟨_, _, rfl, seq_of (by with_unfolding_all walk_at "hp")⟩ ?_
  | (refine' E_MethList (id := "list.append") F.slot_list_append F.type_list_append ?_ ?h1 ?h2 ?h3 ?h4 ?h5; (case h1 => with_unfolding_all exact rfl); (case h2 => with_unfolding_all exact rfl); (case h3 => with_unfolding_all exact rfl); (case h4 => with_unfolding_all exact rfl); (case h5 => with_unfolding_all exact rfl))
  | (refine' E_MethList0 (id := "list.pop") F.slot_list_pop F.type_list_pop ?_ ?h1 ?h2; (case h1 => with_unfolding_all exact rfl); (case h2 => with_unfolding_all exact rfl))
  | (refine' E_MethList (id := "list.insert") F.slot_list_insert F.type_list_insert ?_ ?h1 ?h2 ?h3 ?h4 ?h5; (case h1 => with_unfolding_all exact rfl); (case h2 => with_unfolding_all exact rfl); (case h3 => with_unfolding_all exact rfl); (case h4 => with_unfolding_all exact rfl); (case h5 => with_unfolding_all exact rfl))
  | (refine' E_MethList (id := "list.extend") F.slot_list_extend F.type_list_extend ?_ ?h1 ?h2 ?h3 ?h4 ?h5; (case h1 => with_unfolding_all exact rfl); (case h2 => with_unfolding_all exact rfl); (case h3 => with_unfolding_all exact rfl); (case h4 => with_unfolding_all exact rfl); (case h5 => with_unfolding_all exact rfl))
  | (refine' E_MethList (id := "list.pop") F.slot_list_pop F.type_list_pop ?_ ?h1 ?h2 ?h3 ?h4 ?h5; (case h1 => with_unfolding_all exact rfl); (case h2 => with_unfolding_all exact rfl); (case h3 => with_unfolding_all exact rfl); (case h4 => with_unfolding_all exact rfl); (case h5 => with_unfolding_all exact rfl))
  | (refine C_value ?_ ?h1; (case h1 => with_unfolding_all exact rfl))
  | refine truthy_i ?_
  | (refine E_Tuple ?_)
  | (refine S_AssignTup ?_ ?h1 ?h2; (case h1 => with_unfolding_all exact rfl); (case h2 => with_unfolding_all exact swapped_of hsc rfl))
  | (refine Asg_Tuple rfl ?_ ?h1 ?h2 ?h3; (case h1 => with_unfolding_all exact rfl); (case h2 => with_unfolding_all exact rfl); (case h3 => with_unfolding_all exact rfl))
  | refine asgAll_cons ?_
  | refine asgAll_nil ?_
  | (refine' Asg_local ?h1 ?_; (case h1 => with_unfolding_all walk_at "kd"))
  | refine Asg_Sub ?_
  | refine A_nil ?_
  | (refine A_cons ?_ ?h1; (case h1 => with_unfolding_all exact rfl)))


variable {w : World} {base : Heap} {os : OsState} {mb : Str → Option Value}
def wyP (y : Wy) : PV := .tup [.int (y.a : Int), .int (y.b : Int), .int (y.c : Int), .int (y.h : Int)]

theorem intL_len (l : List Int) : (intL l).length = l.length := List.length_map ..
theorem seq_sub {σ τ : AHeap} {a : Addr} {l : List PV} (h : σ.Sub τ) (hs : seqAt σ a = some l) : seqAt τ a = some l := by
  unfold seqAt at hs ⊢
  cases q : σ a with
  | none => rw [q] at hs; cases hs
  | some o => rw [q] at hs; rw [h _ _ q]; exact hs
theorem fresh_sub {σ τ : AHeap} {a : Addr} (h : σ.Sub τ) (ha : τ a = none) : σ a = none := by
  cases q : σ a with
  | none => rfl
  | some o => rw [h _ _ q] at ha; cases ha
theorem abs_nat (c : Int) : (if c < 0 then -c else c) = (c.natAbs : Int) := by split <;> omega
theorem mod5 (a : Int) : ∃ k : Nat, k < 5 ∧ a.fmod 5 = k := by
  have h1 := Int.fmod_nonneg_of_pos a (b := 5) (by decide)
  have h2 := Int.fmod_lt_of_pos a (b := 5) (by decide)
  exact ⟨(a.fmod 5).toNat, by omega, by omega⟩
theorem four_of {l : List Int} (h : l.length = 4) : ∃ a b c d, l = [a, b, c, d] := by
  match l, h with
  | [a, b, c, d], _ => exact ⟨a, b, c, d, rfl⟩

theorem small4 : ∀ m : Fin 64, Builtin.Range.small 0 (m.val : Int) 4 = true := by decide +kernel

theorem ways_call (B : Bs (G w base os mb)) {n : Nat} {sc : Addr} {ns : List Int} {σ : AHeap} {X : String → AHeap → Prop} {Q : PV → AHeap → Prop} (hs : seqAt σ sc = some (intL ns)) (hz : ns.length ≤ 63)
    (hQ : ∀ ys a σ', WyOk ys → ys.length ≤ 18 → σ.Sub σ' → σ a = none → σ' a = some (.list (ys.map wyP)) → Q (.ref a) σ') :
    CallS (G w base os mb) ⟨n + 1, true⟩ (.ref 76) [.ref sc] X Q σ := by
  refine call_def (fd := fdAt 76) (body := bdAt 76) [Str.ofString "script"] B.gd (B.fn 76 (by simp)).get rfl rfl (B.fn 76 (by simp)).code rfl rfl rfl rfl rfl rfl (by decide) rfl (fun vs hv => ?_) (fun i => rfl) (fun i => rfl) ?_
  · match vs, hv with
    | [v1], _ => rfl
  intro c L hc hlv hsc hce hq hf
  obtain ⟨g, lv, A, env⟩ := c
  subst hc hlv
  show WS _ (bdAt 76) _ _ ([(Str.ofString "script", .ref sc)], σ)
  refine S_seq ?_
  repeat walk_at "s1"
  refine ⟨by simp, ?_⟩
  repeat walk_at "s1"
  refine ⟨by simp, ?_⟩
  repeat walk_at "s1"
  refine ⟨by simp, fun wA hwA => ?_⟩
  repeat walk_at "s1"
  refine S_for rfl (fun k st => ∃ τ ys, st = ([(Str.ofString "script", .ref sc), (Str.ofString "ways", .ref wA)], τ) ∧ σ.Sub τ ∧ τ wA = some (.list (ys.map wyP)) ∧ WyOk ys ∧ ys.length = k + 2) ?_ (fun x => rfl)
  repeat walk_at "s1"
  have hs1 := seq_sub (AHeap.sub_set (.list [.tup [.int 0, .int 1, .int 1, .int 2], .tup [.int 0, .int 1, .int 2, .int 1]]) hwA) hs
  refine len_seq hs1 (by rw [intL_len]; omega) ?_
  repeat walk_at "s1"
  refine call_range3 (by decide) (by decide) fun r hr => ?_
  rw [intL_len]
  have hsz : Builtin.Range.rangeSize 0 (ns.length : Int) 4 = (((ns.length + 3) / 4 : Nat) : Int) := by
    unfold Builtin.Range.rangeSize
    simp only [show (4 : Int) > 0 by decide, if_true]
    split <;> omega
  refine ⟨_, _, _, it_range3 at_set_same ?_ hsz, ⟨_, [⟨0, 1, 1, 2⟩, ⟨0, 1, 2, 1⟩], rfl, (AHeap.sub_set _ hwA).fresh hr, ?_, ?_, rfl⟩, St.le_refl _, fun _ _ _ => trivial, ?_, ?_⟩
  · exact small4 ⟨ns.length, by omega⟩
  · exact at_set_fresh hr at_set_same
  · intro y hy; simp at hy; rcases hy with rfl | rfl <;> simp
  · rintro k p _ hp ⟨τ, ys, rfl, hsub, hw, hok, hlen⟩
    obtain ⟨hk, rfl⟩ := rangeL_get hp
    have hwn : σ wA = none := fresh_sub (.refl _) hwA
    refine Asg_local (by walk_at "kd") ?_
    repeat walk_at "s1"
    refine ⟨by simp, fun z hz0 => ?_⟩
    have hs2 := seq_sub (hsub.fresh (o := .list [.int 0, .int 0, .int 0]) hz0) hs
    refine bin_addL hs2 (seq_of at_set_same) (by rw [intL_len]; simp; omega) fun r2 hr2 => ?_
    have e1 : intL ns ++ [.int 0, .int 0, .int 0] = intL (ns ++ [0, 0, 0]) := by simp [intL]
    rw [e1]
    have e0 : (0 : Int) + (k : Int) * 4 = ((4 * k : Nat) : Int) := by push_cast; omega
    rw [e0]
    repeat walk_at "s1"
    have e2 : ((4 * k : Nat) : Int) + 4 = ((4 * k + 4 : Nat) : Int) := by push_cast; omega
    rw [e2]
    refine slice_run (seq_of at_set_same) (by rw [intL_len]; simp; omega) (by rw [intL_len]; simp; omega) (by omega) fun r3 hr3 => ?_
    have e3 : ((intL (ns ++ [0, 0, 0])).drop (4 * k)).take (4 * k + 4 - 4 * k) = intL (((ns ++ [0, 0, 0]).drop (4 * k)).take 4) := by
      simp only [intL, List.map_take, List.map_drop]; congr 1; omega
    rw [e3]
    obtain ⟨a, b, cc, hh, e4⟩ := four_of (l := ((ns ++ [0, 0, 0]).drop (4 * k)).take 4) (by simp; omega)
    rw [e4]
    refine Asg_TupleL rfl (seq_of at_set_same) ?_ rfl rfl rfl
    show asgAll _ _ _ [.int a, .int b, .int cc, .int hh] _ _
    repeat walk_at "s1"
    have hw3 := at_set_fresh (o' := .list (intL [a, b, cc, hh])) hr3 (at_set_fresh (o' := .list (intL (ns ++ [0, 0, 0]))) hr2 (at_set_fresh (o' := .list [.int 0, .int 0, .int 0]) hz0 hw))
    have hsub3 := ((hsub.fresh (o := .list [.int 0, .int 0, .int 0]) hz0).fresh (o := .list (intL (ns ++ [0, 0, 0]))) hr2).fresh (o := .list (intL [a, b, cc, hh])) hr3
    generalize ((τ.set z (.list [.int 0, .int 0, .int 0])).set r2 (.list (intL (ns ++ [0, 0, 0])))).set r3 (.list (intL [a, b, cc, hh])) = υ at hw3 hsub3 ⊢
    refine bin_mod (by decide) ?_
    repeat walk_at "s1"
    refine bin_mod (by decide) ?_
    repeat walk_at "s1"
    refine call_abs ?_
    repeat walk_at "s1"
    refine call_abs ?_
    repeat walk_at "s1"
    refine ⟨by simp, ?_⟩
    repeat walk_at "s1"
    refine append_list hw3 (by simp; omega) ?_
    repeat walk_at "s1"
    obtain ⟨a', ha1, ha2⟩ := mod5 a
    obtain ⟨b', hb1, hb2⟩ := mod5 b
    refine forQ_next ⟨_, ys ++ [⟨a', b', cc.natAbs, hh.natAbs⟩], rfl, hsub3.off hwn, ?_, ?_, by simp; omega⟩ (St.le_app (.refl _))
    · rw [at_set_same, ha2, hb2, abs_nat, abs_nat, List.map_append]; rfl
    · intro y hy
      rcases List.mem_append.mp hy with q | q
      · exact hok y q
      · simp at q; subst q; exact ⟨ha1, hb1⟩
  · rintro _ ⟨τ, ys, rfl, hsub, hw, hok, hlen⟩
    simp at hlen
    repeat walk_at "s1"
    exact hQ ys wA τ hok (by omega) hsub (fresh_sub (.refl _) hwA) hw

end Mine
end
section
open PySem PySem.W
set_option Elab.async false
set_option linter.unusedVariables false
set_option maxRecDepth 100000
namespace Mine
-- an object of the state
local macro_rules | `(tactic| walk_at "hp") => `(tactic| first | assumption | exact at_set_same | (refine at_set_ne ?_ ?_; (first | assumption | (apply Ne.symm; assumption)); walk_at "hp") | (refine at_set_fresh (by assumption) ?_; walk_at "hp"))
set_option hygiene false in
local macro_rules | `(tactic| walk_at "kd") => `(tactic| first | (rw [hsc]; rfl) | (rw [hsc', relabel_of hsc]; rfl))
set_option hygiene false in
local macro_rules | `(tactic| walk_at "ce") => `(tactic| first | (rw [hce]; rfl) | (rw [hce']; rfl))
set_option hygiene false in
local macro_rules | `(tactic| walk_at "s1") => `(tactic| with_reducible first
  | refine seqQ_next ?_
  | refine seqQ_brk ?_
  | refine seqQ_cont ?_
  | refine seqQ_ret ?_
  | refine loopQ_brk ?_
  | refine loopQ_ret ?_
  | refine forQ_brk ?_
  | refine forQ_ret ?_
  | refine S_last ?_
  | refine S_seq ?_
  | refine S_nil ?_
  | (refine S_Assign ?_ ?h1; (case h1 => with_unfolding_all exact rfl))
  | (refine S_AssignSub ?_ ?h1; (case h1 => with_unfolding_all exact rfl))
  | refine S_if ?_
  | refine S_Return ?_
  | refine S_Break ?_
  | refine S_Continue ?_
  | (refine S_Expr ?_ ?h1 ?h2; (case h1 => with_unfolding_all (unfold PySem.interactive; walk_at "kd")); (case h2 => with_unfolding_all exact rfl))
  | (refine' W1_store ?h1 ?_; (case h1 => with_unfolding_all walk_at "kd"))
  | (refine' E_local ?h1 ?h2 ?_ ?h3; (case h1 => with_unfolding_all walk_at "kd"); (case h2 => with_unfolding_all exact rfl); (case h3 => with_unfolding_all exact rfl))
  | (refine' E_cell ?h1 ?h2 ?h3 ?_ ?h4; (case h1 => with_unfolding_all walk_at "kd"); (case h2 => with_unfolding_all walk_at "ce"); (case h3 => walk_at "hp"); (case h4 => with_unfolding_all exact rfl))
  | (refine' E_free ?h1 ?h2 ?h3 ?_ ?h4 ?h5; (case h1 => with_unfolding_all walk_at "kd"); (case h2 => with_unfolding_all walk_at "ce"); (case h3 => walk_at "hp"); (case h4 => with_unfolding_all exact rfl); (case h5 => with_unfolding_all exact rfl))
  | (refine' E_global B.gd ?h1 ?h2 ?h3 ?_ ?h4; (case h1 => with_unfolding_all walk_at "kd"); (case h2 => with_unfolding_all exact rfl); (case h3 => with_unfolding_all exact rfl); (case h4 => with_unfolding_all exact rfl))
  | refine E_int ?_
  | refine E_none ?_
  | refine E_BinOp ?_
  | refine E_ifE ?_
  | refine ifE_true ?_
  | refine ifE_false ?_
  | refine storeAll_cons ?_
  | refine storeAll_nil ?_
  | refine E_Slice ?_
  | refine Part_none ?_
  | refine Part_some ?_
  | refine E_bool ?_
  | (refine E_Subscript ?_ ?h1; (case h1 => with_unfolding_all exact rfl))
  | (refine C_Compare ?_ ?h1; (case h1 => with_unfolding_all exact rfl))
  | refine C_Not ?_
  | refine C_BoolOp ?_
  | refine truthy_b ?_
  | refine bin_add ?_
  | refine bin_sub ?_
  | (refine bin_shr ?h1 ?_; (case h1 => with_unfolding_all decide))
  | refine cmp_lt ?_
  | (refine bin_mul ?_ ?h1; (case h1 => exact mulOk2))
  | refine And_last ?_
  | refine And_step ?_
  | refine Or_last ?_
  | refine Or_step ?_
  | refine andQ_true ?_
  | refine andQ_false ?_
  | refine orQ_true ?_
  | refine orQ_false ?_
  | refine ifQ_true ?_
  | refine ifQ_false ?_
  | (refine' E_CallG B.gd ?h1 ?h2 ?h3 ?h4 ?_ ?h5 ?h6 ?h7 ?h8; (case h1 => with_unfolding_all walk_at "kd"); (case h2 => with_unfolding_all exact rfl); (case h3 => exact (B.fn _ (by simp)).get); (case h4 => with_unfolding_all exact rfl); (case h5 => with_unfolding_all exact rfl); (case h6 => with_unfolding_all exact rfl); (case h7 => with_unfolding_all exact rfl); (case h8 => with_unfolding_all exact rfl))
  | (refine' E_CallB B.gd ?h1 ?h2 ?h3 ?h4 ?_ ?h5 ?h6 ?h7 ?h8; (case h1 => with_unfolding_all walk_at "kd"); (case h2 => with_unfolding_all exact rfl); (case h3 => decide); (case h4 => with_unfolding_all exact rfl); (case h5 => with_unfolding_all exact rfl); (case h6 => with_unfolding_all exact rfl); (case h7 => with_unfolding_all exact rfl); (case h8 => with_unfolding_all exact rfl))
  | (refine' E_CallT B.gd ?h1 ?h2 ?h3 ?h4 ?_ ?h5 ?h6 ?h7 ?h8; (case h1 => with_unfolding_all walk_at "kd"); (case h2 => with_unfolding_all exact rfl); (case h3 => decide); (case h4 => with_unfolding_all exact rfl); (case h5 => with_unfolding_all exact rfl); (case h6 => with_unfolding_all exact rfl); (case h7 => with_unfolding_all exact rfl); (case h8 => with_unfolding_all exact rfl))
  | refine cmp_gt ?_
  | refine cmp_le ?_
  | refine cmp_ge ?_
  | refine is_none_n ?_
  | refine is_none_r ?_
  | refine is_none_i ?_
  | refine is_none_t ?_
  | refine isNot_none_n ?_
  | refine isNot_none_r ?_
  | refine isNot_none_i ?_
  | refine isNot_none_t ?_
  | refine Ifs_one ?_
  | refine Ifs_nil ?_
  | refine cmp_ne ?_
  | refine cmp_eq ?_
  | (refine bin_floordiv ?h1 ?h2 ?_; (case h1 => with_unfolding_all decide); (case h2 => with_unfolding_all decide))
  | refine E_List ?_
  | refine And.intro ⟨_, _, rfl, seq_of (by with_unfolding_all walk_at "hp")⟩ ?_
  | (refine' E_MethList (id := "list.append") F.slot_list_append F.type_list_append ?_ ?h1 ?h2 ?h3 ?h4 ?h5; (case h1 => with_unfolding_all exact rfl); (case h2 => with_unfolding_all exact rfl); (case h3 => with_unfolding_all exact rfl); (case h4 => with_unfolding_all exact rfl); (case h5 => with_unfolding_all exact rfl))
  | (refine' E_MethList0 (id := "list.pop") F.slot_list_pop F.type_list_pop ?_ ?h1 ?h2; (case h1 => with_unfolding_all exact rfl); (case h2 => with_unfolding_all exact rfl))
  | (refine' E_MethList (id := "list.insert") F.slot_list_insert F.type_list_insert ?_ ?h1 ?h2 ?h3 ?h4 ?h5; (case h1 => with_unfolding_all exact rfl); (case h2 => with_unfolding_all exact rfl); (case h3 => with_unfolding_all exact rfl); (case h4 => with_unfolding_all exact rfl); (case h5 => with_unfolding_all exact rfl))
  | (refine' E_MethList (id := "list.extend") F.slot_list_extend F.type_list_extend ?_ ?h1 ?h2 ?h3 ?h4 ?h5; (case h1 => with_unfolding_all exact rfl); (case h2 => with_unfolding_all exact rfl); (case h3 => with_unfolding_all exact rfl); (case h4 => with_unfolding_all exact rfl); (case h5 => with_unfolding_all exact rfl))
  | (refine' E_MethList (id := "list.pop") F.slot_list_pop F.type_list_pop ?_ ?h1 ?h2 ?h3 ?h4 ?h5; (case h1 => with_unfolding_all exact rfl); (case h2 => with_unfolding_all exact rfl); (case h3 => with_unfolding_all exact rfl); (case h4 => with_unfolding_all exact rfl); (case h5 => with_unfolding_all exact rfl))
  | (refine C_value ?_ ?h1; (case h1 => with_unfolding_all exact rfl))
  | refine truthy_i ?_
  | (refine E_Tuple ?_)
  | (refine S_AssignTup ?_ ?h1 ?h2; (case h1 => with_unfolding_all exact rfl); (case h2 => with_unfolding_all exact swapped_of hsc rfl))
  | (refine Asg_Tuple rfl ?_ ?h1 ?h2 ?h3; (case h1 => with_unfolding_all exact rfl); (case h2 => with_unfolding_all exact rfl); (case h3 => with_unfolding_all exact rfl))
  | refine asgAll_cons ?_
  | refine asgAll_nil ?_
  | (refine' Asg_local ?h1 ?_; (case h1 => with_unfolding_all walk_at "kd"))
  | refine Asg_Sub ?_
  | refine A_nil ?_
  | (refine A_cons ?_ ?h1; (case h1 => with_unfolding_all exact rfl)))


variable {w : World} {base : Heap} {os : OsState} {mb : Str → Option Value}
def labP (x : Lab) : PV := .tup [.int (x.1 : Int), .int (x.2 : Int)]
def ltLab (x y : Lab) : Bool := decide (x.1 < y.1 ∨ (x.1 = y.1 ∧ x.2 < y.2))
theorem lexI_lab (x y : Lab) : lexI [(x.1 : Int), (x.2 : Int)] [(y.1 : Int), (y.2 : Int)] = ltLab x y := by
  simp only [lexI, ltLab]
  split
  · rename_i h
    have h0 : (x.1 : Int) = y.1 := by simpa using h
    have h' : x.1 = y.1 := by omega
    split
    · rename_i h2
      have h20 : (x.2 : Int) = y.2 := by simpa using h2
      have h2' : x.2 = y.2 := by omega
      rw [eq_comm, decide_eq_false_iff_not]; omega
    · rename_i h2
      rw [decide_eq_decide]; omega
  · rename_i h
    have h0 : ¬ (x.1 : Int) = y.1 := by simpa using h
    have h' : x.1 ≠ y.1 := by omega
    rw [decide_eq_decide]; omega
def labK (w : World) (base : Heap) (os : OsState) (mb : Str → Option Value) : Kind (G w base os mb) Lab where
  f := labP
  lt := ltLab
  d := (0, 0)
  inj := fun a b h => by
    simp only [labP, PV.tup.injEq, List.cons.injEq, PV.int.injEq, and_true] at h
    exact Prod.ext (by omega) (by omega)
  tot := ⟨fun a b h => by simp only [ltLab, decide_eq_true_eq, decide_eq_false_iff_not] at *; omega, fun a b c h1 h2 => by simp only [ltLab, decide_eq_false_iff_not] at *; omega⟩
  irr := fun a => by simp [ltLab]
  at' := fun S a b => by
    rw [← lexI_lab]
    exact fun c μ σ X Q _ _ _ h => cmp_lt_tup (ns := [(a.1 : Int), (a.2 : Int)]) (ms := [(b.1 : Int), (b.2 : Int)]) h
theorem ltLab_le {x p : Lab} : ltLab p x = false ↔ LexLe x p := by
  simp only [ltLab, decide_eq_false_iff_not, LexLe]; omega

/-- how a row parts at a pair -/
theorem stair_split {L : List Lab} (h : Stair L) (p : Lab) : ∃ A B, L = A ++ B ∧ (∀ x ∈ A, LexLe x p) ∧ (∀ x ∈ B, ¬ LexLe x p) := by
  induction L with
  | nil => exact ⟨[], [], rfl, by simp, by simp⟩
  | cons x L ih =>
    obtain ⟨h1, h2⟩ := List.pairwise_cons.mp h
    by_cases q : LexLe x p
    · obtain ⟨A, B, rfl, a1, a2⟩ := ih h2
      exact ⟨x :: A, B, rfl, fun y hy => by rcases List.mem_cons.mp hy with e | e; exact e ▸ q; exact a1 y e, a2⟩
    · refine ⟨[], x :: L, rfl, by simp, fun y hy => ?_⟩
      rcases List.mem_cons.mp hy with e | e
      · exact e ▸ q
      · have := h1 y e
        unfold LexLe at *; omega
theorem cut_of {A B : List Lab} {p : Lab} (hA : ∀ x ∈ A, LexLe x p) (hB : ∀ x ∈ B, ¬ LexLe x p) : Cut ((labK w base os mb).ltP (labP p)) ((A ++ B).map labP) A.length where
  le := by simp
  low := fun i q hi hq => by
    rw [List.getElem?_map, List.getElem?_append_left hi, List.getElem?_eq_getElem hi] at hq
    cases hq
    exact ((labK w base os mb).ltP_eq p _).trans (ltLab_le.mpr (hA _ (List.getElem_mem hi)))
  high := fun i q hi hq => by
    rw [List.getElem?_map, List.getElem?_append_right hi] at hq
    cases e : B[i - A.length]? with
    | none => rw [e] at hq; cases hq
    | some x =>
      rw [e] at hq; cases hq
      have := hB x (List.mem_of_getElem? e)
      have e2 : ltLab p x = true := by
        cases q : ltLab p x with
        | true => rfl
        | false => exact absurd (ltLab_le.mp q) this
      exact ((labK w base os mb).ltP_eq p x).trans e2
theorem lt_all {σ : AHeap} {p : Lab} {L : List Lab} : ∀ q ∈ L.map labP, LtAt (G w base os mb) (fun σ' => σ' = σ) (some ((labK w base os mb).ltP (labP p) q)) (labP p) q :=
  fun q hq => (labK w base os mb).ltAt _ _ ⟨p, rfl⟩ ((labK w base os mb).all q hq)

theorem keep_call (B : Bs (G w base os mb)) {n : Nat} {a : Addr} {L : List Lab} {p : Lab} {σ : AHeap} {X : String → AHeap → Prop} {Q : PV → AHeap → Prop} (hs : σ a = some (.list (L.map labP))) (hz : L.length ≤ 1000000) (hL : Stair L)
    (hQ : ∀ L', Stair L' → (∀ x ∈ L', x ∈ L ∨ x = p) → (∀ x ∈ L, ∃ y ∈ L', Dom y x) → (∃ y ∈ L', Dom y p) → L'.length ≤ L.length + 1 → Q (.ref a) (σ.set a (.list (L'.map labP)))) :
    CallS (G w base os mb) ⟨n + 3, true⟩ (.ref 93) [.ref a, labP p] X Q σ := by
  refine call_def (fd := fdAt 93) (body := bdAt 93) [Str.ofString "kept", Str.ofString "pair"] B.gd (B.fn 93 (by simp)).get rfl rfl (B.fn 93 (by simp)).code rfl rfl rfl rfl rfl rfl (by decide) rfl (fun vs hv => ?_) (fun i => rfl) (fun i => rfl) ?_
  · match vs, hv with
    | [v1, v2], _ => rfl
  intro c LL hc hlv hsc hce hq hf
  obtain ⟨g, lv, A, env⟩ := c
  subst hc hlv
  show WS _ (bdAt 93) _ _ ([(Str.ofString "kept", .ref a), (Str.ofString "pair", labP p)], σ)
  obtain ⟨A1, B1, rfl, hA, hB⟩ := stair_split hL p
  have hlen : (A1 ++ B1).length = A1.length + B1.length := List.length_append
  refine S_seq ?_
  repeat walk_at "s1"
  refine WN_call ?_
  refine bisect_call2 B (seq_of hs) (by rw [List.length_map]; omega) lt_all (cut_of hA hB) ?_
  repeat walk_at "s1"
  -- the rest, from where the pair is not passed over
  have rest : (∀ x ∈ A1, p.2 < x.2) → WS ⟨G w base os mb, ⟨n + 2, true⟩, A, env⟩ ((bdAt 93).drop 2) (fun e st => X e st.2) (fun f st => Q (match f with | .ret p => p | _ => .none) st.2) ([(Str.ofString "kept", .ref a), (Str.ofString "pair", labP p), (Str.ofString "k", .int A1.length)], σ) := by
    intro hd
    obtain ⟨k1, k2, k3⟩ := keep_ok hL hA hB hd
    refine S_seq ?_
    refine S_while (fun m st => ∃ B2, m = B2.length ∧ B2.length ≤ B1.length ∧ B2.dropWhile (fun x => decide (p.2 ≤ x.2)) = B1.dropWhile (fun x => decide (p.2 ≤ x.2)) ∧ (∀ x ∈ B2, ¬ LexLe x p) ∧
      st = ([(Str.ofString "kept", .ref a), (Str.ofString "pair", labP p), (Str.ofString "k", .int A1.length)], σ.set a (.list ((A1 ++ B2).map labP)))) B1.length _ ⟨B1, rfl, Nat.le_refl _, rfl, hB, rfl⟩ ?_ ?_
    · rw [AHeap.set_self _ hs]; exact St.le_refl _
    · rintro m _ ⟨B2, rfl, hle, hdw, hB2, rfl⟩
      have fin : B2.dropWhile (fun x => decide (p.2 ≤ x.2)) = B2 → WS ⟨G w base os mb, ⟨n + 2, true⟩, A, env⟩ ((bdAt 93).drop 3) (fun e st => X e st.2) (fun f st => Q (match f with | .ret p => p | _ => .none) st.2) ([(Str.ofString "kept", .ref a), (Str.ofString "pair", labP p), (Str.ofString "k", .int A1.length)], σ.set a (.list ((A1 ++ B2).map labP))) := by
        intro e
        rw [hdw] at e
        rw [e] at k1 k2 k3
        refine S_seq ?_
        repeat walk_at "s1"
        refine WN_call ?_
        refine insort_call2 B at_set_same (by rw [List.length_map, List.length_append]; omega) lt_all (cut_of hA hB2) ?_
        rw [AHeap.set_set]
        repeat walk_at "s1"
        have e2 : ((A1 ++ B2).map labP).take A1.length ++ labP p :: ((A1 ++ B2).map labP).drop A1.length = (A1 ++ p :: B2).map labP := by simp
        rw [e2]
        exact hQ _ k1 k3 k2 ⟨p, by simp, .refl _⟩ (by simp; omega)
      repeat walk_at "s1"
      refine len_seq (seq_of at_set_same) (by rw [List.length_map, List.length_append]; omega) ?_
      repeat walk_at "s1"
      cases B2 with
      | nil =>
        refine andQ_dec (fun hb => by simp at hb) (fun _ => ⟨(fun h => by cases h), fun _ => ?_⟩)
        refine S_nil (seqQ_next ?_)
        exact fin rfl
      | cons x B2 =>
        refine andQ_dec (fun _ => ?_) (fun hb => by simp at hb; omega)
        repeat walk_at "s1"
        refine get_list (p := labP x) (seq_of at_set_same) (by omega) (by simp) (by rw [List.length_map, List.length_append]; omega) ?_
        repeat walk_at "s1"
        refine get_tup (p := .int (x.2 : Int)) (by omega) rfl (by simp [labP]) ?_
        repeat walk_at "s1"
        refine get_tup (p := .int (p.2 : Int)) (by omega) rfl (by simp [labP]) ?_
        repeat walk_at "s1"
        refine ⟨fun hb => ?_, fun hb => ?_⟩
        · have hb' : p.2 ≤ x.2 := by have h9 : (x.2 : Int) ≥ (p.2 : Int) := (by simpa using hb); omega
          repeat walk_at "s1"
          refine pop_at (p := labP x) at_set_same (by omega) (by simp) (by rw [List.length_map, List.length_append]; omega) ?_
          repeat walk_at "s1"
          refine loopQ_next B2.length (by simp) ⟨B2, rfl, by simp at hle; omega, ?_, fun y hy => hB2 y (List.mem_cons_of_mem _ hy), rfl⟩ ?_
          · rw [← hdw, List.dropWhile_cons, if_pos (by simpa using hb')]
          · rw [AHeap.set_set]
            have e3 : ((A1 ++ x :: B2).map labP).eraseIdx (A1.length : Int).toNat = (A1 ++ B2).map labP := by
              rw [Int.toNat_natCast, List.map_append, List.eraseIdx_append_of_length_le (by simp)]
              simp
            rw [e3]
            exact St.le_refl _
        · have hb' : ¬ p.2 ≤ x.2 := by have h9 : ¬ (x.2 : Int) ≥ (p.2 : Int) := (by simpa using hb); omega
          refine S_nil (seqQ_next ?_)
          exact fin (by rw [List.dropWhile_cons, if_neg (by simpa using hb')])
  -- is it passed over?
  rcases List.eq_nil_or_concat A1 with e | ⟨A2, x, e⟩
  · subst e
    refine andQ_false ?_
    refine ifQ_false (S_nil (seqQ_next ?_))
    exact rest (by simp)
  · rw [List.concat_eq_append] at e
    subst e
    refine andQ_dec (fun _ => ?_) (fun hb => by simp at hb <;> omega)
    repeat walk_at "s1"
    refine get_list (p := labP x) (seq_of hs) (by simp <;> omega) (by
      rw [show (((A2 ++ [x]).length : Int) - 1).toNat = A2.length by simp]
      simp) (by rw [List.length_map, List.length_append]; omega) ?_
    repeat walk_at "s1"
    refine get_tup (p := .int (x.2 : Int)) (by omega) rfl (by simp [labP]) ?_
    repeat walk_at "s1"
    refine get_tup (p := .int (p.2 : Int)) (by omega) rfl (by simp [labP]) ?_
    repeat walk_at "s1"
    refine ifQ_dec (fun hb => ?_) (fun hb => ?_)
    · have hb' : x.2 ≤ p.2 := by have h9 : (x.2 : Int) ≤ (p.2 : Int) := (by simpa using hb); omega
      have hx := hA x (by simp)
      repeat walk_at "s1"
      have := hQ _ hL (fun y hy => .inl hy) (fun y hy => ⟨y, hy, .refl _⟩) ⟨x, by simp, ⟨by unfold LexLe at hx; omega, hb'⟩⟩ (by omega)
      rw [AHeap.set_self _ hs] at this
      exact this
    · have hb' : ¬ x.2 ≤ p.2 := by have h9 : ¬ (x.2 : Int) ≤ (p.2 : Int) := (by simpa using hb); omega
      refine S_nil (seqQ_next ?_)
      refine rest fun y hy => ?_
      rcases List.mem_append.mp hy with q | q
      · have h1 := (List.pairwise_append.mp (List.pairwise_append.mp hL).1).2.2 y q x (by simp)
        omega
      · simp at q; subst q; omega

end Mine
end
section
open PySem PySem.W
set_option Elab.async false
set_option linter.unusedVariables false
set_option maxRecDepth 100000
namespace Mine
-- an object of the state
local macro_rules | `(tactic| walk_at "hp") => `(tactic| first | assumption | exact at_set_same | (refine at_set_ne ?_ ?_; (first | assumption | (apply Ne.symm; assumption)); walk_at "hp") | (refine at_set_fresh (by assumption) ?_; walk_at "hp"))
set_option hygiene false in
local macro_rules | `(tactic| walk_at "kd") => `(tactic| first | (rw [hsc]; rfl) | (rw [hsc', relabel_of hsc]; rfl))
set_option hygiene false in
local macro_rules | `(tactic| walk_at "ce") => `(tactic| first | (rw [hce]; rfl) | (rw [hce']; rfl))
set_option hygiene false in
local macro_rules | `(tactic| walk_at "s1") => `(tactic| with_reducible first
  | refine seqQ_next ?_
  | refine seqQ_brk ?_
  | refine seqQ_cont ?_
  | refine seqQ_ret ?_
  | refine loopQ_brk ?_
  | refine loopQ_ret ?_
  | refine forQ_brk ?_
  | refine forQ_ret ?_
  | refine S_last ?_
  | refine S_seq ?_
  | refine S_nil ?_
  | (refine S_Assign ?_ ?h1; (case h1 => with_unfolding_all exact rfl))
  | (refine S_AssignSub ?_ ?h1; (case h1 => with_unfolding_all exact rfl))
  | refine S_if ?_
  | refine S_Return ?_
  | refine S_Break ?_
  | refine S_Continue ?_
  | (refine S_Expr ?_ ?h1 ?h2; (case h1 => with_unfolding_all (unfold PySem.interactive; walk_at "kd")); (case h2 => with_unfolding_all exact rfl))
  | (refine' W1_store ?h1 ?_; (case h1 => with_unfolding_all walk_at "kd"))
  | (refine' E_local ?h1 ?h2 ?_ ?h3; (case h1 => with_unfolding_all walk_at "kd"); (case h2 => with_unfolding_all exact rfl); (case h3 => with_unfolding_all exact rfl))
  | (refine' E_cell ?h1 ?h2 ?h3 ?_ ?h4; (case h1 => with_unfolding_all walk_at "kd"); (case h2 => with_unfolding_all walk_at "ce"); (case h3 => walk_at "hp"); (case h4 => with_unfolding_all exact rfl))
  | (refine' E_free ?h1 ?h2 ?h3 ?_ ?h4 ?h5; (case h1 => with_unfolding_all walk_at "kd"); (case h2 => with_unfolding_all walk_at "ce"); (case h3 => walk_at "hp"); (case h4 => with_unfolding_all exact rfl); (case h5 => with_unfolding_all exact rfl))
  | (refine' E_global B.gd ?h1 ?h2 ?h3 ?_ ?h4; (case h1 => with_unfolding_all walk_at "kd"); (case h2 => with_unfolding_all exact rfl); (case h3 => with_unfolding_all exact rfl); (case h4 => with_unfolding_all exact rfl))
  | refine E_int ?_
  | refine E_none ?_
  | refine E_BinOp ?_
  | refine E_ifE ?_
  | refine ifE_true ?_
  | refine ifE_false ?_
  | refine storeAll_cons ?_
  | refine storeAll_nil ?_
  | refine E_Slice ?_
  | refine Part_none ?_
  | refine Part_some ?_
  | refine E_bool ?_
  | (refine E_Subscript ?_ ?h1; (case h1 => with_unfolding_all exact rfl))
  | (refine C_Compare ?_ ?h1; (case h1 => with_unfolding_all exact rfl))
  | refine C_Not ?_
  | refine C_BoolOp ?_
  | refine truthy_b ?_
  | refine bin_add ?_
  | refine bin_sub ?_
  | (refine bin_shr ?h1 ?_; (case h1 => with_unfolding_all decide))
  | refine cmp_lt ?_
  | (refine bin_mul ?_ ?h1; (case h1 => exact mulOk2))
  | refine And_last ?_
  | refine And_step ?_
  | refine Or_last ?_
  | refine Or_step ?_
  | refine andQ_true ?_
  | refine andQ_false ?_
  | refine orQ_true ?_
  | refine orQ_false ?_
  | refine ifQ_true ?_
  | refine ifQ_false ?_
  | (refine' E_CallG B.gd ?h1 ?h2 ?h3 ?h4 ?_ ?h5 ?h6 ?h7 ?h8; (case h1 => with_unfolding_all walk_at "kd"); (case h2 => with_unfolding_all exact rfl); (case h3 => exact (B.fn _ (by simp)).get); (case h4 => with_unfolding_all exact rfl); (case h5 => with_unfolding_all exact rfl); (case h6 => with_unfolding_all exact rfl); (case h7 => with_unfolding_all exact rfl); (case h8 => with_unfolding_all exact rfl))
  | (refine' E_CallB B.gd ?h1 ?h2 ?h3 ?h4 ?_ ?h5 ?h6 ?h7 ?h8; (case h1 => with_unfolding_all walk_at "kd"); (case h2 => with_unfolding_all exact rfl); (case h3 => decide); (case h4 => with_unfolding_all exact rfl); (case h5 => with_unfolding_all exact rfl); (case h6 => with_unfolding_all exact rfl); (case h7 => with_unfolding_all exact rfl); (case h8 => with_unfolding_all exact rfl))
  | (refine' E_CallT B.gd ?h1 ?h2 ?h3 ?h4 ?_ ?h5 ?h6 ?h7 ?h8; (case h1 => with_unfolding_all walk_at "kd"); (case h2 => with_unfolding_all exact rfl); (case h3 => decide); (case h4 => with_unfolding_all exact rfl); (case h5 => with_unfolding_all exact rfl); (case h6 => with_unfolding_all exact rfl); (case h7 => with_unfolding_all exact rfl); (case h8 => with_unfolding_all exact rfl))
  | refine cmp_gt ?_
  | refine cmp_le ?_
  | refine cmp_ge ?_
  | refine is_none_n ?_
  | refine is_none_r ?_
  | refine is_none_i ?_
  | refine is_none_t ?_
  | refine isNot_none_n ?_
  | refine isNot_none_r ?_
  | refine isNot_none_i ?_
  | refine isNot_none_t ?_
  | refine Ifs_one ?_
  | refine Ifs_nil ?_
  | refine cmp_ne ?_
  | refine cmp_eq ?_
  | (refine bin_floordiv ?h1 ?h2 ?_; (case h1 => with_unfolding_all decide); (case h2 => with_unfolding_all decide))
  | refine E_List ?_
  | refine And.intro ⟨_, _, rfl, seq_of (by with_unfolding_all walk_at "hp")⟩ ?_
  | (refine' E_MethList (id := "list.append") F.slot_list_append F.type_list_append ?_ ?h1 ?h2 ?h3 ?h4 ?h5; (case h1 => with_unfolding_all exact rfl); (case h2 => with_unfolding_all exact rfl); (case h3 => with_unfolding_all exact rfl); (case h4 => with_unfolding_all exact rfl); (case h5 => with_unfolding_all exact rfl))
  | (refine' E_MethList0 (id := "list.pop") F.slot_list_pop F.type_list_pop ?_ ?h1 ?h2; (case h1 => with_unfolding_all exact rfl); (case h2 => with_unfolding_all exact rfl))
  | (refine' E_MethList (id := "list.insert") F.slot_list_insert F.type_list_insert ?_ ?h1 ?h2 ?h3 ?h4 ?h5; (case h1 => with_unfolding_all exact rfl); (case h2 => with_unfolding_all exact rfl); (case h3 => with_unfolding_all exact rfl); (case h4 => with_unfolding_all exact rfl); (case h5 => with_unfolding_all exact rfl))
  | (refine' E_MethList (id := "list.extend") F.slot_list_extend F.type_list_extend ?_ ?h1 ?h2 ?h3 ?h4 ?h5; (case h1 => with_unfolding_all exact rfl); (case h2 => with_unfolding_all exact rfl); (case h3 => with_unfolding_all exact rfl); (case h4 => with_unfolding_all exact rfl); (case h5 => with_unfolding_all exact rfl))
  | (refine' E_MethList (id := "list.pop") F.slot_list_pop F.type_list_pop ?_ ?h1 ?h2 ?h3 ?h4 ?h5; (case h1 => with_unfolding_all exact rfl); (case h2 => with_unfolding_all exact rfl); (case h3 => with_unfolding_all exact rfl); (case h4 => with_unfolding_all exact rfl); (case h5 => with_unfolding_all exact rfl))
  | (refine C_value ?_ ?h1; (case h1 => with_unfolding_all exact rfl))
  | refine truthy_i ?_
  | (refine E_Tuple ?_)
  | (refine S_AssignTup ?_ ?h1 ?h2; (case h1 => with_unfolding_all exact rfl); (case h2 => with_unfolding_all exact swapped_of hsc rfl))
  | (refine Asg_Tuple rfl ?_ ?h1 ?h2 ?h3; (case h1 => with_unfolding_all exact rfl); (case h2 => with_unfolding_all exact rfl); (case h3 => with_unfolding_all exact rfl))
  | refine asgAll_cons ?_
  | refine asgAll_nil ?_
  | (refine' Asg_local ?h1 ?_; (case h1 => with_unfolding_all walk_at "kd"))
  | refine Asg_Sub ?_
  | refine A_nil ?_
  | (refine A_cons ?_ ?h1; (case h1 => with_unfolding_all exact rfl)))


variable {w : World} {base : Heap} {os : OsState} {mb : Str → Option Value}
theorem un_neg {c : Cx} {X : String → St → Prop} {st : St} {i : Int} {Q : PV → St → Prop} (h : Q (.int (-i)) st) : W1 c VRep (.int i) (unaryOp .USub) X Q st := fun v hid stk s ok R hv => by
  obtain ⟨t, rfl⟩ := hv
  exact PySem.P.neg_int ⟨.int (-i), st, R.toks _, ⟨_, rfl⟩, .refl _, h⟩
def natL (l : List Nat) : List PV := l.map fun (x : Nat) => PV.int (x : Int)
def rowP (r : Row) : PV := .tup [.tup (natL r.seen), .int (r.c : Int), .int (r.h : Int)]
theorem natL_len (l : List Nat) : (natL l).length = l.length := List.length_map ..
def isN (b : Nat) : PV → Bool
  | .int j => j == (b : Int)
  | _ => false
theorem any_natL (l : List Nat) (b : Nat) : (natL l).any (isN b) = l.contains b := by
  rw [Bool.eq_iff_iff]
  simp only [natL, List.any_map, List.any_eq_true, Function.comp, isN, beq_iff_eq, List.contains_eq_mem, decide_eq_true_eq]
  constructor
  · rintro ⟨x, hx, e⟩
    have : x = b := by omega
    exact this ▸ hx
  · exact fun h => ⟨b, h, rfl⟩
theorem nextRows_take {ys : List Wy} {rows : List Row} {k : Nat} {r : Row} (h : rows[k]? = some r) : nextRows ys (rows.take (k + 1)) = nextRows ys (rows.take k) ++ (ys.filter (fits r)).map r.ext := by
  have hk : k < rows.length := (List.getElem?_eq_some_iff.mp h).1
  rw [List.take_add_one, h, nextRows, List.flatMap_append]
  simp [nextRows]
theorem filter_take {α : Type} {f : α → Bool} {l : List α} {j : Nat} {y : α} (h : l[j]? = some y) : (l.take (j + 1)).filter f = (l.take j).filter f ++ (if f y then [y] else []) := by
  rw [List.take_add_one, h, List.filter_append]
  simp [List.filter_cons]

theorem all_call (B : Bs (G w base os mb)) {n : Nat} {wA : Addr} {ys : List Wy} {σ : AHeap} {X : String → AHeap → Prop} {Q : PV → AHeap → Prop} (hs : seqAt σ wA = some (ys.map wyP)) (hok : WyOk ys) (hy : ys.length ≤ 18)
    (hQ : ∀ a σ', σ.Sub σ' → σ a = none → σ' a = some (.list ((toldN ys 4).map rowP)) → Q (.ref a) σ') :
    CallS (G w base os mb) ⟨n + 1, true⟩ (.ref 86) [.ref wA] X Q σ := by
  refine call_def (fd := fdAt 86) (body := bdAt 86) [Str.ofString "ways"] B.gd (B.fn 86 (by simp)).get rfl rfl (B.fn 86 (by simp)).code rfl rfl rfl rfl rfl rfl (by decide) rfl (fun vs hv => ?_) (fun i => rfl) (fun i => ?_) ?_
  · match vs, hv with
    | [v1], _ => rfl
  · show ((true && (some i == some i)) && true) = true
    simp
  intro c L hc hlv hsc hce hq hf
  obtain ⟨g, lv, A, env⟩ := c
  subst hc hlv
  show WS _ (bdAt 86) _ _ ([], σ.set (L + 1) (.cell (some (.ref wA))))
  have hc0 : σ (L + 1) = none := hf _ (Nat.le_succ _)
  have hsub0 : σ.Sub (σ.set (L + 1) (.cell (some (.ref wA)))) := AHeap.sub_set _ hc0
  have cc : (σ.set (L + 1) (.cell (some (.ref wA)))) (L + 1) = some (.cell (some (.ref wA))) := at_set_same
  generalize σ.set (L + 1) (.cell (some (.ref wA))) = τ0 at hsub0 cc ⊢
  refine S_seq ?_
  repeat walk_at "s1"
  refine ⟨by simp, ?_⟩
  repeat walk_at "s1"
  refine ⟨by simp, ?_⟩
  repeat walk_at "s1"
  refine ⟨by simp, fun r0 hr0 => ?_⟩
  repeat walk_at "s1"
  refine call_listOf (seq_of at_set_same) (by simp) fun tA htA => ?_
  repeat walk_at "s1"
  have hsub1 := (hsub0.fresh (o := .list [.tup [.tup [.int 0], .int 0, .int 0]]) hr0)
  have htσ : σ tA = none := fresh_sub hsub1 htA
  refine S_for rfl (fun k st => ∃ τ rA, st = ([(Str.ofString "rows", .ref rA), (Str.ofString "told", .ref tA)], τ) ∧ σ.Sub τ ∧ τ (L + 1) = some (.cell (some (.ref wA))) ∧ τ rA = some (.list ((rowsN ys k).map rowP)) ∧ τ tA = some (.list ((toldN ys k).map rowP)) ∧ rA ≠ tA) ?_ (fun x => rfl)
  repeat walk_at "s1"
  refine call_range1 fun r hr => ?_
  refine ⟨_, _, _, it_range at_set_same (by omega) (by omega) (by omega) (by omega), ⟨_, r0, rfl, (hsub1.fresh htA).fresh hr, ?_, ?_, ?_, ?_⟩, St.le_refl _, fun _ _ _ => trivial, ?_, ?_⟩
  · exact at_set_fresh hr (at_set_fresh htA (at_set_fresh hr0 cc))
  · exact at_set_fresh hr (at_set_fresh htA at_set_same)
  · exact at_set_fresh hr at_set_same
  · exact ne_of_fresh htA at_set_same
  · rintro k p _ hp ⟨τ, rA, rfl, hsub, hcc, hrA, htA', hne⟩
    obtain ⟨hk, rfl⟩ := rangeL_get hp
    have hk4 : k < 4 := by simpa using hk
    refine Asg_local (by walk_at "kd") ?_
    refine S_seq ?_
    have hwy : seqAt τ wA = some (ys.map wyP) := seq_sub hsub hs
    have hrl := rows_len hy k
    have hrl' : (rowsN ys k).length ≤ 5832 := Nat.le_trans hrl (by
      have : k = 0 ∨ k = 1 ∨ k = 2 ∨ k = 3 := by omega
      rcases this with rfl | rfl | rfl | rfl <;> decide)
    refine S_AssignComp2 (cl := [(Str.ofString "ways", L + 1)]) rfl rfl (swaps_of hsc rfl) (by walk_at "kd") (closure_of hce rfl) (by decide) rfl (by decide) (fun x => rfl) ?_
    repeat walk_at "s1"
    refine ⟨_, _, it_list (seq_of hrA), ⟨fun c' a hcx hlx hsc' hce' ha => ?_⟩⟩
    obtain ⟨g', lv', A', env'⟩ := c'
    obtain rfl : g' = G w base os mb := hcx
    obtain rfl : lv' = ⟨n, true⟩ := hlx
    have nra := ne_of_fresh ha hrA
    refine ⟨fun j st => ∃ τ', st = ([], τ') ∧ τ.Sub τ' ∧ τ' a = some (.list ((nextRows ys ((rowsN ys k).take j)).map rowP)), ⟨_, rfl, AHeap.sub_set _ ha, by rw [at_set_same]; rfl⟩, ?_, ?_, ?_⟩
    · rintro j _ ⟨τ', rfl, hs', _⟩; exact seq_sub hs' (seq_of hrA)
    · rintro j p _ hp ⟨τ', rfl, hs', ha'⟩
      obtain ⟨r1, hr1, rfl⟩ : ∃ r1, (rowsN ys k)[j]? = some r1 ∧ p = rowP r1 := by
        rw [List.getElem?_map] at hp
        cases q : (rowsN ys k)[j]? with
        | none => rw [q] at hp; cases hp
        | some r1 => rw [q] at hp; exact ⟨r1, rfl, (Option.some.inj hp).symm⟩
      have hseen := row_seen hok (List.mem_of_getElem? hr1)
      have hnl : (nextRows ys ((rowsN ys k).take j)).length ≤ 104976 := by
        have := next_len hy ((rowsN ys k).take j)
        simp only [List.length_take] at this
        omega
      have hcc' := hs' _ _ hcc
      refine Asg_Tuple rfl ?_ rfl rfl rfl
      repeat walk_at "s1"
      refine ⟨fun _ => ?_, fun h => by cases h⟩
      refine W_inner rfl (fun x => rfl) ?_
      repeat walk_at "s1"
      refine ⟨_, _, it_list (seq_sub hs' hwy), fun i st => ∃ τ'', st = ([(Str.ofString "seen", .tup (natL r1.seen)), (Str.ofString "cost", .int (r1.c : Int)), (Str.ofString "hours", .int (r1.h : Int))], τ'') ∧ τ.Sub τ'' ∧ τ'' a = some (.list ((nextRows ys ((rowsN ys k).take j) ++ ((ys.take i).filter (fits r1)).map r1.ext).map rowP)), _, ⟨_, rfl, hs', by rw [ha']; simp⟩, St.le_refl _, ?_, ?_, ?_⟩
      · rintro i _ ⟨τ'', rfl, h1, _⟩; exact seq_sub h1 hwy
      · rintro i p _ hp ⟨τ'', rfl, h1, h2⟩
        obtain ⟨y, hyi, rfl⟩ : ∃ y, ys[i]? = some y ∧ p = wyP y := by
          rw [List.getElem?_map] at hp
          cases q : ys[i]? with
          | none => rw [q] at hp; cases hp
          | some y => rw [q] at hp; exact ⟨y, rfl, (Option.some.inj hp).symm⟩
        have hil : i < ys.length := (List.getElem?_eq_some_iff.mp hyi).1
        refine Asg_Tuple rfl ?_ rfl rfl rfl
        repeat walk_at "s1"
        refine E_UnaryOp ?_
        repeat walk_at "s1"
        refine un_neg ?_
        refine get_tup_last (p := .int (r1.lst : Int)) (by decide) (by rw [natL_len]; omega) ?_ (by rw [natL_len]; omega) ?_
        · rw [natL_len, show ((-1 : Int) + (r1.seen.length : Nat)).toNat = r1.seen.length - 1 by omega]
          simp [natL, Row.seen]
        repeat walk_at "s1"
        have hfit : fits r1 y = (((y.a : Int) == (r1.lst : Int)) && !(r1.seen.contains y.b)) := by
          have e : ((y.a : Int) == (r1.lst : Int)) = (y.a == r1.lst) := by
            rw [Bool.eq_iff_iff, beq_iff_eq, beq_iff_eq]; omega
          rw [e]; rfl
        refine andQ_dec (fun hb => ?_) (fun hb => ?_)
        · repeat walk_at "s1"
          refine cmp_notInT (n := 0) (f := isN y.b) (fun q hq => ?_) (by omega) ?_
          · obtain ⟨x, _, rfl⟩ := List.mem_map.mp hq
            exact .int _ _
          rw [any_natL]
          repeat walk_at "s1"
          refine ⟨fun hb2 => ?_, fun hb2 => ?_⟩
          · have hft : fits r1 y = true := by rw [hfit, hb, hb2]; rfl
            repeat walk_at "s1"
            refine ⟨by simp, ?_⟩
            refine bin_addT (by rw [natL, Row.seen]; simp) (by simp) (by rw [natL_len]; simp; omega) ?_
            repeat walk_at "s1"
            refine ⟨by simp, ?_⟩
            refine ⟨_, h2, ?_, _, ⟨_, rfl, h1.off (by exact ha), ?_⟩, St.le_app (.refl _)⟩
            · rw [List.length_map, List.length_append, List.length_map]
              have := List.length_filter_le (fits r1) (ys.take i)
              rw [List.length_take] at this
              omega
            · rw [at_set_same, filter_take hyi, if_pos hft]
              simp [rowP, Row.ext, Row.seen, natL]
          · have hft : fits r1 y = false := by rw [hfit, hb, hb2]; rfl
            refine ⟨_, ⟨_, rfl, h1, ?_⟩, St.le_app (.refl _)⟩
            rw [h2, filter_take hyi, hft]; simp
        · refine ⟨(fun h => by cases h), fun _ => ?_⟩
          have hft : fits r1 y = false := by rw [hfit, hb]; rfl
          refine ⟨_, ⟨_, rfl, h1, ?_⟩, St.le_app (.refl _)⟩
          rw [h2, filter_take hyi, hft]; simp
      · rintro _ ⟨τ'', rfl, h1, h2⟩
        refine ⟨_, ⟨_, rfl, h1, ?_⟩, ⟨(fun _ _ e => by cases e), .refl _⟩⟩
        rw [h2, nextRows_take hr1, List.length_map, List.take_length]
    · rintro _ ⟨τ', rfl, hs', ha'⟩
      simp only [List.length_map, List.take_length] at ha'
      clear hsc' hce'
      refine seqQ_next ?_
      have hna : a ≠ tA := fun e => by subst e; exact absurd (htA'.symm.trans ha) (by simp)
      have ht' := hs' _ _ htA'
      have htl := told_len hy
      have htl2 : (toldN ys k).length + (nextRows ys (rowsN ys k)).length ≤ 1000000 := by
        have h0 := rows_len hy 0
        have h1 := rows_len hy 1
        have h2 := rows_len hy 2
        have h3 := rows_len hy 3
        have h4 := rows_len hy 4
        have : k = 0 ∨ k = 1 ∨ k = 2 ∨ k = 3 := by omega
        rcases this with rfl | rfl | rfl | rfl <;> simp only [toldN, rowsN, List.length_append] at * <;> simp only [Nat.zero_add, Nat.reduceAdd, Nat.reducePow] at * <;> omega
      refine S_last ?_
      repeat walk_at "s1"
      refine extend_list ht' (seq_of ha') (by simp only [List.length_map]; omega) ?_
      repeat walk_at "s1"
      refine forQ_next ⟨_, a, rfl, (AHeap.Sub.trans hsub hs').off htσ, ?_, ?_, ?_, hna⟩ (St.le_app (.refl _))
      · refine at_set_ne (fun e => ?_) (hs' _ _ hcc)
        rw [e, htA'] at hcc; cases hcc
      · exact at_set_ne hna ha'
      · rw [at_set_same, ← List.map_append]; rfl
  · rintro _ ⟨τ, rA, rfl, hsub, hcc, hrA, htA', hne⟩
    repeat walk_at "s1"
    exact hQ tA τ hsub htσ htA'

end Mine
end
section
open PySem PySem.W
set_option Elab.async false
set_option linter.unusedVariables false
set_option maxRecDepth 100000
namespace Mine
-- an object of the state
local macro_rules | `(tactic| walk_at "hp") => `(tactic| first | assumption | exact at_set_same | (refine at_set_ne ?_ ?_; (first | assumption | (apply Ne.symm; assumption)); walk_at "hp") | (refine at_set_fresh (by assumption) ?_; walk_at "hp"))
set_option hygiene false in
local macro_rules | `(tactic| walk_at "kd") => `(tactic| first | (rw [hsc]; rfl) | (rw [hsc', relabel_of hsc]; rfl))
set_option hygiene false in
local macro_rules | `(tactic| walk_at "ce") => `(tactic| first | (rw [hce]; rfl) | (rw [hce']; rfl))
set_option hygiene false in
local macro_rules | `(tactic| walk_at "s1") => `(tactic| with_reducible first
  | refine seqQ_next ?_
  | refine seqQ_brk ?_
  | refine seqQ_cont ?_
  | refine seqQ_ret ?_
  | refine loopQ_brk ?_
  | refine loopQ_ret ?_
  | refine forQ_brk ?_
  | refine forQ_ret ?_
  | refine S_last ?_
  | refine S_seq ?_
  | refine S_nil ?_
  | (refine S_Assign ?_ ?h1; (case h1 => with_unfolding_all exact rfl))
  | (refine S_AssignSub ?_ ?h1; (case h1 => with_unfolding_all exact rfl))
  | refine S_if ?_
  | refine S_Return ?_
  | refine S_Break ?_
  | refine S_Continue ?_
  | (refine S_Expr ?_ ?h1 ?h2; (case h1 => with_unfolding_all (unfold PySem.interactive; walk_at "kd")); (case h2 => with_unfolding_all exact rfl))
  | (refine' W1_store ?h1 ?_; (case h1 => with_unfolding_all walk_at "kd"))
  | (refine' E_local ?h1 ?h2 ?_ ?h3; (case h1 => with_unfolding_all walk_at "kd"); (case h2 => with_unfolding_all exact rfl); (case h3 => with_unfolding_all exact rfl))
  | (refine' E_cell ?h1 ?h2 ?h3 ?_ ?h4; (case h1 => with_unfolding_all walk_at "kd"); (case h2 => with_unfolding_all walk_at "ce"); (case h3 => walk_at "hp"); (case h4 => with_unfolding_all exact rfl))
  | (refine' E_free ?h1 ?h2 ?h3 ?_ ?h4 ?h5; (case h1 => with_unfolding_all walk_at "kd"); (case h2 => with_unfolding_all walk_at "ce"); (case h3 => walk_at "hp"); (case h4 => with_unfolding_all exact rfl); (case h5 => with_unfolding_all exact rfl))
  | (refine' E_global B.gd ?h1 ?h2 ?h3 ?_ ?h4; (case h1 => with_unfolding_all walk_at "kd"); (case h2 => with_unfolding_all exact rfl); (case h3 => with_unfolding_all exact rfl); (case h4 => with_unfolding_all exact rfl))
  | refine E_int ?_
  | refine E_none ?_
  | refine E_BinOp ?_
  | refine E_ifE ?_
  | refine ifE_true ?_
  | refine ifE_false ?_
  | refine storeAll_cons ?_
  | refine storeAll_nil ?_
  | refine E_Slice ?_
  | refine Part_none ?_
  | refine Part_some ?_
  | refine E_bool ?_
  | (refine E_Subscript ?_ ?h1; (case h1 => with_unfolding_all exact rfl))
  | (refine C_Compare ?_ ?h1; (case h1 => with_unfolding_all exact rfl))
  | refine C_Not ?_
  | refine C_BoolOp ?_
  | refine truthy_b ?_
  | refine bin_add ?_
  | refine bin_sub ?_
  | (refine bin_shr ?h1 ?_; (case h1 => with_unfolding_all decide))
  | refine cmp_lt ?_
  | (refine bin_mul ?_ ?h1; (case h1 => exact mulOk2))
  | refine And_last ?_
  | refine And_step ?_
  | refine Or_last ?_
  | refine Or_step ?_
  | refine andQ_true ?_
  | refine andQ_false ?_
  | refine orQ_true ?_
  | refine orQ_false ?_
  | refine ifQ_true ?_
  | refine ifQ_false ?_
  | (refine' E_CallG B.gd ?h1 ?h2 ?h3 ?h4 ?_ ?h5 ?h6 ?h7 ?h8; (case h1 => with_unfolding_all walk_at "kd"); (case h2 => with_unfolding_all exact rfl); (case h3 => exact (B.fn _ (by simp)).get); (case h4 => with_unfolding_all exact rfl); (case h5 => with_unfolding_all exact rfl); (case h6 => with_unfolding_all exact rfl); (case h7 => with_unfolding_all exact rfl); (case h8 => with_unfolding_all exact rfl))
  | (refine' E_CallB B.gd ?h1 ?h2 ?h3 ?h4 ?_ ?h5 ?h6 ?h7 ?h8; (case h1 => with_unfolding_all walk_at "kd"); (case h2 => with_unfolding_all exact rfl); (case h3 => decide); (case h4 => with_unfolding_all exact rfl); (case h5 => with_unfolding_all exact rfl); (case h6 => with_unfolding_all exact rfl); (case h7 => with_unfolding_all exact rfl); (case h8 => with_unfolding_all exact rfl))
  | (refine' E_CallT B.gd ?h1 ?h2 ?h3 ?h4 ?_ ?h5 ?h6 ?h7 ?h8; (case h1 => with_unfolding_all walk_at "kd"); (case h2 => with_unfolding_all exact rfl); (case h3 => decide); (case h4 => with_unfolding_all exact rfl); (case h5 => with_unfolding_all exact rfl); (case h6 => with_unfolding_all exact rfl); (case h7 => with_unfolding_all exact rfl); (case h8 => with_unfolding_all exact rfl))
  | refine cmp_gt ?_
  | refine cmp_le ?_
  | refine cmp_ge ?_
  | refine is_none_n ?_
  | refine is_none_r ?_
  | refine is_none_i ?_
  | refine is_none_t ?_
  | refine isNot_none_n ?_
  | refine isNot_none_r ?_
  | refine isNot_none_i ?_
  | refine isNot_none_t ?_
  | refine Ifs_one ?_
  | refine Ifs_nil ?_
  | refine cmp_ne ?_
  | refine cmp_eq ?_
  | (refine bin_floordiv ?h1 ?h2 ?_; (case h1 => with_unfolding_all decide); (case h2 => with_unfolding_all decide))
  | refine E_List ?_
  | refine And.intro ⟨_, _, rfl, seq_of (by with_unfolding_all walk_at "hp")⟩ ?_
  | (refine' E_MethList (id := "list.append") F.slot_list_append F.type_list_append ?_ ?h1 ?h2 ?h3 ?h4 ?h5; (case h1 => with_unfolding_all exact rfl); (case h2 => with_unfolding_all exact rfl); (case h3 => with_unfolding_all exact rfl); (case h4 => with_unfolding_all exact rfl); (case h5 => with_unfolding_all exact rfl))
  | (refine' E_MethList0 (id := "list.pop") F.slot_list_pop F.type_list_pop ?_ ?h1 ?h2; (case h1 => with_unfolding_all exact rfl); (case h2 => with_unfolding_all exact rfl))
  | (refine' E_MethList (id := "list.insert") F.slot_list_insert F.type_list_insert ?_ ?h1 ?h2 ?h3 ?h4 ?h5; (case h1 => with_unfolding_all exact rfl); (case h2 => with_unfolding_all exact rfl); (case h3 => with_unfolding_all exact rfl); (case h4 => with_unfolding_all exact rfl); (case h5 => with_unfolding_all exact rfl))
  | (refine' E_MethList (id := "list.extend") F.slot_list_extend F.type_list_extend ?_ ?h1 ?h2 ?h3 ?h4 ?h5; (case h1 => with_unfolding_all exact rfl); (case h2 => with_unfolding_all exact rfl); (case h3 => with_unfolding_all exact rfl); (case h4 => with_unfolding_all exact rfl); (case h5 => with_unfolding_all exact rfl))
  | (refine' E_MethList (id := "list.pop") F.slot_list_pop F.type_list_pop ?_ ?h1 ?h2 ?h3 ?h4 ?h5; (case h1 => with_unfolding_all exact rfl); (case h2 => with_unfolding_all exact rfl); (case h3 => with_unfolding_all exact rfl); (case h4 => with_unfolding_all exact rfl); (case h5 => with_unfolding_all exact rfl))
  | (refine C_value ?_ ?h1; (case h1 => with_unfolding_all exact rfl))
  | refine truthy_i ?_
  | (refine E_Tuple ?_)
  | (refine S_AssignTup ?_ ?h1 ?h2; (case h1 => with_unfolding_all exact rfl); (case h2 => with_unfolding_all exact swapped_of hsc rfl))
  | (refine Asg_Tuple rfl ?_ ?h1 ?h2 ?h3; (case h1 => with_unfolding_all exact rfl); (case h2 => with_unfolding_all exact rfl); (case h3 => with_unfolding_all exact rfl))
  | refine asgAll_cons ?_
  | refine asgAll_nil ?_
  | (refine' Asg_local ?h1 ?_; (case h1 => with_unfolding_all walk_at "kd"))
  | refine Asg_Sub ?_
  | refine A_nil ?_
  | (refine A_cons ?_ ?h1; (case h1 => with_unfolding_all exact rfl)))


variable {w : World} {base : Heap} {os : OsState} {mb : Str → Option Value}
def trP (t : Tr) : PV := .tup [.int (t.c : Int), .int (t.h : Int), .int (t.p : Int)]
def ltTr (x y : Tr) : Bool := decide (x.c < y.c ∨ (x.c = y.c ∧ (x.h < y.h ∨ (x.h = y.h ∧ x.p < y.p))))
theorem lexI_tr (x y : Tr) : lexI [(x.c : Int), (x.h : Int), (x.p : Int)] [(y.c : Int), (y.h : Int), (y.p : Int)] = ltTr x y := by
  simp only [lexI, ltTr]
  split
  · rename_i h
    have h0 : (x.c : Int) = y.c := by simpa using h
    split
    · rename_i h2
      have h20 : (x.h : Int) = y.h := by simpa using h2
      split
      · rename_i h3
        have h30 : (x.p : Int) = y.p := by simpa using h3
        rw [eq_comm, decide_eq_false_iff_not]; omega
      · rename_i h3
        have h30 : ¬ (x.p : Int) = y.p := by simpa using h3
        rw [decide_eq_decide]; omega
    · rename_i h2
      have h20 : ¬ (x.h : Int) = y.h := by simpa using h2
      rw [decide_eq_decide]; omega
  · rename_i h
    have h0 : ¬ (x.c : Int) = y.c := by simpa using h
    rw [decide_eq_decide]; omega
def trK (w : World) (base : Heap) (os : OsState) (mb : Str → Option Value) : Kind (G w base os mb) Tr where
  f := trP
  lt := ltTr
  d := ⟨0, 0, 0⟩
  inj := fun a b h => by
    obtain ⟨a1, a2, a3⟩ := a
    obtain ⟨b1, b2, b3⟩ := b
    simp only [trP, PV.tup.injEq, List.cons.injEq, PV.int.injEq, and_true] at h
    simp only [Tr.mk.injEq]
    omega
  tot := ⟨fun a b h => by simp only [ltTr, decide_eq_true_eq, decide_eq_false_iff_not] at *; omega, fun a b c h1 h2 => by simp only [ltTr, decide_eq_false_iff_not] at *; omega⟩
  irr := fun a => by simp [ltTr]
  at' := fun S a b => by
    rw [← lexI_tr]
    exact fun c μ σ X Q _ _ _ h => cmp_lt_tup (ns := [(a.c : Int), (a.h : Int), (a.p : Int)]) (ms := [(b.c : Int), (b.h : Int), (b.p : Int)]) h
theorem ltTr_le {q t : Tr} (h : ltTr q t = false) : LexLe (t.c, t.h) (q.c, q.h) := by
  simp only [ltTr, decide_eq_false_iff_not] at h
  unfold LexLe; simp only; omega

section
variable {c : Cx} {X : String → St → Prop} {μ : Locals} {σ : AHeap} {Q : PV → St → Prop}
theorem ne_nil {a b : Addr} {l : List PV} (ha : seqAt σ a = some l) (hb : seqAt σ b = some []) (h : Q (.bool (!l.isEmpty)) (μ, σ)) : W2 c VRep (.ref a) (.ref b) (compareOp .NotEq) X Q (μ, σ) := by
  cases l with
  | nil => exact cmp_lists_ne (n := 0) (e := fun _ => true) ha hb rfl (fun j p q hp _ => by simp at hp) (by omega) h
  | cons x l => exact cmp_lens_ne ha hb (by simp) h
theorem eq_nil {a b : Addr} {l : List PV} (ha : seqAt σ a = some l) (hb : seqAt σ b = some []) (h : Q (.bool l.isEmpty) (μ, σ)) : W2 c VRep (.ref a) (.ref b) (compareOp .Eq) X Q (μ, σ) := by
  cases l with
  | nil => exact cmp_lists_eq (n := 0) (e := fun _ => true) ha hb rfl (fun j p q hp _ => by simp at hp) (by omega) h
  | cons x l => exact cmp_lens_eq ha hb (by simp) h
end

theorem nodup_inj {l : List Addr} (h : l.Nodup) {i j : Nat} (hi : i < l.length) (hj : j < l.length) (e : l[i] = l[j]) : i = j := by
  have hp := List.pairwise_iff_getElem.mp h
  rcases Nat.lt_trichotomy i j with q | q | q
  · exact absurd e (hp i j hi hj q)
  · exact q
  · exact absurd e.symm (hp j i hj hi q)
/-- the state of _law_noted -/
structure TN (τ : AHeap) (hA nA : Addr) (as : List Addr) (H : List Tr) (N : Nat → List Lab) : Prop where
  heap : τ hA = some (.list (H.map trP))
  tab : τ nA = some (.list (as.map .ref))
  len : as.length = 5
  nd : as.Nodup
  each : ∀ (i : Nat) a, as[i]? = some a → τ a = some (.list ((N i).map labP))
  h1 : hA ≠ nA
  h2 : hA ∉ as
  h3 : nA ∉ as
theorem TN.setHeap {τ hA nA as H N} (T : TN τ hA nA as H N) (H' : List Tr) : TN (τ.set hA (.list (H'.map trP))) hA nA as H' N :=
  ⟨at_set_same, at_set_ne (Ne.symm T.h1) T.tab, T.len, T.nd, fun i a h => at_set_ne (fun e => T.h2 (e ▸ List.mem_of_getElem? h)) (T.each i a h), T.h1, T.h2, T.h3⟩
theorem TN.fresh {τ hA nA as H N} (T : TN τ hA nA as H N) {r : Addr} {o : AObj} (hr : τ r = none) : TN (τ.set r o) hA nA as H N :=
  ⟨at_set_fresh hr T.heap, at_set_fresh hr T.tab, T.len, T.nd, fun i a h => at_set_fresh hr (T.each i a h), T.h1, T.h2, T.h3⟩
theorem TN.note {τ hA nA as H N} (T : TN τ hA nA as H N) {p : Nat} {a : Addr} {x : Lab} (ha : as[p]? = some a) : TN (τ.set a (.list ((N p).map labP ++ [labP x]))) hA nA as H (note N p x) := by
  have ham := List.mem_of_getElem? ha
  refine ⟨at_set_ne (fun e => T.h2 (e ▸ ham)) T.heap, at_set_ne (fun e => T.h3 (e ▸ ham)) T.tab, T.len, T.nd, fun i b h => ?_, T.h1, T.h2, T.h3⟩
  by_cases e : i = p
  · subst e
    rw [ha] at h; cases h
    rw [at_set_same, note_self]; simp
  · have hne : b ≠ a := fun q => by
      subst q
      obtain ⟨h1, h1'⟩ := List.getElem?_eq_some_iff.mp h
      obtain ⟨h2, h2'⟩ := List.getElem?_eq_some_iff.mp ha
      exact e (nodup_inj T.nd h1 h2 (h1'.trans h2'.symm))
    rw [note_ne _ _ e]
    exact at_set_ne hne (T.each i b h)
theorem stair_last {l : List Lab} {x : Lab} (h : Stair (l ++ [x])) : ∀ y ∈ l ++ [x], x.2 ≤ y.2 := fun y hy => by
  rcases List.mem_append.mp hy with q | q
  · have := (List.pairwise_append.mp h).2.2 y q x (by simp); omega
  · simp at q; subst q; exact Nat.le_refl _

set_option maxHeartbeats 1000000 in
theorem noted_call (B : Bs (G w base os mb)) {n : Nat} {wA : Addr} {ys : List Wy} {σ : AHeap} {X : String → AHeap → Prop} {Q : PV → AHeap → Prop} (hs : seqAt σ wA = some (ys.map wyP)) (hok : WyOk ys) (hy : ys.length ≤ 18)
    (hQ : ∀ hA nA as N σ', σ.Sub σ' → TN σ' hA nA as [] N → Inv ys [] N → Q (.ref nA) σ') :
    CallS (G w base os mb) ⟨n + 4, true⟩ (.ref 81) [.ref wA] X Q σ := by
  refine call_def (fd := fdAt 81) (body := bdAt 81) [Str.ofString "ways"] B.gd (B.fn 81 (by simp)).get rfl rfl (B.fn 81 (by simp)).code rfl rfl rfl rfl rfl rfl (by decide) rfl (fun vs hv => ?_) (fun i => rfl) (fun i => rfl) ?_
  · match vs, hv with
    | [v1], _ => rfl
  intro c L hc hlv hsc hce hq hf
  obtain ⟨g, lv, A, env⟩ := c
  subst hc hlv
  show WS _ (bdAt 81) _ _ ([(Str.ofString "ways", .ref wA)], σ)
  refine S_seq ?_
  repeat walk_at "s1"
  refine ⟨by simp, ?_⟩
  repeat walk_at "s1"
  refine ⟨by simp, fun hA hhA => ?_⟩
  have hhA0 : σ hA = none := hhA
  repeat walk_at "s1"
  have hsub1 : σ.Sub (σ.set hA (.list [.tup [.int 0, .int 0, .int 0]])) := AHeap.sub_set _ hhA
  have hheap : (σ.set hA (.list [.tup [.int 0, .int 0, .int 0]])) hA = some (.list ([(⟨0, 0, 0⟩ : Tr)].map trP)) := at_set_same
  generalize σ.set hA (.list [.tup [.int 0, .int 0, .int 0]]) = τ0 at hsub1 hheap ⊢
  -- five rows
  refine S_AssignComp (cl := []) rfl (swaps_of hsc rfl) (by walk_at "kd") (closure_of hce rfl) (by decide) rfl (by decide) (fun x => rfl) ?_
  repeat walk_at "s1"
  refine call_range1 fun r hr => ?_
  have hsub2 := hsub1.fresh (o := .range 0 5 1) hr
  have hheap2 := at_set_fresh (o' := .range 0 5 1) hr hheap
  have hrange : (τ0.set r (.range 0 5 1)) r = some (.range 0 5 1) := at_set_same
  generalize τ0.set r (.range 0 5 1) = τ1 at hsub2 hheap2 hrange ⊢
  refine ⟨_, _, it_range hrange (by omega) (by omega) (by omega) (by omega), ⟨fun c' nA hcx hlx hsc' hce' hnA => ?_⟩⟩
  obtain ⟨g', lv', A', env'⟩ := c'
  obtain rfl : g' = G w base os mb := hcx
  obtain rfl : lv' = ⟨n + 3, true⟩ := hlx
  have hnA' : τ1 nA = none := hnA
  refine ⟨fun k st => ∃ τ' as, st = ([], τ') ∧ τ1.Sub τ' ∧ τ' nA = some (.list (as.map .ref)) ∧ as.length = k ∧ as.Nodup ∧ (∀ a ∈ as, τ' a = some (.list []) ∧ τ1 a = none) ∧ nA ∉ as, ⟨_, [], rfl, AHeap.sub_set _ hnA, at_set_same, rfl, by simp, by simp, by simp⟩, fun _ _ _ => trivial, ?_, ?_⟩
  · rintro k p _ hp ⟨τ', as, rfl, s1, s2, s3, s4, s5, s6⟩
    obtain ⟨hk, rfl⟩ := rangeL_get hp
    have hk' : k < 5 := by simpa using hk
    refine Asg_local (by walk_at "kd") ?_
    repeat walk_at "s1"
    refine ⟨fun _ => ?_, fun h => by cases h⟩
    repeat walk_at "s1"
    refine ⟨by simp, fun z hz => ?_⟩
    have hz' : τ' z = none := hz
    have hzn : z ≠ nA := fun e => by rw [e, s2] at hz'; cases hz'
    have hza : z ∉ as := fun e => by rw [(s5 z e).1] at hz'; cases hz'
    refine ⟨as.map .ref, at_set_fresh hz s2, by simp; omega, _, ⟨_, as ++ [z], rfl, (s1.fresh hz).off hnA', ?_, by simp; omega, ?_, ?_, ?_⟩, ⟨(fun _ _ e => by cases e), .refl _⟩⟩
    · rw [at_set_same]; simp
    · rw [List.nodup_append]
      exact ⟨s4, by simp, fun a ha b hb e => by simp at hb; subst hb; exact hza (e ▸ ha)⟩
    · intro a ha
      rcases List.mem_append.mp ha with q | q
      · exact ⟨at_set_ne (fun e => s6 (e ▸ q)) (at_set_fresh hz (s5 a q).1), (s5 a q).2⟩
      · simp at q; subst q
        exact ⟨at_set_ne hzn at_set_same, fresh_sub s1 hz'⟩
    · intro h
      rcases List.mem_append.mp h with q | q
      · exact s6 q
      · simp at q; exact hzn q.symm
  rintro _ ⟨τ', as, rfl, s1, s2, s3, s4, s5, s6⟩
  clear hsc' hce'
  simp only [rangeL_length] at s3
  have hA1 : hA ≠ nA := fun e => by rw [← e, hheap2] at hnA'; cases hnA'
  have T0 : TN τ' hA nA as [⟨0, 0, 0⟩] (fun _ => []) := ⟨s1 _ _ hheap2, s2, by simpa using s3, s4, fun i a h => (s5 a (List.mem_of_getElem? h)).1, hA1, (fun h => by have := (s5 hA h).2; rw [hheap2] at this; cases this), s6⟩
  have hsub3 : σ.Sub τ' := hsub2.trans s1
  have hfas : ∀ a ∈ as, σ a = none := fun a h => fresh_sub hsub2 (s5 a h).2
  clear s1 s2 s3 s5 hnA hnA' hheap2 hheap
  refine seqQ_next ?_
  refine S_seq ?_
  have h00 : IsHeap ltTr ⟨0, 0, 0⟩ [(⟨0, 0, 0⟩ : Tr)] := by intro k k0 kl; simp at kl; omega
  refine S_while (fun m st => ∃ τ H N, m = 19 * (555755 - sumN N) + H.length ∧ st = ([(Str.ofString "ways", .ref wA), (Str.ofString "heap", .ref hA), (Str.ofString "noted", .ref nA)], τ) ∧ σ.Sub τ ∧ TN τ hA nA as H N ∧ Inv ys H N ∧ IsHeap ltTr ⟨0, 0, 0⟩ H ∧ H.length ≤ 18 * sumN N + 1)
    _ _ ⟨τ', _, _, rfl, rfl, hsub3, T0, Inv.start, h00, by simp⟩ (St.le_refl _) ?_
  clear T0 hsub3 h00
  rintro m _ ⟨τ, H, N, rfl, rfl, hsub, T, I, hH, hHl⟩
  have hsum := I.sum hy
  repeat walk_at "s1"
  refine ⟨by simp, fun z hz => ?_⟩
  refine ne_nil (seq_of (at_set_fresh hz T.heap)) (seq_of at_set_same) ?_
  refine truthy_b ?_
  have T := T.fresh (o := .list []) hz
  have hsub := hsub.fresh (o := .list []) hz
  generalize τ.set z (.list []) = τ1 at T hsub ⊢
  refine ⟨fun hb => ?_, fun hb => ?_⟩
  · have hne : H ≠ [] := fun e => by rw [e] at hb; simp at hb
    refine S_seq ?_
    repeat walk_at "s1"
    refine WN_call ?_
    refine popK B (trK w base os mb) T.heap (by omega) hH (fun e => absurd e hne) fun t H' hH' hperm hmin => ?_
    have T := T.setHeap H'
    have hsub := hsub.off (o := .list (H'.map trP)) hhA0
    have hlenH : H.length = H'.length + 1 := by rw [hperm.length_eq]; rfl
    show WAsg _ _ (trP t) _ _ _
    change TN (τ1.set hA (.list (H'.map (trK w base os mb).f))) hA nA as H' N at T
    change σ.Sub (τ1.set hA (.list (H'.map (trK w base os mb).f))) at hsub
    generalize τ1.set hA (.list (H'.map (trK w base os mb).f)) = τ2 at T hsub ⊢
    have htH : t ∈ H := hperm.mem_iff.mpr (List.mem_cons_self ..)
    have htp : t.p < 5 := (I.hw t htH).lt hok
    obtain ⟨a, ha⟩ : ∃ a, as[t.p]? = some a := ⟨_, List.getElem?_eq_getElem (by rw [T.len]; exact htp)⟩
    have hag : (as.map PV.ref)[(t.p : Int).toNat]? = some (.ref a) := by rw [Int.toNat_natCast, List.getElem?_map, ha]; rfl
    refine Asg_Tuple rfl ?_ rfl rfl rfl
    repeat walk_at "s1"
    refine get_list (seq_of T.tab) (by omega) hag (by simp [T.len]) ?_
    repeat walk_at "s1"
    refine ⟨by simp, fun z2 hz2 => ?_⟩
    refine eq_nil (seq_of (at_set_fresh hz2 (T.each _ _ ha))) (seq_of at_set_same) ?_
    refine truthy_b ?_
    have T := T.fresh (o := .list []) hz2
    have hsub := hsub.fresh (o := .list []) hz2
    generalize τ2.set z2 (.list []) = τ3 at T hsub ⊢
    -- noted and led on
    have take : (∀ x ∈ N t.p, t.h < x.2) → ∀ ν, WS ⟨G w base os mb, ⟨n + 3, true⟩, A, env⟩ (match (bdAt 81).getD 2 default with | .While _ b _ _ => (match b.getD 1 default with | .If _ b2 _ _ => b2 | _ => []) | _ => []) (fun e st => X e st.2)
        (loopQ (fun m st => ∃ τ H N, m = 19 * (555755 - sumN N) + H.length ∧ st = ([(Str.ofString "ways", .ref wA), (Str.ofString "heap", .ref hA), (Str.ofString "noted", .ref nA)], τ) ∧ σ.Sub τ ∧ TN τ hA nA as H N ∧ Inv ys H N ∧ IsHeap ltTr ⟨0, 0, 0⟩ H ∧ H.length ≤ 18 * sumN N + 1) (19 * (555755 - sumN N) + H.length)
          (seqQ ⟨G w base os mb, ⟨n + 3, true⟩, A, env⟩ ((bdAt 81).drop 3) (fun e st => X e st.2) fun f st => Q (match f with | .ret p => p | _ => .none) st.2))
        ([(Str.ofString "ways", .ref wA), (Str.ofString "heap", .ref hA), (Str.ofString "noted", .ref nA), (Str.ofString "cost", .int (t.c : Int)), (Str.ofString "hours", .int (t.h : Int)), (Str.ofString "place", .int (t.p : Int))] ++ ν, τ3) := by
      intro hall ν
      have hmin' : ∀ q ∈ H, LexLe (t.c, t.h) (q.c, q.h) := fun q hq => ltTr_le (hmin q hq)
      refine S_seq ?_
      repeat walk_at "s1"
      refine get_list (seq_of T.tab) (by omega) hag (by simp [T.len]) ?_
      refine ⟨⟨_, _, rfl, seq_of (T.each _ _ ha)⟩, ?_⟩
      repeat walk_at "s1"
      refine ⟨by simp, ?_⟩
      repeat walk_at "s1"
      refine append_list (T.each _ _ ha) (by have := I.size t.p; have := told_len hy; rw [List.length_map]; omega) ?_
      have hsub := hsub.off (o := .list ((N t.p).map labP ++ [labP (t.c, t.h)])) (hfas a (List.mem_of_getElem? ha))
      have T := T.note (x := (t.c, t.h)) ha
      change TN (τ3.set a (.list ((N t.p).map labP ++ [.tup [.int (t.c : Int), .int (t.h : Int)]]))) hA nA as H' _ at T
      change σ.Sub (τ3.set a (.list ((N t.p).map labP ++ [.tup [.int (t.c : Int), .int (t.h : Int)]]))) at hsub
      generalize τ3.set a (.list ((N t.p).map labP ++ [.tup [.int (t.c : Int), .int (t.h : Int)]])) = τ4 at T hsub ⊢
      repeat walk_at "s1"
      refine S_for rfl (fun j st => ∃ τ H₂, st = ([(Str.ofString "ways", .ref wA), (Str.ofString "heap", .ref hA), (Str.ofString "noted", .ref nA), (Str.ofString "cost", .int (t.c : Int)), (Str.ofString "hours", .int (t.h : Int)), (Str.ofString "place", .int (t.p : Int))], τ) ∧ σ.Sub τ ∧ TN τ hA nA as H₂ (note N t.p (t.c, t.h)) ∧ IsHeap ltTr ⟨0, 0, 0⟩ H₂ ∧
        H₂.Perm ((((ys.take j).filter (fun y => y.a == t.p)).map fun y => (⟨t.c + y.c, t.h + y.h, y.b⟩ : Tr)) ++ H')) ?_ (fun x => rfl)
      repeat walk_at "s1"
      refine ⟨_, _, _, it_list (seq_sub hsub hs), ⟨τ4, H', rfl, hsub, T, hH', by simp⟩, St.le_app (.refl _), ?_, ?_, ?_⟩
      · rintro j _ ⟨τ, H₂, rfl, q1, _⟩; exact seq_sub q1 hs
      · rintro j p _ hp ⟨τ, H₂, rfl, q1, q2, q3, q4⟩
        obtain ⟨y, hyi, rfl⟩ : ∃ y, ys[j]? = some y ∧ p = wyP y := by
          rw [List.getElem?_map] at hp
          cases q : ys[j]? with
          | none => rw [q] at hp; cases hp
          | some y => rw [q] at hp; exact ⟨y, rfl, (Option.some.inj hp).symm⟩
        have hjl : j < ys.length := (List.getElem?_eq_some_iff.mp hyi).1
        have hl2 : H₂.length ≤ 18 + H'.length := by
          rw [q4.length_eq, List.length_append, List.length_map]
          have := List.length_filter_le (fun y : Wy => y.a == t.p) (ys.take j)
          rw [List.length_take] at this
          omega
        have hyt : ((y.a : Int) == (t.p : Int)) = (y.a == t.p) := by
          rw [Bool.eq_iff_iff, beq_iff_eq, beq_iff_eq]; omega
        refine Asg_Tuple rfl ?_ rfl rfl rfl
        repeat walk_at "s1"
        rw [hyt]
        refine ifQ_dec (fun hb2 => ?_) (fun hb2 => ?_)
        · repeat walk_at "s1"
          refine ⟨by simp, ?_⟩
          repeat walk_at "s1"
          refine WN_call ?_
          have e1 : PV.tup [.int ((t.c : Int) + (y.c : Int)), .int ((t.h : Int) + (y.h : Int)), .int (y.b : Int)] = (trK w base os mb).f ⟨t.c + y.c, t.h + y.h, y.b⟩ := by
            show _ = trP _; simp [trP]
          rw [e1]
          refine pushK B (trK w base os mb) q2.heap (by omega) q3 fun H₃ hH₃ hp₃ => ?_
          repeat walk_at "s1"
          refine forQ_next ⟨_, H₃, rfl, q1.off hhA0, q2.setHeap H₃, hH₃, ?_⟩ (St.le_app (.refl _))
          rw [filter_take hyi, hb2, if_pos rfl, List.map_append]
          refine hp₃.trans ((q4.cons _).trans ?_)
          simp only [List.map_cons, List.map_nil, List.append_assoc, List.cons_append, List.nil_append]
          exact (List.perm_middle).symm
        · repeat walk_at "s1"
          refine forQ_next ⟨_, H₂, rfl, q1, q2, q3, ?_⟩ (St.le_app (.refl _))
          rw [filter_take hyi, hb2]
          simpa using q4
      · rintro _ ⟨τ, H₂, rfl, q1, q2, q3, q4⟩
        simp only [List.length_map, List.take_length] at q4
        have hl2 : H₂.length ≤ 18 + H'.length := by
          rw [q4.length_eq, List.length_append, List.length_map]
          have := List.length_filter_le (fun y : Wy => y.a == t.p) ys
          omega
        have I' := I.take hok hperm hmin' hall q4
        have hs1 := sumN_note (N := N) (x := (t.c, t.h)) htp
        have hsum' := I'.sum hy
        refine S_nil ?_
        exact loopQ_next (19 * (555755 - sumN (note N t.p (t.c, t.h))) + H₂.length) (by omega) ⟨τ, H₂, _, rfl, rfl, q1, q2, I', q3, by omega⟩ (St.le_app (.refl _))
    rcases List.eq_nil_or_concat (N t.p) with e | ⟨l, x, e⟩
    · rw [e]
      refine orQ_true ?_
      refine ifQ_true ?_
      exact take (by rw [e]; simp) []
    · rw [List.concat_eq_append] at e
      rw [e]
      refine orQ_dec (fun h => by simp at h) fun _ => ?_
      have hlast : ((l ++ [x]).map labP)[((-1 : Int) + (((l ++ [x]).map labP).length : Nat)).toNat]? = some (labP x) := by
        rw [show ((-1 : Int) + (((l ++ [x]).map labP).length : Nat)).toNat = l.length by simp; omega]
        simp
      have hsz := I.size t.p
      have htl := told_len hy
      rw [e] at hsz
      have hsz' : ((l ++ [x]).map labP).length ≤ 16777216 := by rw [List.length_map]; omega
      have hst := I.st t.p
      rw [e] at hst
      repeat walk_at "s1"
      refine get_list (seq_of T.tab) (by omega) hag (by simp [T.len]) ?_
      repeat walk_at "s1"
      refine E_UnaryOp ?_
      repeat walk_at "s1"
      refine un_neg ?_
      refine get_list_last (p := labP x) (seq_of (by rw [T.each _ _ ha, e])) (by decide) (by simp; omega) hlast hsz' ?_
      repeat walk_at "s1"
      refine get_tup (p := .int (x.2 : Int)) (by omega) rfl (by simp) ?_
      repeat walk_at "s1"
      refine ifQ_dec (fun hb2 => ?_) (fun hb2 => ?_)
      · have hb3 : t.h < x.2 := by have h9 : (t.h : Int) < (x.2 : Int) := (by simpa using hb2); omega
        exact take (fun z hz => by rw [e] at hz; have := stair_last hst z hz; omega) []
      · have hb3 : ¬ t.h < x.2 := by have h9 : ¬ (t.h : Int) < (x.2 : Int) := (by simpa using hb2); omega
        refine S_nil ?_
        have hx : x ∈ N t.p := by rw [e]; simp
        have hlo := I.lo _ x hx t htH
        have I' := I.skip hperm ⟨x, hx, by unfold LexLe at hlo; simp only at hlo; exact ⟨by simp only; omega, by simp only; omega⟩⟩
        exact loopQ_next (19 * (555755 - sumN N) + H'.length) (by omega) ⟨τ3, H', N, rfl, rfl, hsub, T, I', hH', by omega⟩ (St.le_app (.refl _))
  · have hne : H = [] := by cases H with | nil => rfl | cons x l => simp at hb
    subst hne
    refine S_nil (seqQ_next ?_)
    repeat walk_at "s1"
    exact hQ hA nA as N τ1 hsub T I

end Mine
end
section
open PySem PySem.W
set_option Elab.async false
set_option linter.unusedVariables false
set_option maxRecDepth 100000
namespace Mine
-- an object of the state
local macro_rules | `(tactic| walk_at "hp") => `(tactic| first | assumption | exact at_set_same | (refine at_set_ne ?_ ?_; (first | assumption | (apply Ne.symm; assumption)); walk_at "hp") | (refine at_set_fresh (by assumption) ?_; walk_at "hp"))
set_option hygiene false in
local macro_rules | `(tactic| walk_at "kd") => `(tactic| first | (rw [hsc]; rfl) | (rw [hsc', relabel_of hsc]; rfl))
set_option hygiene false in
local macro_rules | `(tactic| walk_at "ce") => `(tactic| first | (rw [hce]; rfl) | (rw [hce']; rfl))
set_option hygiene false in
local macro_rules | `(tactic| walk_at "s1") => `(tactic| with_reducible first
  | refine seqQ_next ?_
  | refine seqQ_brk ?_
  | refine seqQ_cont ?_
  | refine seqQ_ret ?_
  | refine loopQ_brk ?_
  | refine loopQ_ret ?_
  | refine forQ_brk ?_
  | refine forQ_ret ?_
  | refine S_last ?_
  | refine S_seq ?_
  | refine S_nil ?_
  | (refine S_Assign ?_ ?h1; (case h1 => with_unfolding_all exact rfl))
  | (refine S_AssignSub ?_ ?h1; (case h1 => with_unfolding_all exact rfl))
  | refine S_if ?_
  | refine S_Return ?_
  | refine S_Break ?_
  | refine S_Continue ?_
  | (refine S_Expr ?_ ?h1 ?h2; (case h1 => with_unfolding_all (unfold PySem.interactive; walk_at "kd")); (case h2 => with_unfolding_all exact rfl))
  | (refine' W1_store ?h1 ?_; (case h1 => with_unfolding_all walk_at "kd"))
  | (refine' E_local ?h1 ?h2 ?_ ?h3; (case h1 => with_unfolding_all walk_at "kd"); (case h2 => with_unfolding_all exact rfl); (case h3 => with_unfolding_all exact rfl))
  | (refine' E_cell ?h1 ?h2 ?h3 ?_ ?h4; (case h1 => with_unfolding_all walk_at "kd"); (case h2 => with_unfolding_all walk_at "ce"); (case h3 => walk_at "hp"); (case h4 => with_unfolding_all exact rfl))
  | (refine' E_free ?h1 ?h2 ?h3 ?_ ?h4 ?h5; (case h1 => with_unfolding_all walk_at "kd"); (case h2 => with_unfolding_all walk_at "ce"); (case h3 => walk_at "hp"); (case h4 => with_unfolding_all exact rfl); (case h5 => with_unfolding_all exact rfl))
  | (refine' E_global B.gd ?h1 ?h2 ?h3 ?_ ?h4; (case h1 => with_unfolding_all walk_at "kd"); (case h2 => with_unfolding_all exact rfl); (case h3 => with_unfolding_all exact rfl); (case h4 => with_unfolding_all exact rfl))
  | refine E_int ?_
  | refine E_none ?_
  | refine E_BinOp ?_
  | refine E_ifE ?_
  | refine ifE_true ?_
  | refine ifE_false ?_
  | refine storeAll_cons ?_
  | refine storeAll_nil ?_
  | refine E_Slice ?_
  | refine Part_none ?_
  | refine Part_some ?_
  | refine E_bool ?_
  | (refine E_Subscript ?_ ?h1; (case h1 => with_unfolding_all exact rfl))
  | (refine C_Compare ?_ ?h1; (case h1 => with_unfolding_all exact rfl))
  | refine C_Not ?_
  | refine C_BoolOp ?_
  | refine truthy_b ?_
  | refine bin_add ?_
  | refine bin_sub ?_
  | (refine bin_shr ?h1 ?_; (case h1 => with_unfolding_all decide))
  | refine cmp_lt ?_
  | (refine bin_mul ?_ ?h1; (case h1 => exact mulOk2))
  | refine And_last ?_
  | refine And_step ?_
  | refine Or_last ?_
  | refine Or_step ?_
  | refine andQ_true ?_
  | refine andQ_false ?_
  | refine orQ_true ?_
  | refine orQ_false ?_
  | refine ifQ_true ?_
  | refine ifQ_false ?_
  | (refine' E_CallG B.gd ?h1 ?h2 ?h3 ?h4 ?_ ?h5 ?h6 ?h7 ?h8; (case h1 => with_unfolding_all walk_at "kd"); (case h2 => with_unfolding_all exact rfl); (case h3 => exact (B.fn _ (by simp)).get); (case h4 => with_unfolding_all exact rfl); (case h5 => with_unfolding_all exact rfl); (case h6 => with_unfolding_all exact rfl); (case h7 => with_unfolding_all exact rfl); (case h8 => with_unfolding_all exact rfl))
  | (refine' E_CallB B.gd ?h1 ?h2 ?h3 ?h4 ?_ ?h5 ?h6 ?h7 ?h8; (case h1 => with_unfolding_all walk_at "kd"); (case h2 => with_unfolding_all exact rfl); (case h3 => decide); (case h4 => with_unfolding_all exact rfl); (case h5 => with_unfolding_all exact rfl); (case h6 => with_unfolding_all exact rfl); (case h7 => with_unfolding_all exact rfl); (case h8 => with_unfolding_all exact rfl))
  | (refine' E_CallT B.gd ?h1 ?h2 ?h3 ?h4 ?_ ?h5 ?h6 ?h7 ?h8; (case h1 => with_unfolding_all walk_at "kd"); (case h2 => with_unfolding_all exact rfl); (case h3 => decide); (case h4 => with_unfolding_all exact rfl); (case h5 => with_unfolding_all exact rfl); (case h6 => with_unfolding_all exact rfl); (case h7 => with_unfolding_all exact rfl); (case h8 => with_unfolding_all exact rfl))
  | refine cmp_gt ?_
  | refine cmp_le ?_
  | refine cmp_ge ?_
  | refine is_none_n ?_
  | refine is_none_r ?_
  | refine is_none_i ?_
  | refine is_none_t ?_
  | refine isNot_none_n ?_
  | refine isNot_none_r ?_
  | refine isNot_none_i ?_
  | refine isNot_none_t ?_
  | refine Ifs_one ?_
  | refine Ifs_nil ?_
  | refine cmp_ne ?_
  | refine cmp_eq ?_
  | (refine bin_floordiv ?h1 ?h2 ?_; (case h1 => with_unfolding_all decide); (case h2 => with_unfolding_all decide))
  | refine E_List ?_
  | refine And.intro ⟨_, _, rfl, seq_of (by with_unfolding_all walk_at "hp")⟩ ?_
  | (refine' E_MethList (id := "list.append") F.slot_list_append F.type_list_append ?_ ?h1 ?h2 ?h3 ?h4 ?h5; (case h1 => with_unfolding_all exact rfl); (case h2 => with_unfolding_all exact rfl); (case h3 => with_unfolding_all exact rfl); (case h4 => with_unfolding_all exact rfl); (case h5 => with_unfolding_all exact rfl))
  | (refine' E_MethList0 (id := "list.pop") F.slot_list_pop F.type_list_pop ?_ ?h1 ?h2; (case h1 => with_unfolding_all exact rfl); (case h2 => with_unfolding_all exact rfl))
  | (refine' E_MethList (id := "list.insert") F.slot_list_insert F.type_list_insert ?_ ?h1 ?h2 ?h3 ?h4 ?h5; (case h1 => with_unfolding_all exact rfl); (case h2 => with_unfolding_all exact rfl); (case h3 => with_unfolding_all exact rfl); (case h4 => with_unfolding_all exact rfl); (case h5 => with_unfolding_all exact rfl))
  | (refine' E_MethList (id := "list.extend") F.slot_list_extend F.type_list_extend ?_ ?h1 ?h2 ?h3 ?h4 ?h5; (case h1 => with_unfolding_all exact rfl); (case h2 => with_unfolding_all exact rfl); (case h3 => with_unfolding_all exact rfl); (case h4 => with_unfolding_all exact rfl); (case h5 => with_unfolding_all exact rfl))
  | (refine' E_MethList (id := "list.pop") F.slot_list_pop F.type_list_pop ?_ ?h1 ?h2 ?h3 ?h4 ?h5; (case h1 => with_unfolding_all exact rfl); (case h2 => with_unfolding_all exact rfl); (case h3 => with_unfolding_all exact rfl); (case h4 => with_unfolding_all exact rfl); (case h5 => with_unfolding_all exact rfl))
  | (refine C_value ?_ ?h1; (case h1 => with_unfolding_all exact rfl))
  | refine truthy_i ?_
  | (refine E_Tuple ?_)
  | (refine S_AssignTup ?_ ?h1 ?h2; (case h1 => with_unfolding_all exact rfl); (case h2 => with_unfolding_all exact swapped_of hsc rfl))
  | (refine Asg_Tuple rfl ?_ ?h1 ?h2 ?h3; (case h1 => with_unfolding_all exact rfl); (case h2 => with_unfolding_all exact rfl); (case h3 => with_unfolding_all exact rfl))
  | refine asgAll_cons ?_
  | refine asgAll_nil ?_
  | (refine' Asg_local ?h1 ?_; (case h1 => with_unfolding_all walk_at "kd"))
  | refine Asg_Sub ?_
  | refine A_nil ?_
  | (refine A_cons ?_ ?h1; (case h1 => with_unfolding_all exact rfl)))


variable {w : World} {base : Heap} {os : OsState} {mb : Str → Option Value}
theorem all_yes {n : Nat} : (List.range n).all (fun _ => true) = true := List.all_eq_true.mpr fun _ _ => rfl
section
variable {c : Cx} {X : String → St → Prop} {μ : Locals} {σ : AHeap} {Q : PV → St → Prop}
theorem same_ne {a b : Addr} {l : List PV} {n : Nat} (ha : seqAt σ a = some l) (hb : seqAt σ b = some l) (hn : n ≤ 100) (he : ∀ p ∈ l, EqR σ n p p true) (h : Q (.bool false) (μ, σ)) : W2 c VRep (.ref a) (.ref b) (compareOp .NotEq) X Q (μ, σ) :=
  cmp_lists_ne (n := n) (e := fun _ => true) ha hb rfl (fun j p q hp hq => by rw [hp] at hq; cases hq; exact he p (List.mem_of_getElem? hp)) hn (by rw [all_yes]; exact h)
theorem eqR_int_self {n : Nat} (i : Int) : EqR σ n (.int i) (.int i) true := by
  have := EqR.int (σ := σ) (n := n) i i
  rwa [beq_self_eq_true] at this
theorem eqR_lab (x : Lab) : EqR σ 1 (labP x) (labP x) true := by
  have := EqR.tups (σ := σ) (n := 0) (l := [.int (x.1 : Int), .int (x.2 : Int)]) (m := [.int (x.1 : Int), .int (x.2 : Int)]) (e := fun _ => true) fun j p q hp hq => by
    rw [hp] at hq; cases hq
    have := List.mem_of_getElem? hp
    simp at this
    rcases this with rfl | rfl <;> exact eqR_int_self _
  rw [all_yes] at this
  exact this
end

structure DueOk (ys : List Wy) (p : Nat) (D : List Lab) : Prop where
  st : Stair D
  of : ∀ x ∈ D, ∃ r ∈ toldN ys 4, r.lst = p ∧ (r.c, r.h) = x
  all : ∀ r ∈ toldN ys 4, r.lst = p → ∃ x ∈ D, Dom x (r.c, r.h)
def pairsAt (p : Nat) (rows : List Row) : List Lab := (rows.filter fun r => r.lst == p).map fun r => (r.c, r.h)

/-- the rows that are due -/
structure TD (τ : AHeap) (dA : Addr) (ds : List Addr) (D : Nat → List Lab) : Prop where
  tab : τ dA = some (.list (ds.map .ref))
  each : ∀ (i : Nat) a, ds[i]? = some a → τ a = some (.list ((D i).map labP))
  off : dA ∉ ds
theorem TD.sub {τ τ' dA ds D} (T : TD τ dA ds D) (h : τ.Sub τ') : TD τ' dA ds D := ⟨h _ _ T.tab, fun i a e => h _ _ (T.each i a e), T.off⟩

set_option maxHeartbeats 1000000 in
theorem law_call (B : Bs (G w base os mb)) {n : Nat} {sc : Addr} {ns : List Int} {σ : AHeap} {X : String → AHeap → Prop} {Q : PV → AHeap → Prop} (hs : seqAt σ sc = some (intL ns)) (hz : ns.length ≤ 63) (hQ : ∀ σ', Q (.bool true) σ') :
    CallS (G w base os mb) ⟨n + 6, true⟩ (.ref 98) [.ref sc] X Q σ := by
  refine call_def (fd := fdAt 98) (body := bdAt 98) [Str.ofString "script"] B.gd (B.fn 98 (by simp)).get rfl rfl (B.fn 98 (by simp)).code rfl rfl rfl rfl rfl rfl (by decide) rfl (fun vs hv => ?_) (fun i => rfl) (fun i => ?_) ?_
  · match vs, hv with
    | [v1], _ => rfl
  · show ((true && (some (i + 1) == some (i + 1))) && ((true && (some i == some i)) && true)) = true
    simp
  intro c L hc hlv hsc hce hq hf
  obtain ⟨g, lv, A, env⟩ := c
  subst hc hlv
  show WS _ (bdAt 98) _ _ ([(Str.ofString "script", .ref sc)], (σ.set (L + 1) (.cell none)).set (L + 1 + 1) (.cell none))
  have hne : L + 1 ≠ L + 1 + 1 := Nat.ne_of_lt (Nat.lt_succ_self _)
  have h1 : σ (L + 1) = none := hf _ (Nat.le_succ _)
  have h2 : (σ.set (L + 1) (.cell none)) (L + 1 + 1) = none := by rw [AHeap.set_ne _ _ (Ne.symm hne)]; exact hf _ (Nat.le_trans (Nat.le_succ _) (Nat.le_succ _))
  have hsub : σ.Sub ((σ.set (L + 1) (.cell none)).set (L + 1 + 1) (.cell none)) := (AHeap.sub_set _ h1).fresh h2
  have cP : ((σ.set (L + 1) (.cell none)).set (L + 1 + 1) (.cell none)) (L + 1) = some (.cell none) := at_set_ne hne at_set_same
  have cR : ((σ.set (L + 1) (.cell none)).set (L + 1 + 1) (.cell none)) (L + 1 + 1) = some (.cell none) := at_set_same
  generalize (σ.set (L + 1) (.cell none)).set (L + 1 + 1) (.cell none) = τ0 at hsub cP cR ⊢
  refine S_seq ?_
  repeat walk_at "s1"
  refine WN_call ?_
  refine ways_call B (seq_sub hsub hs) hz fun ys wA τ1 hok hyl hs1 hwf hw => ?_
  repeat walk_at "s1"
  refine WN_call ?_
  refine all_call B (seq_of hw) hok hyl fun tA τ2 hs2 htf ht => ?_
  have hw2 := hs2 _ _ hw
  repeat walk_at "s1"
  refine ⟨by simp, fun dA hdA => ?_⟩
  have hdA' : τ2 dA = none := hdA
  have nwd : wA ≠ dA := ne_of_fresh hdA' hw2
  have ntd : tA ≠ dA := ne_of_fresh hdA' ht
  repeat walk_at "s1"
  have htl := told_len hyl
  refine S_for rfl (fun k st => ∃ τ ds D o, st = ([(Str.ofString "script", .ref sc), (Str.ofString "ways", .ref wA), (Str.ofString "told", .ref tA), (Str.ofString "due", .ref dA)], τ) ∧ τ (L + 1) = some (.cell o) ∧ τ (L + 1 + 1) = some (.cell none) ∧ τ wA = some (.list (ys.map wyP)) ∧ τ tA = some (.list ((toldN ys 4).map rowP)) ∧
    TD τ dA ds D ∧ ds.length = k ∧ ∀ i, i < k → DueOk ys i (D i)) ?_ (fun x => rfl)
  repeat walk_at "s1"
  refine call_range1 fun r hr => ?_
  have sub3 : τ2.Sub ((τ2.set dA (.list [])).set r (.range 0 5 1)) := (AHeap.sub_set _ hdA').fresh hr
  refine ⟨_, _, _, it_range at_set_same (by omega) (by omega) (by omega) (by omega), ⟨_, [], fun _ => [], none, rfl, sub3 _ _ (hs2 _ _ (hs1 _ _ cP)), sub3 _ _ (hs2 _ _ (hs1 _ _ cR)), sub3 _ _ hw2, sub3 _ _ ht, ⟨at_set_fresh hr at_set_same, (fun i a e => by simp at e), by simp⟩, rfl, fun i hi => by omega⟩, St.le_refl _, fun _ _ _ => trivial, ?_, ?_⟩
  · rintro k p _ hp ⟨τ, ds, D, o, rfl, c1, c2, c3, c4, TDk, hdl, hdue⟩
    obtain ⟨hk, rfl⟩ := rangeL_get hp
    have hk5 : k < 5 := by simpa using hk
    have e0 : (0 : Int) + (k : Int) * 1 = (k : Int) := by omega
    rw [e0]
    refine Asg_cell (by walk_at "kd") (by walk_at "ce") c1 ?_
    have nw : wA ≠ L + 1 := fun e => by rw [e, c1] at c3; cases c3
    have nt : tA ≠ L + 1 := fun e => by rw [e, c1] at c4; cases c4
    have nd : dA ≠ L + 1 := fun e => by have := TDk.tab; rw [e, c1] at this; cases this
    have c2 := at_set_ne (o' := .cell (some (.int (k : Int)))) (Ne.symm hne) c2
    have c3 := at_set_ne (o' := .cell (some (.int (k : Int)))) nw c3
    have c4 := at_set_ne (o' := .cell (some (.int (k : Int)))) nt c4
    have TDk : TD (τ.set (L + 1) (.cell (some (.int (k : Int))))) dA ds D := ⟨at_set_ne nd TDk.tab, fun i a e => at_set_ne (fun q => by have := TDk.each i a e; rw [q, c1] at this; cases this) (TDk.each i a e), TDk.off⟩
    have c1 : (τ.set (L + 1) (.cell (some (.int (k : Int))))) (L + 1) = some (.cell (some (.int (k : Int)))) := at_set_same
    generalize τ.set (L + 1) (.cell (some (.int (k : Int)))) = τ at c1 c2 c3 c4 TDk ⊢
    refine S_seq ?_
    refine S_AssignComp (cl := [(Str.ofString "place", L + 1)]) rfl (swaps_of hsc rfl) (by walk_at "kd") (closure_of hce rfl) (by decide) rfl (by decide) (fun x => rfl) ?_
    repeat walk_at "s1"
    refine ⟨_, _, it_list (seq_of c4), ⟨fun c' pA hcx hlx hsc' hce' hpA => ?_⟩⟩
    obtain ⟨g', lv', A', env'⟩ := c'
    obtain rfl : g' = G w base os mb := hcx
    obtain rfl : lv' = ⟨n + 5, true⟩ := hlx
    have hpA' : τ pA = none := hpA
    refine ⟨fun j st => ∃ τ', st = ([], τ') ∧ τ.Sub τ' ∧ τ' pA = some (.list ((pairsAt k ((toldN ys 4).take j)).map labP)), ⟨_, rfl, AHeap.sub_set _ hpA, by rw [at_set_same]; rfl⟩, ?_, ?_, ?_⟩
    · rintro j _ ⟨τ', rfl, s1, _⟩; exact seq_of (s1 _ _ c4)
    · rintro j p _ hp ⟨τ', rfl, s1, s2⟩
      obtain ⟨r1, hr1, rfl⟩ : ∃ r1, (toldN ys 4)[j]? = some r1 ∧ p = rowP r1 := by
        rw [List.getElem?_map] at hp
        cases q : (toldN ys 4)[j]? with
        | none => rw [q] at hp; cases hp
        | some r1 => rw [q] at hp; exact ⟨r1, rfl, (Option.some.inj hp).symm⟩
      have c1' := s1 _ _ c1
      obtain ⟨m, _, hm⟩ := mem_told.mp (List.mem_of_getElem? hr1)
      have hseen := row_seen hok hm
      have hshort := row_short hok hm
      refine Asg_Tuple rfl ?_ rfl rfl rfl
      repeat walk_at "s1"
      refine E_UnaryOp ?_
      repeat walk_at "s1"
      refine un_neg ?_
      refine get_tup_last (p := .int (r1.lst : Int)) (by decide) (by rw [natL_len]; omega) ?_ (by rw [natL_len]; omega) ?_
      · rw [natL_len, show ((-1 : Int) + (r1.seen.length : Nat)).toNat = r1.seen.length - 1 by omega]
        simp [natL, Row.seen]
      repeat walk_at "s1"
      have hbeq : ((r1.lst : Int) == (k : Int)) = (r1.lst == k) := by
        rw [Bool.eq_iff_iff, beq_iff_eq, beq_iff_eq]; omega
      rw [hbeq]
      refine ⟨fun hb => ?_, fun hb => ?_⟩
      · repeat walk_at "s1"
        refine ⟨by simp, ?_⟩
        refine ⟨_, s2, ?_, _, ⟨_, rfl, s1.off hpA', ?_⟩, ⟨(fun _ _ e => by cases e), .refl _⟩⟩
        · unfold pairsAt
          rw [List.length_map, List.length_map]
          have := List.length_filter_le (fun r : Row => r.lst == k) ((toldN ys 4).take j)
          rw [List.length_take] at this
          omega
        · rw [at_set_same]
          unfold pairsAt
          rw [filter_take hr1, hb, if_pos rfl]
          simp [labP]
      · refine ⟨_, ⟨_, rfl, s1, ?_⟩, ⟨(fun _ _ e => by cases e), .refl _⟩⟩
        rw [s2]
        unfold pairsAt
        rw [filter_take hr1, hb]
        simp
    · rintro _ ⟨τ', rfl, s1, s2⟩
      simp only [List.length_map, List.take_length] at s2
      clear hsc' hce'
      refine seqQ_next ?_
      have ndp : dA ≠ pA := ne_of_fresh hpA' TDk.tab
      have c1 := s1 _ _ c1
      have c2 := s1 _ _ c2
      have c3 := s1 _ _ c3
      have c4 := s1 _ _ c4
      have TDk := TDk.sub s1
      have hPl : (pairsAt k (toldN ys 4)).length ≤ 111151 := by
        unfold pairsAt
        rw [List.length_map]
        exact Nat.le_trans (List.length_filter_le _ _) htl
      have hdt := TDk.tab
      refine S_last ?_
      repeat walk_at "s1"
      refine ⟨by simp, fun z hz => ?_⟩
      have hz' : τ' z = none := hz
      repeat walk_at "s1"
      refine WN_call ?_
      refine reduce_call B (f := 93) (B.fn 93 (by simp)).get rfl (seq_of (at_set_fresh hz s2)) at_set_same
        (fun j v σ' => v = .ref z ∧ ∃ Ls, σ' = τ'.set z (.list (Ls.map labP)) ∧ Stair Ls ∧ (∀ x ∈ Ls, x ∈ pairsAt k (toldN ys 4)) ∧ (∀ x ∈ (pairsAt k (toldN ys 4)).take j, ∃ y ∈ Ls, Dom y x) ∧ Ls.length ≤ j)
        ⟨rfl, [], rfl, .nil, by simp, by simp, by simp⟩ ?_ ?_ ?_
      · rintro j v σ' ⟨_, Ls, rfl, _⟩
        exact seq_of (at_set_fresh hz s2)
      · rintro j p v σ' hp ⟨rfl, Ls, rfl, l1, l2, l3, l4⟩
        obtain ⟨x, hx, rfl⟩ : ∃ x, (pairsAt k (toldN ys 4))[j]? = some x ∧ p = labP x := by
          rw [List.getElem?_map] at hp
          cases q : (pairsAt k (toldN ys 4))[j]? with
          | none => rw [q] at hp; cases hp
          | some x => rw [q] at hp; exact ⟨x, rfl, (Option.some.inj hp).symm⟩
        have hjl := (List.getElem?_eq_some_iff.mp hx).1
        refine keep_call (n := n + 1) B at_set_same (by omega) l1 fun L' k1 k2 k3 k4 k5 => ?_
        refine ⟨rfl, L', by rw [AHeap.set_set], k1, fun y hy => ?_, fun y hy => ?_, by omega⟩
        · rcases k2 y hy with q | q
          · exact l2 y q
          · rw [q]; exact List.mem_of_getElem? hx
        · rw [List.take_add_one, hx] at hy
          rcases List.mem_append.mp hy with q | q
          · obtain ⟨y', h3, h4⟩ := l3 y q
            obtain ⟨y'', h5, h6⟩ := k3 y' h3
            exact ⟨y'', h5, h6.trans h4⟩
          · simp at q; subst q; exact k4
      · rintro v σ' ⟨rfl, Ls, rfl, l1, l2, l3, l4⟩
        simp only [List.length_map, List.take_length] at l3
        have ndz : dA ≠ z := ne_of_fresh hz' TDk.tab
        have sz : τ'.Sub (τ'.set z (.list (Ls.map labP))) := AHeap.sub_set _ hz'
        have hzs : (τ'.set z (.list (Ls.map labP))) z = some (.list (Ls.map labP)) := at_set_same
        have hDz : DueOk ys k Ls := ⟨l1, fun x hx => by
            obtain ⟨r, hr, e⟩ := List.mem_map.mp (l2 x hx)
            obtain ⟨q1, q2⟩ := List.mem_filter.mp hr
            exact ⟨r, q1, by simpa using q2, e⟩, fun r hr e => l3 _ (List.mem_map.mpr ⟨r, List.mem_filter.mpr ⟨hr, by simpa using e⟩, rfl⟩)⟩
        generalize τ'.set z (.list (Ls.map labP)) = τ5 at sz hzs ⊢
        have c1 := sz _ _ c1
        have c2 := sz _ _ c2
        have c3 := sz _ _ c3
        have c4 := sz _ _ c4
        have hzd : z ∉ ds := fun h => by
          obtain ⟨i, hi, e⟩ := List.getElem_of_mem h
          have := TDk.each i z (by rw [List.getElem?_eq_getElem hi, e])
          rw [hz'] at this; cases this
        have TDk := TDk.sub sz
        repeat walk_at "s1"
        refine append_list TDk.tab (by simp; omega) ?_
        repeat walk_at "s1"
        have nd1 : L + 1 ≠ dA := fun e => by have := TDk.tab; rw [← e, c1] at this; cases this
        have nd2 : L + 1 + 1 ≠ dA := fun e => by have := TDk.tab; rw [← e, c2] at this; cases this
        refine forQ_next ⟨_, ds ++ [z], fun i => if i = k then Ls else D i, _, rfl, at_set_ne nd1 c1, at_set_ne nd2 c2, at_set_ne nwd c3, at_set_ne ntd c4, ⟨by rw [at_set_same]; simp, fun i a e => ?_, ?_⟩, by simp; omega, fun i hi => ?_⟩ (St.le_app (.refl _))
        · rcases Nat.lt_or_ge i ds.length with q | q
          · rw [List.getElem?_append_left q] at e
            have hik : i ≠ k := by omega
            simp only [hik, if_false]
            exact at_set_ne (fun q => TDk.off (q ▸ List.mem_of_getElem? e)) (TDk.each i a e)
          · rw [List.getElem?_append_right q] at e
            have hik : i = k := by
              have := (List.getElem?_eq_some_iff.mp e).1
              simp at this; omega
            subst hik
            rw [show i - ds.length = 0 by omega] at e
            cases e
            simp only [if_true]
            exact at_set_ne (Ne.symm ndz) hzs
        · intro h
          rcases List.mem_append.mp h with q | q
          · exact TDk.off q
          · simp at q; exact ndz q
        · by_cases q : i = k
          · subst q; simpa using hDz
          · simp only [q, if_false]; exact hdue i (by omega)
  · rintro _ ⟨τ, ds, D, o, rfl, c1, c2, c3, c4, TDk, hdl, hdue⟩
    rw [rangeL_length] at hdl hdue
    have hd5 : ds.length = 5 := by simpa using hdl
    have hdue : ∀ i, i < 5 → DueOk ys i (D i) := fun i hi => hdue i (by simpa using hi)
    clear hdl c1 c4
    refine S_nil (seqQ_next ?_)
    have hDl : ∀ i, i < 5 → (D i).length ≤ 111151 := fun i hi => by
      have := nodup_len (m := (toldN ys 4).map fun r => (r.c, r.h)) (hdue i hi).st.nodup fun x hx => by
        obtain ⟨r, h1, _, h2⟩ := (hdue i hi).of x hx
        exact List.mem_map.mpr ⟨r, h1, h2⟩
      rw [List.length_map] at this
      omega
    refine S_seq ?_
    refine S_for rfl (fun k st => ∃ τ o, st = ([(Str.ofString "script", .ref sc), (Str.ofString "ways", .ref wA), (Str.ofString "told", .ref tA), (Str.ofString "due", .ref dA)], τ) ∧ τ (L + 1 + 1) = some (.cell o) ∧ τ wA = some (.list (ys.map wyP)) ∧ TD τ dA ds D) ?_ (fun x => rfl)
    repeat walk_at "s1"
    refine ⟨_, _, _, it_list (seq_of TDk.tab), ⟨τ, none, rfl, c2, c3, TDk⟩, St.le_refl _, ?_, ?_, ?_⟩
    · rintro k _ ⟨τ, o, rfl, _, _, T⟩; exact seq_of T.tab
    · rintro k p _ hp ⟨τ, o, rfl, c2, c3, TDk⟩
      obtain ⟨a, ha, rfl⟩ : ∃ a, ds[k]? = some a ∧ p = .ref a := by
        rw [List.getElem?_map] at hp
        cases q : ds[k]? with
        | none => rw [q] at hp; cases hp
        | some a => rw [q] at hp; exact ⟨a, rfl, (Option.some.inj hp).symm⟩
      have hk5 : k < 5 := by have := (List.getElem?_eq_some_iff.mp ha).1; omega
      have hst := (hdue k hk5).st
      have hlk := hDl k hk5
      refine Asg_cell (by walk_at "kd") (by walk_at "ce") c2 ?_
      have nw : wA ≠ L + 1 + 1 := fun e => by rw [e, c2] at c3; cases c3
      have nd : dA ≠ L + 1 + 1 := fun e => by have := TDk.tab; rw [e, c2] at this; cases this
      have c3 := at_set_ne (o' := .cell (some (.ref a))) nw c3
      have TDk : TD (τ.set (L + 1 + 1) (.cell (some (.ref a)))) dA ds D := ⟨at_set_ne nd TDk.tab, fun i b e => at_set_ne (fun q => by have := TDk.each i b e; rw [q, c2] at this; cases this) (TDk.each i b e), TDk.off⟩
      have c2 : (τ.set (L + 1 + 1) (.cell (some (.ref a)))) (L + 1 + 1) = some (.cell (some (.ref a))) := at_set_same
      generalize τ.set (L + 1 + 1) (.cell (some (.ref a))) = τ at c2 c3 TDk ⊢
      have hrow := TDk.each k a ha
      refine S_last ?_
      refine S_if ?_
      refine C_Compare ?_ rfl
      refine E_ListComp (cl := [(Str.ofString "row", L + 1 + 1)]) rfl (closure_of hce rfl) (by decide) rfl (by decide) (fun x => rfl) ?_
      repeat walk_at "s1"
      refine ⟨_, _, it_list (seq_of hrow), ⟨fun c' pA hcx hlx hsc' hce' hpA => ?_⟩⟩
      obtain ⟨g', lv', A', env'⟩ := c'
      obtain rfl : g' = G w base os mb := hcx
      obtain rfl : lv' = ⟨n + 5, true⟩ := hlx
      have hpA' : τ pA = none := hpA
      refine ⟨fun j st => ∃ τ', st = ([], τ') ∧ τ.Sub τ' ∧ τ' pA = some (.list (rangeL 1 1 j)), ⟨_, rfl, AHeap.sub_set _ hpA, by rw [at_set_same]; rfl⟩, ?_, ?_, ?_⟩
      · rintro j _ ⟨τ', rfl, s1, _⟩; exact seq_of (s1 _ _ hrow)
      · rintro j p _ hp ⟨τ', rfl, s1, s2⟩
        obtain ⟨x, hx, rfl⟩ : ∃ x, (D k)[j]? = some x ∧ p = labP x := by
          rw [List.getElem?_map] at hp
          cases q : (D k)[j]? with
          | none => rw [q] at hp; cases hp
          | some x => rw [q] at hp; exact ⟨x, rfl, (Option.some.inj hp).symm⟩
        obtain ⟨hjl, hxe⟩ := List.getElem?_eq_some_iff.mp hx
        have c2' := s1 _ _ c2
        refine Asg_local (by walk_at "kd") ?_
        repeat walk_at "s1"
        refine ⟨fun _ => ?_, fun h => by cases h⟩
        repeat walk_at "s1"
        refine WN_call ?_
        have hp' := List.pairwise_iff_getElem.mp hst
        have hcut : Cut ((labK w base os mb).ltP (labP x)) (((D k).take (j + 1) ++ (D k).drop (j + 1)).map labP) ((D k).take (j + 1)).length := cut_of (fun y hy => ?_) (fun y hy => ?_)
        · rw [List.take_append_drop] at hcut
          refine bisect_call2 B (seq_of (s1 _ _ hrow)) (by rw [List.length_map]; omega) lt_all hcut ?_
          have e1 : ((((D k).take (j + 1)).length : Nat) : Int) = 1 + (j : Int) * 1 := by rw [List.length_take]; omega
          rw [e1]
          refine ⟨_, s2, by rw [rangeL_length]; omega, _, ⟨_, rfl, s1.off hpA', ?_⟩, ⟨(fun _ _ e => by cases e), .refl _⟩⟩
          rw [at_set_same]
          simp only [rangeL, List.range_succ, List.map_append, List.map_cons, List.map_nil]
        · obtain ⟨i, hi, rfl⟩ := List.getElem_of_mem hy
          rw [List.length_take] at hi
          rw [List.getElem_take]
          unfold LexLe
          rcases Nat.lt_or_ge i j with q | q
          · have := hp' i j (by omega) hjl q
            rw [hxe] at this; omega
          · have : i = j := by omega
            subst this
            rw [hxe]; omega
        · obtain ⟨i, hi, rfl⟩ := List.getElem_of_mem hy
          rw [List.length_drop] at hi
          rw [List.getElem_drop]
          have := hp' j (j + 1 + i) hjl (by omega) (by omega)
          rw [hxe] at this
          unfold LexLe; omega
      · rintro _ ⟨τ', rfl, s1, s2⟩
        clear hsc' hce'
        rw [List.length_map] at s2
        have c2 := s1 _ _ c2
        have c3 := s1 _ _ c3
        have hrow := s1 _ _ hrow
        have TDk := TDk.sub s1
        repeat walk_at "s1"
        refine len_seq (seq_of hrow) (by rw [List.length_map]; omega) ?_
        repeat walk_at "s1"
        refine call_range2 fun r hr => ?_
        repeat walk_at "s1"
        refine call_listRange rfl at_set_same (by omega) (by omega) (by simp; omega) (by simp; omega) fun r2 hr2 => ?_
        have e1 : ((((D k).map labP).length : Nat) + (1 : Int) - 1).toNat = (D k).length := by rw [List.length_map]; omega
        rw [e1]
        refine same_ne (n := 0) (seq_of (at_set_fresh hr2 (at_set_fresh hr s2))) (seq_of at_set_same) (by omega) (fun p hp => ?_) ?_
        · obtain ⟨i, _, rfl⟩ := List.mem_map.mp hp
          exact eqR_int_self _
        refine truthy_b (ifQ_false (S_nil ?_))
        exact forQ_next ⟨_, _, rfl, at_set_fresh hr2 (at_set_fresh hr c2), at_set_fresh hr2 (at_set_fresh hr c3), TDk.sub ((AHeap.sub_set _ hr).fresh hr2)⟩ (St.le_app (.refl _))
    · rintro _ ⟨τ, o, rfl, c2, c3, TDk⟩
      refine S_nil (seqQ_next ?_)
      refine S_last (S_Return ?_)
      refine E_Compare ?_ rfl
      repeat walk_at "s1"
      refine WN_call ?_
      refine noted_call (n := n + 1) B (seq_of c3) hok hyl fun hA nA as N σ' s1 T I => ?_
      have TDk := TDk.sub s1
      repeat walk_at "s1"
      refine cmp_lists_eq (n := 2) (e := fun _ => true) (seq_of T.tab) (seq_of TDk.tab) (by simp [T.len, hd5]) (fun j p q hp hq => ?_) (by omega) ?_
      · rw [List.getElem?_map] at hp hq
        cases ha : as[j]? with
        | none => rw [ha] at hp; cases hp
        | some a =>
          cases hd : ds[j]? with
          | none => rw [hd] at hq; cases hq
          | some d =>
            rw [ha] at hp; rw [hd] at hq
            cases hp; cases hq
            have hj5 : j < 5 := by have := (List.getElem?_eq_some_iff.mp hd).1; omega
            have e := noted_due I (hdue j hj5).st (hdue j hj5).of (hdue j hj5).all
            have h1 := T.each j a ha
            have h2 := TDk.each j d hd
            by_cases had : a = d
            · subst had; exact .same _
            · rw [e] at h1
              have := EqR.lists (σ := σ') (n := 1) (e := fun _ => true) had (seq_of h1) (seq_of h2) rfl fun i p q hp hq => by
                rw [hp] at hq; cases hq
                obtain ⟨x, _, rfl⟩ := List.mem_map.mp (List.mem_of_getElem? hp)
                exact eqR_lab x
              rw [all_yes] at this
              exact this
      · rw [all_yes]
        exact hQ _

end Mine
end
section
open PySem PySem.W
set_option Elab.async false
set_option linter.unusedVariables false
set_option maxRecDepth 100000
namespace Mine
theorem mg_is {p : Params} {h : Heap} {ob : Obj} {n : Nat} (K : h.get? mainGlobals = some ob) (hd : ob.data = .dict (esW p) n) {mg : Str → Option Value} (hn : h.Ns mainGlobals mg) : mg = mgW p := by
  obtain ⟨o, es, ep, h1, h2, _, h3⟩ := hn
  rw [K] at h1
  have e := Option.some.inj h1
  subst e
  rw [hd] at h2
  injection h2 with e1 e2
  subst e1
  funext x
  exact (h3 x).symm
set_option maxHeartbeats 2000000 in
theorem finish05 {w : World} {s₁ : Shared} {mg mb : Str → Option Value} {items : Array Value} {ns : List Int} (hB : ∀ mg, mg = mgW w.params → s₁.heap.Ns mainGlobals mg → (∀ x : Str, x ≠ "__name__" → mb x = bootBuiltins x) → s₁.heap.Ns builtinsNs mb → s₁.heap.NoLimit → Bs ⟨PySem.Challenge.rw_dn0048_05.row.prog, w, s₁.heap, s₁.os, mg, mb⟩) (hmg : mg = mgW w.params) (hn : s₁.heap.Ns mainGlobals mg) (hb : s₁.heap.Ns builtinsNs mb)
    (hbu : ∀ x : Str, x ≠ "__name__" → mb x = bootBuiltins x) (hnl : s₁.heap.NoLimit) (hobj : s₁.heap.get? 99 = some { cls := .type "list", data := .seq items }) (hI : PyProof.Rows.IntsAre items.toList ns) (hz : ns.length ≤ 63) (hg : s₁.gens = #[]) (htk : 0 < s₁.toks) :
    wpAny (model PySem.Challenge.rw_dn0048_05.row.prog w) callerA (call (.ref 98) [.ref 99]) (fun v s' => v = .bool true ∧ (∀ b o, s₁.heap.get? b = some o → s'.heap.get? b = some o) ∧ s'.os = s₁.os ∧ s'.gens = #[]) (fun _ _ => False) s₁ := by
  subst hmg
  have B : Bs (G w s₁.heap s₁.os mb) := hB _ rfl hn hbu hb hnl
  have C := law_call B (n := 10) (sc := 99) (ns := ns) (σ := AHeap.set (fun _ => none) 99 (.rlist (intL ns))) (seq_ofr at_set_same) (by omega) (X := fun _ _ => False) (Q := fun p _ => p = .bool true) (fun _ => rfl)
  refine wpAny_call (codeAny_mono (C callerA [] [] [] s₁ [.ref 99] [] ?_ ?_ (.cons rfl .nil) .nil) fun r s' x => ?_)
  · exact ⟨rfl, by simp, fun _ => rfl, by decide +kernel, by decide +kernel⟩
  · refine ⟨fun _ _ h => h, hg, rfl, by simp, by simp, by simp, by simp, fun a o h => ?_, htk⟩
    by_cases ha : a = 99
    · rw [ha, AHeap.set_same] at h
      cases h
      rw [ha]
      exact ⟨items.toList, ⟨_, hobj⟩, intsAre_reps hI⟩
    · rw [AHeap.set_ne _ _ ha] at h; cases h
  · cases r with
    | error e => obtain ⟨y, cls, σ', h1, h2, h3, q⟩ := x; exact q.elim
    | ok f =>
      cases f with
      | ret v => obtain ⟨p, σ', R, hv, k, q⟩ := x; exact ⟨by rw [q] at hv; exact hv, R.stays, R.os, R.gens⟩
      | next => exact False.elim x
      | brk => exact False.elim x
      | cont => exact False.elim x
end Mine

open PySem.W.X PySem.W.ZRun PyProof.Rows
set_option maxHeartbeats 8000000 in
theorem PySem.Challenge.cw_dn0048_05_holds : PySem.Challenge.rw_dn0048_05.Holds := by
  w_on; o_law; z_head; (case hw => w_witness2)
  k_fill
  intro w s₀ s₁ mg mb G y fa o pm cd doc dV kV ho hd hcd hD hmg hg args vals as L hpre hlay hrd hwl hlo
  z_open y L KX ZH ZN ZT
  refine Ground.open G ?_
  intro T B D TE TW
  wrow_args hpre hlay hrd hwl hlo
  obtain ⟨hat, hsz⟩ := script_at L
  have htk := script_toks L ZT
  rw [ZN] at hat hsz
  subst hat
  x_fa T KX hmg
  rename Heap.IsList _ _ _ => hL
  rename IntsAre _ _ => hI
  rename ¬ ((63 : Int) < _) => hz
  have hB : ∀ mg, mg = Mine.mgW w.params → s₁.heap.Ns mainGlobals mg → (∀ x : Str, x ≠ "__name__" → mb x = bootBuiltins x) → s₁.heap.Ns builtinsNs mb → s₁.heap.NoLimit → Mine.Bs ⟨PySem.Challenge.rw_dn0048_05.row.prog, w, s₁.heap, s₁.os, mg, mb⟩ := by
    intro mg _ hn hbu hb hnl
    refine ⟨⟨hn, hb, hbu, hnl⟩, ?_, ?_, ?_⟩
    · intro a ha
      simp only [List.mem_cons, List.not_mem_nil, or_false] at ha
      rcases ha with rfl | rfl | rfl | rfl
      all_goals exact KX _ _ rfl
    · intro a ha
      simp only [List.mem_cons, List.not_mem_nil, or_false] at ha
      rcases ha with rfl | rfl
      all_goals exact ⟨_, ⟨_, _, _, KX _ _ rfl, rfl, by intro e he; simp at he; subst he; exact ⟨_, _, rfl⟩, fun _ => rfl⟩, rfl⟩
    · intro a ha
      simp only [List.mem_cons, List.not_mem_nil, or_false] at ha
      rcases ha with rfl | rfl | rfl | rfl | rfl | rfl | rfl | rfl | rfl | rfl | rfl | rfl
      all_goals exact ⟨KX _ _ rfl, _, _, _, _, rfl, KX _ _ rfl, rfl, rfl⟩
  have hmgw : mg = Mine.mgW w.params := Mine.mg_is (n := 22) (KX 3 _ rfl) rfl T.g
  refine wpAny_mono (Mine.finish05 hB hmgw T.g T.b T.builtins T.nolimit (script_obj L hL) (by simpa using hI) (by omega) hg (Nat.lt_of_lt_of_le (by decide) htk)) (fun v s' h => ?_) (fun e s' h => h.elim)
  obtain ⟨rfl, h1, h2, h3⟩ := h
  refine ⟨.inl ⟨.bool true, .bool true, [], rfl, fun _ => rfl, ReadsW.bool true, ?_, fun _ => ⟨List.nodup_nil, fun _ hm => (nomatch hm)⟩⟩, .of_keep h1, h2, .of_eq h3⟩
  first | rfl | wrow_post
end
