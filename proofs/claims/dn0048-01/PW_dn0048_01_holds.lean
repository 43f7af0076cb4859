import PyProof.Rows.All
import Wide.All
import OpenK.AllK
import Wide.FinOn
import OpenK.ZGo
import Lean
import PySem.Challenge.RW_dn0048_01
set_option Elab.async false
set_option linter.unusedVariables false
set_option linter.unusedSectionVars false
set_option linter.unusedSimpArgs false
set_option maxRecDepth 100000
section
open PySem PySem.W PyProof.Rows
set_option Elab.async false
set_option linter.unusedVariables false
namespace Mine

theorem runs_toks {M : Model} {Γ : Ctx} {p : Pos} {t : Sem PySem.Fin} {fs : List Frame} {s : Shared} {e : End} {s' : Shared} (h : Runs M Γ p t fs s e s') : s.toks ≤ s'.toks := by
  induction h <;> first
    | exact Nat.le_refl _
    | assumption
    | (rename_i h1 h2; exact Nat.le_trans h1 h2)
    | (simp only [setGen_toks] at *; omega)
    | (rename_i h1; exact Nat.le_trans (Nat.le_succ _) h1)
theorem wakes_toks {M : Model} {Γ : Ctx} {p : Pos} {g : Nat} {r : Resume} {s : Shared} {res : GenResult} {s' : Shared} (h : Wakes M Γ p g r s res s') : s.toks ≤ s'.toks := by
  unfold Wakes at h
  split at h
  · exact h.elim
  · split at h
    · obtain ⟨e₁, s₁, h1, _, _, rfl⟩ := h; have := runs_toks h1; exact this
    · obtain ⟨_, rfl⟩ := h; exact Nat.le_refl _
    · obtain ⟨_, rfl⟩ := h; exact Nat.le_refl _
  · obtain ⟨e₁, s₁, h1, _, _, rfl⟩ := h; have := runs_toks h1; exact this
  · obtain ⟨_, rfl⟩ := h; exact Nat.le_refl _
  · obtain ⟨_, rfl⟩ := h; exact Nat.le_refl _
theorem wp_toks {α : Type} (M : Model) (Γ : Ctx) (n : Nat) : ∀ (t : Sem α) (Q : α → Pos → Shared → Prop) (E : Value → Pos → Shared → Prop) (p : Pos) (s : Shared), n ≤ s.toks → Sem.wp M Γ t Q E p s →
    Sem.wp M Γ t (fun a p' s' => Q a p' s' ∧ n ≤ s'.toks) (fun e p' s' => E e p' s' ∧ n ≤ s'.toks) p s := by
  intro t
  induction t with
  | pure a => intro Q E p s hn h; rw [Sem.wp] at h ⊢; exact ⟨h, hn⟩
  | raise e => intro Q E p s hn h; rw [Sem.wp] at h ⊢; exact ⟨h, hn⟩
  | unsupported w => intro Q E p s hn h; rw [Sem.wp] at h; exact h.elim
  | finish w => intro Q E p s hn h; rw [Sem.wp] at h; exact h.elim
  | rule tag k ih => intro Q E p s hn h; rw [Sem.wp] at h ⊢; exact ih _ _ _ _ _ hn h
  | «at» tag k ih => intro Q E p s hn h; rw [Sem.wp] at h ⊢; exact ih _ _ _ _ _ hn h
  | load a part k ih => intro Q E p s hn h; rw [Sem.wp] at h ⊢; obtain ⟨o, ho, h⟩ := h; exact ⟨o, ho, ih _ _ _ _ _ hn h⟩
  | update a part f k ih => intro Q E p s hn h; rw [Sem.wp] at h ⊢; exact ⟨h.1, ih _ _ _ _ _ hn h.2⟩
  | alloc o k ih => intro Q E p s hn h; rw [Sem.wp] at h ⊢; exact ih _ _ _ _ _ hn h
  | loadIfAlive a k ih => intro Q E p s hn h; rw [Sem.wp] at h ⊢; exact ih _ _ _ _ _ hn h
  | point l k ih => intro Q E p s hn h; rw [Sem.wp] at h ⊢; exact ih _ _ _ _ _ hn h
  | register a k ih => intro Q E p s hn h; rw [Sem.wp] at h; exact h.elim
  | fresh k ih => intro Q E p s hn h; rw [Sem.wp] at h ⊢; exact ih _ _ _ _ _ (Nat.le_succ_of_le hn) h
  | ask k ih => intro Q E p s hn h; rw [Sem.wp] at h ⊢; exact ih _ _ _ _ _ hn h
  | choose src n k ih => intro Q E p s hn h; rw [Sem.wp] at h ⊢; exact ⟨h.1, ih _ _ _ _ _ hn h.2⟩
  | os q l k ih => intro Q E p s hn h; rw [Sem.wp] at h ⊢; exact ih _ _ _ _ _ hn h
  | call c hd g l k ih =>
    intro Q E p s hn h; rw [Sem.wp] at h ⊢
    obtain ⟨r, s', hr, h⟩ := h
    exact ⟨r, s', hr, ih _ _ _ _ _ (Nat.le_trans hn (runs_toks hr)) h⟩
  | handled own k ih => intro Q E p s hn h; rw [Sem.wp] at h ⊢; exact ih _ _ _ _ _ hn h
  | newGen c k ih => intro Q E p s hn h; rw [Sem.wp] at h ⊢; exact ih _ _ _ _ _ hn h
  | genState g k ih => intro Q E p s hn h; rw [Sem.wp] at h ⊢; obtain ⟨st, hst, h⟩ := h; exact ⟨st, hst, ih _ _ _ _ _ hn h⟩
  | resume g r l k ih => intro Q E p s hn h; rw [Sem.wp] at h ⊢; obtain ⟨res, s', hw, h⟩ := h; exact ⟨res, s', hw, ih _ _ _ _ _ (Nat.le_trans hn (wakes_toks hw)) h⟩
  | yield v g l k ih => intro Q E p s hn h; rw [Sem.wp] at h; exact h.elim
  | stack k ih => intro Q E p s hn h; rw [Sem.wp] at h ⊢; exact ih _ _ _ _ _ hn h
  | fork c k ih => intro Q E p s hn h; rw [Sem.wp] at h; exact h.elim
  | thread k ih => intro Q E p s hn h; rw [Sem.wp] at h ⊢; exact ih _ _ _ _ _ hn h
  | await a tk d l k ih => intro Q E p s hn h; rw [Sem.wp] at h; exact h.elim
theorem wpAny_toks {α : Type} {M : Model} {A : Around} {t : Sem α} {Q : α → Shared → Prop} {E : Value → Shared → Prop} {s : Shared} (h : wpAny M A t Q E s) :
    wpAny M A t (fun a s' => Q a s' ∧ s.toks ≤ s'.toks) (fun e s' => E e s' ∧ s.toks ≤ s'.toks) s := fun Γ p hΓ => wp_toks M Γ s.toks t _ _ p s (Nat.le_refl _) (h Γ p hΓ)
theorem newFunctionEnv_cells_toks {M : Model} {A : Around} {E : Value → Shared → Prop} {s : Shared} {scope : Scope} {globals : Addr} {binds : List (Str × Value)} {qual : Str} {func : Option Addr} {code : Value} {builtins : Addr} {Q : Env → Shared → Prop}
    (hk : scope.kind = .function)
    (hkind : ∀ x ∈ binds, scope.names.lookup x.1 = some .local ∨ (scope.names.lookup x.1 = some .cell ∧ ((cellsFrom (s.heap.objs.size + 1) scope.names []).lookup x.1).isSome = true))
    (hQ : ∀ env, env = newEnv scope s.heap.objs.size globals (cellsFrom (s.heap.objs.size + 1) scope.names []) qual func code none builtins →
      ∀ s', InCallC s env.locals (bindL env.kindOf binds fun _ => none) env.cells (bindC env.kindOf binds fun _ => none) s' → s.toks ≤ s'.toks → Q env s') :
    wpAny M A (newFunctionEnv scope globals [] binds qual func code none builtins) Q E s :=
  wpAny_mono (wpAny_toks (E := E) (Q := fun env s' => env = newEnv scope s.heap.objs.size globals (cellsFrom (s.heap.objs.size + 1) scope.names []) qual func code none builtins ∧ InCallC s env.locals (bindL env.kindOf binds fun _ => none) env.cells (bindC env.kindOf binds fun _ => none) s')
    (wpAny_newFunctionEnv_cells hk hkind fun env he s' hin => ⟨he, hin⟩)) (fun env s' h => hQ env h.1.1 s' h.1.2 h.2) fun _ _ x => x.1
end Mine
end
section
open PySem PySem.W PyProof.Rows
set_option Elab.async false
set_option linter.unusedVariables false
namespace Mine

/-- plain values -/
inductive PV where
  | none | bool (b : Bool) | int (i : Int) | str (s : Str) (t : Tok) | ref (a : Addr) | ty (n : String) | bi (n : String) | tup (l : List PV)
  deriving Inhabited

/-- a plain list, a plain tuple -/
def LI (h : Heap) (a : Addr) (vs : List Value) : Prop := ∃ n, h.get? a = some { cls := .type "list", dict := none, data := .seq vs.toArray n, slots := #[] }
def TU (h : Heap) (a : Addr) (vs : List Value) : Prop := ∃ n, h.get? a = some { cls := .type "tuple", dict := none, data := .seq vs.toArray n, slots := #[] }

mutual
def VRep (h : Heap) : PV → Value → Prop
  | .none, v => v = .none
  | .bool b, v => v = .bool b
  | .int i, v => ∃ t, v = .int i t
  | .str x t, v => v = .str x t
  | .ref a, v => v = .ref a
  | .ty n, v => v = .type n
  | .bi n, v => v = .builtin n
  | .tup l, v => ∃ a vs, v = .ref a ∧ TU h a vs ∧ VReps h l vs
def VReps (h : Heap) : List PV → List Value → Prop
  | [], vs => vs = []
  | p :: ps, vs => ∃ v r, vs = v :: r ∧ VRep h p v ∧ VReps h ps r
end

def Keeps (h h' : Heap) : Prop := ∀ a vs, TU h a vs → TU h' a vs
theorem Keeps.refl (h : Heap) : Keeps h h := fun _ _ x => x
theorem Keeps.trans {h₁ h₂ h₃ : Heap} (x : Keeps h₁ h₂) (y : Keeps h₂ h₃) : Keeps h₁ h₃ := fun a vs e => y a vs (x a vs e)

mutual
theorem VRep.mono {h h' : Heap} (k : Keeps h h') : ∀ {p : PV} {v : Value}, VRep h p v → VRep h' p v
  | .none, _, x | .bool _, _, x | .int _, _, x | .str _ _, _, x | .ref _, _, x | .ty _, _, x | .bi _, _, x => by simpa only [VRep] using x
  | .tup l, v, x => by
    simp only [VRep] at x ⊢
    obtain ⟨a, vs, e, ht, hr⟩ := x
    exact ⟨a, vs, e, k _ _ ht, VReps.mono k hr⟩
theorem VReps.mono {h h' : Heap} (k : Keeps h h') : ∀ {ps : List PV} {vs : List Value}, VReps h ps vs → VReps h' ps vs
  | [], _, x => by simpa only [VReps] using x
  | p :: ps, vs, x => by
    simp only [VReps] at x ⊢
    obtain ⟨v, r, e, h1, h2⟩ := x
    exact ⟨v, r, e, VRep.mono k h1, VReps.mono k h2⟩
end

theorem VReps.nil {h : Heap} : VReps h [] [] := by simp only [VReps]
theorem VReps.cons {h : Heap} {p ps v vs} (a : VRep h p v) (b : VReps h ps vs) : VReps h (p :: ps) (v :: vs) := by
  simp only [VReps]; exact ⟨v, vs, rfl, a, b⟩
theorem VReps.nil_inv {h : Heap} {vs} (x : VReps h [] vs) : vs = [] := by simpa only [VReps] using x
theorem VReps.cons_inv {h : Heap} {p ps vs} (x : VReps h (p :: ps) vs) : ∃ v r, vs = v :: r ∧ VRep h p v ∧ VReps h ps r := by simpa only [VReps] using x
theorem VReps.length {h : Heap} : ∀ {ps vs}, VReps h ps vs → vs.length = ps.length
  | [], _, x => by rw [x.nil_inv]; rfl
  | p :: ps, vs, x => by obtain ⟨v, r, rfl, _, h2⟩ := x.cons_inv; simp [h2.length]
theorem VReps.get {h : Heap} : ∀ {ps vs}, VReps h ps vs → ∀ (i : Nat) (p : PV), ps[i]? = some p → ∃ v, vs[i]? = some v ∧ VRep h p v
  | [], _, _, i, p, e => by simp at e
  | q :: ps, vs, x, i, p, e => by
    obtain ⟨v, r, rfl, h1, h2⟩ := x.cons_inv
    cases i with
    | zero => simp at e; subst e; exact ⟨v, by simp, h1⟩
    | succ j => simp at e; obtain ⟨v', a, b⟩ := h2.get j p e; exact ⟨v', by simpa using a, b⟩
theorem VReps.append {h : Heap} : ∀ {ps vs qs ws}, VReps h ps vs → VReps h qs ws → VReps h (ps ++ qs) (vs ++ ws)
  | [], _, _, _, x, y => by rw [x.nil_inv]; exact y
  | p :: ps, vs, _, _, x, y => by obtain ⟨v, r, rfl, h1, h2⟩ := x.cons_inv; exact .cons h1 (h2.append y)
theorem VReps.take {h : Heap} : ∀ {ps vs} (n : Nat), VReps h ps vs → VReps h (ps.take n) (vs.take n)
  | [], _, n, x => by rw [x.nil_inv]; simpa using VReps.nil
  | p :: ps, vs, n, x => by
    obtain ⟨v, r, rfl, h1, h2⟩ := x.cons_inv
    cases n with
    | zero => simpa using VReps.nil
    | succ n => exact .cons h1 (h2.take n)
theorem VReps.drop {h : Heap} : ∀ {ps vs} (n : Nat), VReps h ps vs → VReps h (ps.drop n) (vs.drop n)
  | [], _, n, x => by rw [x.nil_inv]; simpa using VReps.nil
  | p :: ps, vs, n, x => by
    obtain ⟨v, r, rfl, h1, h2⟩ := x.cons_inv
    cases n with
    | zero => exact .cons h1 h2
    | succ n => exact h2.drop n
theorem VReps.set {h : Heap} : ∀ {ps vs} (n : Nat) {p v}, VReps h ps vs → VRep h p v → VReps h (ps.set n p) (vs.set n v)
  | [], _, n, _, _, x, _ => by rw [x.nil_inv]; simpa using VReps.nil
  | q :: ps, vs, n, p, v, x, y => by
    obtain ⟨v', r, rfl, h1, h2⟩ := x.cons_inv
    cases n with
    | zero => exact .cons y h2
    | succ n => exact .cons h1 (h2.set n y)
theorem VReps.of_forall {h : Heap} : ∀ {ps : List PV} {vs : List Value}, vs.length = ps.length → (∀ (i : Nat) p v, ps[i]? = some p → vs[i]? = some v → VRep h p v) → VReps h ps vs
  | [], vs, hl, _ => by rw [List.length_eq_zero_iff.mp hl]; exact .nil
  | p :: ps, [], hl, _ => by simp at hl
  | p :: ps, v :: vs, hl, f => .cons (f 0 p v (by simp) (by simp)) (.of_forall (by simpa using hl) fun i q w a b => f (i + 1) q w (by simpa using a) (by simpa using b))

/-- things that the call has made -/
inductive AObj where
  | list (l : List PV)
  | rlist (l : List PV)
  | cell (v : Option PV)
  | range (a b c : Int)
  | raw (o : Obj)

def OptRep (h : Heap) : Option PV → Option Value → Prop
  | none, v => v = none
  | some p, v => ∃ x, v = some x ∧ VRep h p x

def ORep (base h : Heap) (a : Addr) : AObj → Prop
  | .list l => base.get? a = none ∧ ∃ vs, LI h a vs ∧ VReps h l vs
  | .rlist l => ∃ vs, LI h a vs ∧ VReps h l vs
  | .cell v => base.get? a = none ∧ ∃ x, h.IsCell a x ∧ OptRep h v x
  | .range x y z => base.get? a = none ∧ ∃ t u v, IsRange h a x y z t u v
  | .raw o => base.get? a = none ∧ h.get? a = some o ∧ o.cls ≠ .type "tuple"

abbrev AHeap := Addr → Option AObj
def AHeap.set (σ : AHeap) (a : Addr) (o : AObj) : AHeap := fun b => if b = a then some o else σ b
def AHeap.del (σ : AHeap) (a : Addr) : AHeap := fun b => if b = a then none else σ b
@[simp] theorem AHeap.set_same (σ : AHeap) (a : Addr) (o : AObj) : (σ.set a o) a = some o := by simp [AHeap.set]
theorem AHeap.set_ne (σ : AHeap) {a b : Addr} (o : AObj) (h : b ≠ a) : (σ.set a o) b = σ b := by simp [AHeap.set, h]
@[simp] theorem AHeap.set_set (σ : AHeap) (a : Addr) (o o' : AObj) : (σ.set a o).set a o' = σ.set a o' := by
  funext b; simp only [AHeap.set]; split <;> rfl
theorem AHeap.set_comm (σ : AHeap) {a b : Addr} (o o' : AObj) (h : a ≠ b) : (σ.set a o).set b o' = (σ.set b o').set a o := by
  funext c; simp only [AHeap.set]; split <;> split <;> first | rfl | (subst_vars; exact absurd rfl h)
theorem AHeap.set_self (σ : AHeap) {a : Addr} {o : AObj} (h : σ a = some o) : σ.set a o = σ := by
  funext b; simp only [AHeap.set]; split
  · subst_vars; exact h.symm
  · rfl
def AHeap.Sub (σ σ' : AHeap) : Prop := ∀ a o, σ a = some o → σ' a = some o
theorem AHeap.Sub.refl (σ : AHeap) : σ.Sub σ := fun _ _ x => x
theorem AHeap.sub_set {σ : AHeap} {a : Addr} (o : AObj) (h : σ a = none) : σ.Sub (σ.set a o) := fun b o' e => by
  rw [AHeap.set_ne]; exact e
  intro q; subst q; rw [h] at e; cases e

abbrev Locals := List (Str × PV)
def setL (x : Str) (p : PV) : Locals → Locals
  | [] => [(x, p)]
  | (y, q) :: r => if x = y then (x, p) :: r else (y, q) :: setL x p r
theorem lookup_setL (x y : Str) (p : PV) : ∀ μ : Locals, (setL x p μ).lookup y = if y = x then some p else μ.lookup y
  | [] => by
    simp only [setL, List.lookup_cons, List.lookup_nil]
    by_cases h : y = x
    · simp [h]
    · have : (y == x) = false := beq_eq_false_iff_ne.mpr h
      simp [this, h]
  | (z, q) :: r => by
    unfold setL
    by_cases hz : x = z
    · subst hz
      simp only [if_true, List.lookup_cons]
      by_cases h : y = x
      · simp [h]
      · have : (y == x) = false := beq_eq_false_iff_ne.mpr h
        simp [this, h]
    · simp only [hz, if_false, List.lookup_cons]
      by_cases h : y = z
      · subst h
        have hn : ¬ y = x := fun e => hz e.symm
        simp [hn]
      · have : (y == z) = false := beq_eq_false_iff_ne.mpr h
        simp only [this]
        exact lookup_setL x y p r

abbrev St := Locals × AHeap

structure FrameOk (base h : Heap) (L : Addr) (μ : Locals) : Prop where
  new : base.get? L = none
  ns : ∃ m, h.Ns L m ∧ ∀ x p, μ.lookup x = some p → ∃ v, m x = some v ∧ VRep h p v

structure Rep (base : Heap) (os₀ : OsState) (hs : List (Addr × Obj)) (stk : List (Addr × Locals)) (σ : AHeap) (s : Shared) : Prop where
  stays : base.StaysIn s.heap
  gens : s.gens = #[]
  os : s.os = os₀
  hid : ∀ p ∈ hs, s.heap.get? p.1 = some p.2 ∧ base.get? p.1 = none ∧ σ p.1 = none ∧ p.1 ∉ stk.map (·.1) ∧ True
  frames : ∀ f ∈ stk, FrameOk base s.heap f.1 f.2 ∧ σ f.1 = none
  nodup : (stk.map (·.1)).Nodup
  hnd : (hs.map (·.1)).Nodup
  heap : ∀ a o, σ a = some o → ORep base s.heap a o
  tk : 0 < s.toks

theorem ORep.there {base h : Heap} {a : Addr} {o : AObj} (x : ORep base h a o) : ∃ ob, h.get? a = some ob ∧ ob.cls ≠ .type "tuple" ∨ (∃ v, h.IsCell a v) := by
  cases o with
  | list l => obtain ⟨_, vs, ⟨n, h1⟩, _⟩ := x; exact ⟨_, .inl ⟨h1, by show Value.type "list" ≠ Value.type "tuple"; decide⟩⟩
  | rlist l => obtain ⟨vs, ⟨n, h1⟩, _⟩ := x; exact ⟨_, .inl ⟨h1, by show Value.type "list" ≠ Value.type "tuple"; decide⟩⟩
  | cell v => obtain ⟨_, x, h1, _⟩ := x; exact ⟨default, .inr ⟨x, h1⟩⟩
  | range x y z => obtain ⟨_, t, u, v, h1⟩ := x; exact ⟨_, .inl ⟨h1, by show Value.type "range" ≠ Value.type "tuple"; decide⟩⟩
  | raw o => exact ⟨o, .inl ⟨x.2.1, x.2.2⟩⟩
theorem ORep.lt {base h : Heap} {a : Addr} {o : AObj} (x : ORep base h a o) : a < h.objs.size := by
  obtain ⟨ob, h1 | ⟨v, ob, h1, _⟩⟩ := x.there
  · exact Heap.lt_size h1.1
  · exact Heap.lt_size h1

/-- h' keeps what h holds, but for a -/
theorem OptRep.mono {h h' : Heap} (k : Keeps h h') {o : Option PV} {v : Option Value} (x : OptRep h o v) : OptRep h' o v := by
  cases o with
  | none => exact x
  | some p => obtain ⟨y, e, r⟩ := x; exact ⟨y, e, r.mono k⟩
theorem ORep.mono {base h h' : Heap} {a : Addr} {o : AObj} (x : ORep base h a o) (k : Keeps h h') (hk : ∀ ob, h.get? a = some ob → h'.get? a = some ob) : ORep base h' a o := by
  cases o with
  | list l => obtain ⟨h0, vs, ⟨n, h1⟩, h3⟩ := x; exact ⟨h0, vs, ⟨n, hk _ h1⟩, h3.mono k⟩
  | rlist l => obtain ⟨vs, ⟨n, h1⟩, h3⟩ := x; exact ⟨vs, ⟨n, hk _ h1⟩, h3.mono k⟩
  | cell v => obtain ⟨h0, y, ⟨ob, h1, h2⟩, h3⟩ := x; exact ⟨h0, y, ⟨ob, hk _ h1, h2⟩, h3.mono k⟩
  | range x y z => obtain ⟨h0, t, u, v, h1⟩ := x; exact ⟨h0, t, u, v, hk _ h1⟩
  | raw o => exact ⟨x.1, hk _ x.2.1, x.2.2⟩
theorem FrameOk.mono {base h h' : Heap} {L : Addr} {μ : Locals} (x : FrameOk base h L μ) (k : Keeps h h') (hk : ∀ ob, h.get? L = some ob → h'.get? L = some ob) : FrameOk base h' L μ := by
  obtain ⟨h0, m, ⟨ob, es, ep, h1, h2⟩, h3⟩ := x
  exact ⟨h0, m, ⟨ob, es, ep, hk _ h1, h2⟩, fun x p e => let ⟨v, a, b⟩ := h3 x p e; ⟨v, a, b.mono k⟩⟩
theorem FrameOk.lt {base h : Heap} {L : Addr} {μ : Locals} (x : FrameOk base h L μ) : L < h.objs.size := by
  obtain ⟨_, m, hn, _⟩ := x; exact hn.lt

section
variable {base : Heap} {os₀ : OsState} {hid : List (Addr × Obj)} {stk : List (Addr × Locals)} {σ : AHeap} {s : Shared}

/-- nothing that stood has changed -/
theorem Rep.grow (R : Rep base os₀ hid stk σ s) {s' : Shared} (hk : ∀ b o, s.heap.get? b = some o → s'.heap.get? b = some o) (hg : s'.gens = s.gens) (ho : s'.os = s.os) (ht : s.toks ≤ s'.toks := by first | exact Nat.le_refl _ | exact Nat.le_succ _ | assumption | (simp only; omega)) : Rep base os₀ hid stk σ s' := by
  have k : Keeps s.heap s'.heap := fun a vs ⟨n, h1⟩ => ⟨n, hk _ _ h1⟩
  exact ⟨fun b o e => hk _ _ (R.stays b o e), hg.trans R.gens, ho.trans R.os, fun p hp => let ⟨a, b⟩ := R.hid p hp; ⟨hk _ _ a, b⟩,
    fun f hf => ⟨(R.frames f hf).1.mono k fun _ => hk _ _, (R.frames f hf).2⟩, R.nodup, R.hnd, fun a o e => (R.heap a o e).mono k fun _ => hk _ _, Nat.lt_of_lt_of_le R.tk ht⟩

theorem Rep.weaken (R : Rep base os₀ hid stk σ s) {σ' : AHeap} (h : σ'.Sub σ) : Rep base os₀ hid stk σ' s := by
  have hn : ∀ a, σ a = none → σ' a = none := fun a e => by
    cases q : σ' a with
    | none => rfl
    | some o => rw [h _ _ q] at e; cases e
  exact ⟨R.stays, R.gens, R.os, fun p hp => let ⟨a, b, c, d⟩ := R.hid p hp; ⟨a, b, hn _ c, d⟩, fun f hf => ⟨(R.frames f hf).1, hn _ (R.frames f hf).2⟩, R.nodup, R.hnd, fun a o e => R.heap a o (h a o e), R.tk⟩

theorem Rep.locals {L : Addr} {μ μ' : Locals} (R : Rep base os₀ hid ((L, μ) :: stk) σ s) (h : ∀ x p, μ'.lookup x = some p → μ.lookup x = some p) : Rep base os₀ hid ((L, μ') :: stk) σ s := by
  refine ⟨R.stays, R.gens, R.os, R.hid, fun f hf => ?_, R.nodup, R.hnd, R.heap, R.tk⟩
  rcases List.mem_cons.mp hf with rfl | hf
  · obtain ⟨⟨h0, m, hn, h3⟩, h4⟩ := R.frames (L, μ) (List.mem_cons_self ..)
    exact ⟨⟨h0, m, hn, fun x p e => h3 x p (h x p e)⟩, h4⟩
  · exact R.frames f (List.mem_cons_of_mem _ hf)

/-- an address at which nothing told stands but σ's own -/
theorem Rep.put (R : Rep base os₀ hid stk σ s) {s' : Shared} {a : Addr} {o : AObj} (hk : ∀ b ob, b ≠ a → s.heap.get? b = some ob → s'.heap.get? b = some ob)
    (hnt : ∀ vs, ¬ TU s.heap a vs) (hb : base.get? a = none) (hh : ∀ p ∈ hid, p.1 ≠ a) (hs : ∀ f ∈ stk, f.1 ≠ a)
    (hn : ORep base s'.heap a o) (hg : s'.gens = s.gens) (ho : s'.os = s.os) (ht : s.toks ≤ s'.toks := by first | exact Nat.le_refl _ | exact Nat.le_succ _ | assumption | (simp only; omega)) : Rep base os₀ hid stk (σ.set a o) s' := by
  have k : Keeps s.heap s'.heap := fun b vs ⟨n, h1⟩ => ⟨n, hk _ _ (fun e => hnt vs (e ▸ ⟨n, h1⟩)) h1⟩
  refine ⟨fun b ob e => hk _ _ (fun q => ?_) (R.stays b ob e), hg.trans R.gens, ho.trans R.os, fun p hp => ?_, fun f hf => ?_, R.nodup, R.hnd, fun b ob e => ?_, Nat.lt_of_lt_of_le R.tk ht⟩
  · subst q; rw [hb] at e; cases e
  · obtain ⟨a1, b1, c1, d1⟩ := R.hid p hp
    exact ⟨hk _ _ (hh p hp) a1, b1, by rw [AHeap.set_ne _ _ (hh p hp)]; exact c1, d1⟩
  · exact ⟨(R.frames f hf).1.mono k fun _ => hk _ _ (hs f hf), by rw [AHeap.set_ne _ _ (hs f hf)]; exact (R.frames f hf).2⟩
  · by_cases q : b = a
    · subst q; rw [AHeap.set_same] at e; cases e; exact hn
    · rw [AHeap.set_ne _ _ q] at e; exact (R.heap b ob e).mono k fun _ => hk _ _ q

theorem Rep.hid_ne (R : Rep base os₀ hid stk σ s) {a : Addr} {o : AObj} (h : σ a = some o) : ∀ p ∈ hid, p.1 ≠ a := fun p hp q => by
  have := (R.hid p hp).2.2.1; rw [q, h] at this; cases this
theorem Rep.stk_ne (R : Rep base os₀ hid stk σ s) {a : Addr} {o : AObj} (h : σ a = some o) : ∀ f ∈ stk, f.1 ≠ a := fun p hp q => by
  have := (R.frames p hp).2; rw [q, h] at this; cases this

theorem Rep.fresh_hid (R : Rep base os₀ hid stk σ s) : ∀ p ∈ hid, p.1 ≠ s.heap.objs.size := fun p hp => Nat.ne_of_lt (Heap.lt_size (R.hid p hp).1)
theorem Rep.fresh_stk (R : Rep base os₀ hid stk σ s) : ∀ f ∈ stk, f.1 ≠ s.heap.objs.size := fun p hp => Nat.ne_of_lt (R.frames p hp).1.lt
theorem Rep.fresh_σ (R : Rep base os₀ hid stk σ s) : σ s.heap.objs.size = none := by
  cases q : σ s.heap.objs.size with
  | none => rfl
  | some o => exact absurd (R.heap _ _ q).lt (Nat.lt_irrefl _)
theorem Rep.fresh_base (R : Rep base os₀ hid stk σ s) : base.get? s.heap.objs.size = none := R.stays.fresh

/-- a new object -/
theorem Rep.alloc (R : Rep base os₀ hid stk σ s) {ob : Obj} {o : AObj} (hn : ORep base (s.heap.push ob) s.heap.objs.size o) :
    Rep base os₀ hid stk (σ.set s.heap.objs.size o) { s with heap := s.heap.push ob } :=
  R.put (fun b ob' _ e => Heap.get?_push_of_some _ e) (fun vs ⟨_, h1⟩ => absurd (Heap.lt_size h1) (Nat.lt_irrefl _)) R.fresh_base R.fresh_hid R.fresh_stk hn rfl rfl

theorem Keeps.push (h : Heap) (o : Obj) : Keeps h (h.push o) := fun _ _ ⟨n, x⟩ => ⟨n, Heap.get?_push_of_some o x⟩

/-- a name stored -/
theorem Rep.store {L : Addr} {μ : Locals} (R : Rep base os₀ hid ((L, μ) :: stk) σ s) {x : Str} {p : PV} {v : Value} {h' : Heap} {tk : Nat} {m : Str → Option Value} (hm : s.heap.Ns L m)
    (hmm : ∀ x p, μ.lookup x = some p → ∃ v, m x = some v ∧ VRep s.heap p v)
    (hn : h'.Ns L (fun y => if y = x then some v else m y)) (hs : Heap.SameBut L s.heap h') (hv : VRep s.heap p v) (ht : s.toks ≤ tk := by first | exact Nat.le_refl _ | exact Nat.le_succ _) :
    Rep base os₀ hid ((L, setL x p μ) :: stk) σ { s with heap := h', toks := tk } ∧ Keeps s.heap h' := by
  have hnt : ∀ vs, ¬ TU s.heap L vs := fun vs ⟨n, h1⟩ => by
    obtain ⟨o', es, ep, h3, h4, _⟩ := hm
    rw [h1] at h3; cases h3; cases h4
  have hk : ∀ b ob, b ≠ L → s.heap.get? b = some ob → h'.get? b = some ob := fun b ob hb e => (hs.2 b hb).trans e
  have k : Keeps s.heap h' := fun b vs ⟨n, h1⟩ => ⟨n, hk _ _ (fun e => hnt vs (e ▸ ⟨n, h1⟩)) h1⟩
  have hLf := R.frames (L, μ) (List.mem_cons_self ..)
  refine ⟨⟨fun b ob e => hk _ _ (fun q => ?_) (R.stays b ob e), R.gens, R.os, fun p hp => ?_, fun f hf => ?_, R.nodup, R.hnd, fun b ob e => ?_, Nat.lt_of_lt_of_le R.tk ht⟩, k⟩
  · subst q; rw [hLf.1.new] at e; cases e
  · obtain ⟨a1, b1, c1, d1, e1⟩ := R.hid p hp
    exact ⟨hk _ _ (fun q => d1 (by simp [q])) a1, b1, c1, by simpa using d1, e1⟩
  · rcases List.mem_cons.mp hf with rfl | hf
    · refine ⟨⟨hLf.1.new, _, hn, fun y q e => ?_⟩, hLf.2⟩
      simp only [lookup_setL] at e
      by_cases hy : y = x
      · simp only [hy, if_true] at e ⊢; cases e; exact ⟨v, rfl, hv.mono k⟩
      · simp only [hy, if_false] at e ⊢
        obtain ⟨v', a, b⟩ := hmm y q e
        exact ⟨v', a, b.mono k⟩
    · have hne : f.1 ≠ L := fun q => by
        have := R.nodup; simp only [List.map_cons, List.nodup_cons] at this
        exact this.1 (q ▸ List.mem_map_of_mem hf)
      exact ⟨(R.frames f (List.mem_cons_of_mem _ hf)).1.mono k fun _ => hk _ _ hne, (R.frames f (List.mem_cons_of_mem _ hf)).2⟩
  · have hne : b ≠ L := fun q => by rw [q, hLf.2] at e; cases e
    exact (R.heap b ob e).mono k fun _ => hk _ _ hne
end
end Mine
end
section
open PySem PySem.W PyProof.Rows
set_option Elab.async false
set_option linter.unusedVariables false
namespace Mine

structure Lv where
  d : Nat
  calm : Bool

structure AOk (lv : Lv) (A : Around) (frs : List Env) (ls : List Addr) : Prop where
  frames : A.frames = some frs
  frs : ∀ e ∈ frs, e.scope.kind ≠ .module ∧ ∃ L, e.frame = some L ∧ L ∈ ls
  calm : lv.calm = true → A.handled = none
  depth : A.depth + lv.d ≤ 900
  units : A.units + 20 * lv.d ≤ 9000

structure COk (lv : Lv) (A : Around) (env : Env) (ls : List Addr) : Prop where
  ok : ∃ e₀ rest, AOk lv A (e₀ :: rest) (env.locals :: ls) ∧ e₀.frame = env.frame
  kind : env.scope.kind = .function
  globals : env.globals = mainGlobals
  builtins : env.builtins = builtinsNs

def Apart (base : Heap) (hid : List (Addr × Obj)) (σ : AHeap) (a : Addr) : Prop := base.get? a = none ∧ σ a = none ∧ ∀ p ∈ hid, p.1 ≠ a

/-- an exception under way -/
structure ExcAt (base : Heap) (hid : List (Addr × Obj)) (σ : AHeap) (h : Heap) (x : Addr) (cls : String) : Prop where
  apart : Apart base hid σ x
  there : ∃ ob vs, h.get? x = some ob ∧ ob.cls = .type cls ∧ ob.cls ≠ .type "tuple" ∧ ob.data = .fields vs ∧
    (vs[1]? = some .none ∨ ∃ T oT ts, vs[1]? = some (.ref T) ∧ h.get? T = some oT ∧ oT.cls ≠ .type "tuple" ∧ oT.data = .fields ts ∧ 3 < ts.size ∧ T ≠ x ∧ Apart base hid σ T)
/-- an exception that bears a traceback -/
structure ExcNoted (base : Heap) (hid : List (Addr × Obj)) (σ : AHeap) (h : Heap) (x : Addr) (cls : String) : Prop where
  apart : Apart base hid σ x
  there : ∃ ob vs T oT ts, h.get? x = some ob ∧ ob.cls = .type cls ∧ ob.cls ≠ .type "tuple" ∧ ob.data = .fields vs ∧ vs[1]? = some (.ref T) ∧ h.get? T = some oT ∧ oT.cls ≠ .type "tuple" ∧ oT.data = .fields ts ∧ 3 < ts.size ∧ T ≠ x ∧ Apart base hid σ T
theorem ExcNoted.at {base hid σ h x cls} (e : ExcNoted base hid σ h x cls) : ExcAt base hid σ h x cls := by
  obtain ⟨a, ob, vs, T, oT, ts, h1, h2, h3, h4, h5⟩ := e
  exact ⟨a, ob, vs, h1, h2, h3, h4, .inr ⟨T, oT, ts, h5⟩⟩

theorem ExcAt.map {base hid hid' σ σ' h x cls} (e : ExcAt base hid σ h x cls) (f : ∀ a, Apart base hid σ a → Apart base hid' σ' a) : ExcAt base hid' σ' h x cls := by
  obtain ⟨a, ob, vs, h1, h2, h3, h4, h5⟩ := e
  exact ⟨f _ a, ob, vs, h1, h2, h3, h4, h5.imp id fun ⟨T, oT, ts, k1, k2, k3, k4, k5, k6, k7⟩ => ⟨T, oT, ts, k1, k2, k3, k4, k5, k6, f _ k7⟩⟩
section
variable {base : Heap} {os₀ : OsState} {hid : List (Addr × Obj)} {stk : List (Addr × Locals)} {σ : AHeap} {s : Shared}

/-- an object that nothing tells of has changed -/
theorem Rep.aside (R : Rep base os₀ hid stk σ s) {s' : Shared} {a : Addr} (hk : ∀ b ob, b ≠ a → s.heap.get? b = some ob → s'.heap.get? b = some ob)
    (ha : Apart base hid σ a) (hnt : ∀ vs, ¬ TU s.heap a vs) (hs : ∀ f ∈ stk, f.1 ≠ a) (hg : s'.gens = s.gens := by rfl) (ho : s'.os = s.os := by rfl) (ht : s.toks ≤ s'.toks := by exact Nat.le_refl _) : Rep base os₀ hid stk σ s' := by
  have k : Keeps s.heap s'.heap := fun b vs ⟨n, h1⟩ => ⟨n, hk _ _ (fun e => hnt vs (e ▸ ⟨n, h1⟩)) h1⟩
  refine ⟨fun b ob e => hk _ _ (fun q => ?_) (R.stays b ob e), hg.trans R.gens, ho.trans R.os, fun p hp => ?_, fun f hf => ?_, R.nodup, R.hnd, fun b ob e => ?_, Nat.lt_of_lt_of_le R.tk ht⟩
  · subst q; rw [ha.1] at e; cases e
  · obtain ⟨a1, r⟩ := R.hid p hp
    exact ⟨hk _ _ (ha.2.2 p hp) a1, r⟩
  · exact ⟨(R.frames f hf).1.mono k fun _ => hk _ _ (hs f hf), (R.frames f hf).2⟩
  · exact (R.heap b ob e).mono k fun _ => hk _ _ (fun q => by rw [q, ha.2.1] at e; cases e)

theorem stk_not_fields (R : Rep base os₀ hid stk σ s) {a : Addr} {ob : Obj} {vs} (h : s.heap.get? a = some ob) (hd : ob.data = .fields vs) : ∀ f ∈ stk, f.1 ≠ a := fun f hf q => by
  obtain ⟨⟨_, m, ⟨o, es, ep, h1, h2, _⟩, _⟩, _⟩ := R.frames f hf
  rw [q, h] at h1; cases h1; rw [hd] at h2; cases h2
theorem not_tuple_of_cls {h : Heap} {a : Addr} {ob : Obj} (h1 : h.get? a = some ob) (h2 : ob.cls ≠ .type "tuple") : ∀ vs, ¬ TU h a vs := fun vs ⟨n, e⟩ => by
  rw [h1] at e; cases e; exact h2 rfl

/-- slots of frames alone have changed -/
theorem Rep.slots (R : Rep base os₀ hid stk σ s) {S : List Addr} {h' : Heap} (hs : Heap.SlotsOnly S s.heap h') (hS : ∀ b ∈ S, b ∈ stk.map (·.1)) :
    Rep base os₀ hid stk σ { s with heap := h' } ∧ Keeps s.heap h' := by
  have off : ∀ b, b ∉ stk.map (·.1) → h'.get? b = s.heap.get? b := fun b hb => hs.2.1 b fun q => hb (hS b q)
  have k : Keeps s.heap h' := fun b vs ⟨n, h1⟩ => ⟨n, by
    rw [off b]; exact h1
    intro q
    obtain ⟨f, hf, rfl⟩ := List.mem_map.mp q
    obtain ⟨⟨_, m, ⟨o, es, ep, h2, h3, _⟩, _⟩, _⟩ := R.frames f hf
    rw [h1] at h2; cases h2; cases h3⟩
  refine ⟨⟨fun b ob e => ?_, R.gens, R.os, fun p hp => ?_, fun f hf => ?_, R.nodup, R.hnd, fun b ob e => ?_, R.tk⟩, k⟩
  · show h'.get? b = some ob
    rw [off b]; exact R.stays b ob e
    intro hb; obtain ⟨f, hf, rfl⟩ := List.mem_map.mp hb
    rw [(R.frames f hf).1.new] at e; cases e
  · obtain ⟨a1, b1, c1, d1, e1⟩ := R.hid p hp
    exact ⟨by show h'.get? p.1 = _; rw [off _ d1]; exact a1, b1, c1, d1, e1⟩
  · obtain ⟨⟨h0, m, ⟨o, es, ep, h1, h2⟩, h3⟩, h4⟩ := R.frames f hf
    obtain ⟨sl, e⟩ := hs.2.2 _ _ h1
    exact ⟨⟨h0, m, ⟨_, es, ep, e, h2⟩, fun x p q => let ⟨v, a, b⟩ := h3 x p q; ⟨v, a, b.mono k⟩⟩, h4⟩
  · refine (R.heap b ob e).mono k fun o ho => ?_
    show h'.get? b = _
    rw [off b]; exact ho
    intro hb; obtain ⟨f, hf, rfl⟩ := List.mem_map.mp hb
    rw [(R.frames f hf).2] at e; cases e

theorem Rep.funFrames (R : Rep base os₀ hid stk σ s) : ∀ {frs : List Env}, (∀ e ∈ frs, e.scope.kind ≠ .module ∧ ∃ L, e.frame = some L ∧ L ∈ stk.map (·.1)) → s.heap.FunFrames base frs
  | [], _ => trivial
  | e :: r, h => by
    obtain ⟨h1, L, h2, h3⟩ := h e (List.mem_cons_self ..)
    obtain ⟨f, hf, rfl⟩ := List.mem_map.mp h3
    obtain ⟨⟨h0, m, ⟨o, es, ep, h4, h5, _⟩, _⟩, _⟩ := R.frames f hf
    exact ⟨h1, ⟨f.1, o, h2, h0, h4, fun vs q => by rw [h5] at q; cases q⟩, R.funFrames fun e' he => h e' (List.mem_cons_of_mem _ he)⟩

theorem frs_mem {frs : List Env} {ls : List Addr} (h : ∀ e ∈ frs, e.scope.kind ≠ .module ∧ ∃ L, e.frame = some L ∧ L ∈ ls) : ∀ b ∈ frs.filterMap (·.frame), b ∈ ls := fun b hb => by
  obtain ⟨e, he, hf⟩ := List.mem_filterMap.mp hb
  obtain ⟨_, L, h2, h3⟩ := h e he
  rw [h2] at hf; cases hf; exact h3

variable {M : Model} {A : Around} {E : Value → Shared → Prop} {lv : Lv} {env : Env} {frs : List Env}

/-- what comes after the frame's own note: a new traceback entry -/
theorem wp_entry (hA : A.frames = some frs) (hfrs : ∀ e ∈ frs, e.scope.kind ≠ .module ∧ ∃ L, e.frame = some L ∧ L ∈ stk.map (·.1)) (R : Rep base os₀ hid stk σ s)
    {e₀ : Env} {rest : List Env} (hfr : frs = e₀ :: rest) (he₀ : e₀.frame = env.frame) {F : Addr} (hF : env.frame = some F) {x : Addr} {ob : Obj} {vs : Array Value} {cls : String} {head : Value} {b : Bool}
    (hx : s.heap.get? x = some ob) (hc : ob.cls = .type cls) (hct : ob.cls ≠ .type "tuple") (hd : ob.data = .fields vs) (hsz : 1 < vs.size) (ha : Apart base hid σ x) {Q : Unit → Shared → Prop}
    (h : ∀ s', Rep base os₀ hid stk σ s' → ExcNoted base hid σ s'.heap x cls → Q () s') :
    wpAny M A (do setField (.ref x) 1 (← EntryCells.newEntry head (← PySem.frameOf env) .none (rawInt F) .none (← entryPlaceOf F b))) Q E s := by
  unfold PySem.frameOf
  refine wpAny_bind (wpAny_bind (wpAny_frameEnvs hA ?_))
  have hdw : (frs.dropWhile fun y => y.frame != env.frame) = e₀ :: rest := by rw [hfr]; simp [List.dropWhile, he₀]
  rw [hdw]
  unfold frameObject
  refine wpAny_bind (wpAny_bind (wpAny_readyFrames_fun (base := base) (hfr ▸ R.funFrames hfrs) fun h₁ hs₁ => wpAny_pure ?_))
  rw [he₀, hF]
  refine wpAny_pure (wpAny_bind (wpAny_entryPlaceOf fun pl hpl => ?_))
  unfold EntryCells.newEntry newFields
  refine wpAny_bind (wpAny_newObj_type ?_ (hpl.sizeOk5 _ _ _ _ _))
  obtain ⟨R₁, k₁⟩ := R.slots hs₁ (by rw [← hfr]; exact frs_mem hfrs)
  have hxs : x ∉ stk.map (·.1) := fun q => by obtain ⟨f, hf, e⟩ := List.mem_map.mp q; exact stk_not_fields R hx hd f hf e
  have hx₁ : h₁.get? x = some ob := (hs₁.2.1 x fun q => hxs (frs_mem hfrs x (by rw [hfr]; exact q))).trans hx
  generalize hO : ({ cls := Value.type "traceback", dict := none, data := Data.fields ([head, Value.ref F, Value.none, rawInt F, Value.none] ++ (if pl.isEmpty then List.replicate 6 Value.none else pl)).toArray } : Obj) = O
  have hOf : ∃ ts, O.data = .fields ts ∧ 3 < ts.size := ⟨_, by rw [← hO], by simp only [List.size_toArray, List.length_append, List.length_cons, List.length_nil]; omega⟩
  have hOc : O.cls = .type "traceback" := by rw [← hO]
  have hOfr : O.isFreed = false := by obtain ⟨ts, e, _⟩ := hOf; exact Obj.isFreed_of_fields e
  have hTx : h₁.objs.size ≠ x := Nat.ne_of_gt (Heap.lt_size hx₁)
  refine wpAny_setField (s := { s with heap := h₁.push O }) (Heap.get?_push_of_some O hx₁) hd hsz (h _ ?_ ?_)
  · have R₂ : Rep base os₀ hid stk σ { s with heap := h₁.push O } := R₁.grow (fun _ _ e => Heap.get?_push_of_some _ e) rfl rfl
    refine (R₂.aside (a := x) (fun b ob' hb e => ?_) ha (not_tuple_of_cls (Heap.get?_push_of_some O hx₁) hct) (stk_not_fields R hx hd))
    show ((h₁.push O).update x _).get? b = _
    rw [Heap.get?_update_other _ _ (Ne.symm hb)]; exact e
  · have hd₃ := Obj.data_mapFields hd (·.setIfInBounds 1 (Value.ref h₁.objs.size))
    obtain ⟨ts, e1, e2⟩ := hOf
    refine ⟨ha, _, _, h₁.objs.size, O, ts, Heap.get?_update_self _ (Heap.get?_push_of_some O hx₁) (Obj.isFreed_of_fields hd₃), by rw [Obj.cls_mapFields]; exact hc, by rw [Obj.cls_mapFields]; exact hct, hd₃, by simp [hsz], ?_, by rw [hOc]; decide, e1, e2, hTx, R₁.fresh_base, R₁.fresh_σ, R₁.fresh_hid⟩
    rw [Heap.get?_update_other _ _ (Ne.symm hTx)]; exact Heap.get?_push_size _ hOfr

theorem wp_note (hA : A.frames = some frs) (hfrs : ∀ e ∈ frs, e.scope.kind ≠ .module ∧ ∃ L, e.frame = some L ∧ L ∈ stk.map (·.1)) (R : Rep base os₀ hid stk σ s)
    {e₀ : Env} {rest : List Env} (hfr : frs = e₀ :: rest) (he₀ : e₀.frame = env.frame) {x : Addr} {cls : String} (hx : ExcAt base hid σ s.heap x cls) {Q : Unit → Shared → Prop}
    (h : ∀ s', Rep base os₀ hid stk σ s' → ExcNoted base hid σ s'.heap x cls → Q () s') : wpAny M A (noteFrame (.ref x) env) Q E s := by
  obtain ⟨F, hF⟩ : ∃ F, env.frame = some F := by
    obtain ⟨_, L, h2, _⟩ := hfrs e₀ (by rw [hfr]; exact List.mem_cons_self ..)
    exact ⟨L, he₀ ▸ h2⟩
  obtain ⟨ha, ob, vs, h1, h2, h3, h4, h5⟩ := hx
  unfold noteFrame
  simp only [hF]
  rcases h5 with h5 | ⟨T, oT, ts, k1, k2, k3, k4, k5, k6, k7⟩
  · refine wpAny_bind (wpAny_field h1 h4 h5 ?_)
    rw [if_neg (by decide)]
    exact wp_entry hA hfrs R hfr he₀ hF h1 h2 h3 h4 (Array.getElem?_eq_some_iff.mp h5).1 ha h
  · refine wpAny_bind (wpAny_field h1 h4 k1 ?_)
    rw [if_pos (show (Value.ref T != Value.none) = true from by simp)]
    refine wpAny_bind (wpAny_field k2 k4 (x := ts[3]) (by simp [k5]) ?_)
    by_cases hq : (ts[3] == rawInt F) = true
    · rw [if_pos hq]
      exact wpAny_pure (h s R ⟨ha, ob, vs, T, oT, ts, h1, h2, h3, h4, k1, k2, k3, k4, k5, k6, k7⟩)
    · rw [if_neg hq]
      refine wpAny_bind (wpAny_setField k2 k4 k5 ?_)
      have other : ∀ b, b ≠ T → (s.heap.update T (Obj.mapFields (·.setIfInBounds 3 Value.none))).get? b = s.heap.get? b := fun b hb => Heap.get?_update_other _ _ (Ne.symm hb)
      have R' := (R.aside (s' := { s with heap := s.heap.update T (Obj.mapFields (·.setIfInBounds 3 Value.none)) }) (a := T) (fun b ob' hb e => (other b hb).trans e) k7 (not_tuple_of_cls k2 k3) (stk_not_fields R k2 k4))
      exact wp_entry hA hfrs R' hfr he₀ hF ((other x (Ne.symm k6)).trans h1) h2 h3 h4 (Array.getElem?_eq_some_iff.mp k1).1 ha h

theorem wp_flight (R : Rep base os₀ hid stk σ s) {x : Addr} {cls : String} (hx : ExcNoted base hid σ s.heap x cls) {fr : Option Addr} {Q : Unit → Shared → Prop}
    (h : ∀ s', Rep base os₀ hid stk σ s' → ExcNoted base hid σ s'.heap x cls → Q () s') : wpAny M A (setFlight (.ref x) fr) Q E s := by
  obtain ⟨ha, ob, vs, T, oT, ts, h1, h2, h3, h4, k1, k2, k3, k4, k5, k6, k7⟩ := hx
  unfold setFlight
  refine wpAny_bind (wpAny_field h1 h4 k1 ?_)
  rw [if_pos (show (Value.ref T != Value.none) = true from by simp)]
  refine wpAny_setField k2 k4 k5 (h _ ?_ ?_)
  · exact (R.aside (s' := { s with heap := s.heap.update T (Obj.mapFields (·.setIfInBounds 3 (fr.elim .none fun f => rawInt f))) }) (a := T) (fun b ob' hb e => (Heap.get?_update_other _ _ (Ne.symm hb)).trans e) k7 (not_tuple_of_cls k2 k3) (stk_not_fields R k2 k4))
  · refine ⟨ha, ob, vs, T, _, _, (Heap.get?_update_other _ _ k6).trans h1, h2, h3, h4, k1, Heap.get?_update_self _ k2 (Obj.isFreed_of_fields (Obj.data_mapFields k4 _)), by rw [Obj.cls_mapFields]; exact k3, Obj.data_mapFields k4 _, by simpa using k5, k6, k7⟩

theorem wp_leaving (hA : A.frames = some frs) (hfrs : ∀ e ∈ frs, e.scope.kind ≠ .module ∧ ∃ L, e.frame = some L ∧ L ∈ stk.map (·.1)) (R : Rep base os₀ hid stk σ s)
    {e₀ : Env} {rest : List Env} (hfr : frs = e₀ :: rest) (he₀ : e₀.frame = env.frame) {x : Addr} {cls : String} (hx : ExcAt base hid σ s.heap x cls) {Q : Unit → Shared → Prop}
    (h : ∀ s', Rep base os₀ hid stk σ s' → ExcNoted base hid σ s'.heap x cls → Q () s') : wpAny M A (leaving env (.ref x)) Q E s := by
  unfold leaving
  exact wpAny_bind (wp_note hA hfrs R hfr he₀ hx fun s' R' n' => wp_flight R' n' h)

theorem wp_cameBack (R : Rep base os₀ hid stk σ s) {x : Addr} {cls : String} (hx : ExcNoted base hid σ s.heap x cls)
    (h : ∀ s', Rep base os₀ hid stk σ s' → ExcNoted base hid σ s'.heap x cls → E (.ref x) s') : cameBackBy M A env E (.ref x) s := by
  unfold cameBackBy
  obtain ⟨ha, ob, vs, T, oT, ts, h1, h2, h3, h4, k1, r⟩ := id hx
  refine wpAny_bind (wpAny_field h1 h4 k1 ?_)
  rw [if_neg (by simp)]
  exact wp_flight R hx h
end
end Mine
end
section
open PySem PySem.W PyProof.Rows
set_option Elab.async false
set_option linter.unusedVariables false
namespace Mine

structure Gx where
  prog : Program
  w : World
  base : Heap
  os : OsState
  mg : Str → Option Value
  mb : Str → Option Value

structure Gd (G : Gx) : Prop where
  g : G.base.Ns mainGlobals G.mg
  b : G.base.Ns builtinsNs G.mb
  builtins : ∀ x : Str, x ≠ "__name__" → G.mb x = bootBuiltins x
  nolimit : G.base.NoLimit

structure Cx extends Gx where
  lv : Lv
  A : Around
  env : Env

abbrev Cx.M (c : Cx) : Model := model c.prog c.w
abbrev Gx.M (c : Gx) : Model := model c.prog c.w

def Post (c : Cx) {α β : Type} (rep : Heap → β → α → Prop) (Q : β → St → Prop) (hid : List (Addr × Obj)) (stk : List (Addr × Locals)) (h : Heap) (v : α) (s' : Shared) : Prop :=
  ∃ p st', Rep c.base c.os hid ((c.env.locals, st'.1) :: stk) st'.2 s' ∧ rep s'.heap p v ∧ Keeps h s'.heap ∧ Q p st'
def PostX (c : Cx) (X : String → St → Prop) (hid : List (Addr × Obj)) (stk : List (Addr × Locals)) (e : Value) (s' : Shared) : Prop :=
  ∃ x cls st', e = .ref x ∧ Rep c.base c.os hid ((c.env.locals, st'.1) :: stk) st'.2 s' ∧ ExcAt c.base hid st'.2 s'.heap x cls ∧ X cls st'

/-- the tree t, run from st, ends as Q says or raises as X says -/
def WT (c : Cx) {α β : Type} (rep : Heap → β → α → Prop) (t : Sem α) (X : String → St → Prop) (Q : β → St → Prop) (st : St) : Prop :=
  ∀ hid stk s, COk c.lv c.A c.env (stk.map (·.1)) → Rep c.base c.os hid ((c.env.locals, st.1) :: stk) st.2 s → wpAny c.M c.A t (Post c rep Q hid stk s.heap) (PostX c X hid stk) s
/-- the same of a tree over values -/
def W1 (c : Cx) {α β : Type} (rep : Heap → β → α → Prop) (p : PV) (t : Value → Sem α) (X : String → St → Prop) (Q : β → St → Prop) (st : St) : Prop :=
  ∀ v hid stk s, COk c.lv c.A c.env (stk.map (·.1)) → Rep c.base c.os hid ((c.env.locals, st.1) :: stk) st.2 s → VRep s.heap p v → wpAny c.M c.A (t v) (Post c rep Q hid stk s.heap) (PostX c X hid stk) s
def W2 (c : Cx) {α β : Type} (rep : Heap → β → α → Prop) (p q : PV) (t : Value → Value → Sem α) (X : String → St → Prop) (Q : β → St → Prop) (st : St) : Prop :=
  ∀ v u hid stk s, COk c.lv c.A c.env (stk.map (·.1)) → Rep c.base c.os hid ((c.env.locals, st.1) :: stk) st.2 s → VRep s.heap p v → VRep s.heap q u → wpAny c.M c.A (t v u) (Post c rep Q hid stk s.heap) (PostX c X hid stk) s
def WN (c : Cx) {α β : Type} (rep : Heap → β → α → Prop) (ps : List PV) (t : List Value → Sem α) (X : String → St → Prop) (Q : β → St → Prop) (st : St) : Prop :=
  ∀ vs hid stk s, COk c.lv c.A c.env (stk.map (·.1)) → Rep c.base c.os hid ((c.env.locals, st.1) :: stk) st.2 s → VReps s.heap ps vs → wpAny c.M c.A (t vs) (Post c rep Q hid stk s.heap) (PostX c X hid stk) s

inductive AFlow where
  | next | brk | cont
  | ret (p : PV)
def FlowRep (h : Heap) : AFlow → Flow → Prop
  | .next, f => f = .next
  | .brk, f => f = .brk
  | .cont, f => f = .cont
  | .ret p, f => ∃ v, f = .ret v ∧ VRep h p v
def BoolRep (_ : Heap) (b : Bool) (v : Bool) : Prop := v = b
def UnitRep (_ : Heap) (_ : Unit) (_ : Unit) : Prop := True

abbrev WE (c : Cx) (e : Expr) (X : String → St → Prop) (Q : PV → St → Prop) (st : St) : Prop := WT c VRep (eval e c.env) X Q st
abbrev WC (c : Cx) (e : Expr) (X : String → St → Prop) (Q : Bool → St → Prop) (st : St) : Prop := WT c BoolRep (isTrue e c.env (eval e c.env)) X Q st
abbrev WS (c : Cx) (l : List Stmt) (X : String → St → Prop) (Q : AFlow → St → Prop) (st : St) : Prop := WT c FlowRep (execs l c.env) X Q st
abbrev WX (c : Cx) (l : Stmt) (X : String → St → Prop) (Q : AFlow → St → Prop) (st : St) : Prop := WT c FlowRep (exec l c.env) X Q st
abbrev WA (c : Cx) (pos : Pos) (l : List Expr) (X : String → St → Prop) (Q : List PV → St → Prop) (st : St) : Prop := WT c VReps (spliced (backTo pos (starEach l c.env))) X Q st

section
variable {c : Cx} {X : String → St → Prop} {st : St} {α β : Type} {rep : Heap → β → α → Prop} {Q : β → St → Prop}

theorem Post.keeps {c : Cx} {hid stk h h' v s'} (k : Keeps h h') (x : Post c rep Q hid stk h' v s') : Post c rep Q hid stk h v s' :=
  let ⟨p, st', a, b, k', q⟩ := x; ⟨p, st', a, b, k.trans k', q⟩

theorem WT.mono {t : Sem α} {Q Q' : β → St → Prop} {X X' : String → St → Prop} (h : WT c rep t X Q st) (hQ : ∀ p st, Q p st → Q' p st) (hX : ∀ e st, X e st → X' e st) : WT c rep t X' Q' st :=
  fun hid stk s ok R => wpAny_mono (h hid stk s ok R) (fun _ _ ⟨p, st', a, b, k, q⟩ => ⟨p, st', a, b, k, hQ _ _ q⟩) fun _ _ ⟨x, cl, st', a, b, e, q⟩ => ⟨x, cl, st', a, b, e, hX _ _ q⟩

theorem E_BinOp {l op r pos} {Q : PV → St → Prop} (h : WE c l X (fun p st₁ => WE c r X (fun q st₂ => W2 c VRep p q (binaryOp op) X Q st₂) st₁) st) : WE c (.BinOp l op r pos) X Q st :=
  fun hid stk s ok R => wpAny_BinOp (wpAny_mono (h hid stk s ok R) (fun v s₁ ⟨p, st₁, R₁, hv, k₁, h₁⟩ =>
    wpAny_mono (h₁ hid stk s₁ ok R₁) (fun u s₂ ⟨q, st₂, R₂, hu, k₂, h₂⟩ =>
      wpAny_mono (h₂ v u hid stk s₂ ok R₂ (hv.mono k₂) hu) (fun _ _ y => y.keeps (k₁.trans k₂)) fun _ _ y => y) fun _ _ y => y) fun _ _ y => y)

theorem E_Compare {l op r pos} {Q : PV → St → Prop} (h : WE c l X (fun p st₁ => WE c r X (fun q st₂ => W2 c VRep p q (compareOp op) X Q st₂) st₁) st)
    (hm : behindInMarks op r = false) : WE c (.Compare l [op] [r] pos) X Q st :=
  fun hid stk s ok R => wpAny_Compare1 (wpAny_mono (h hid stk s ok R) (fun v s₁ ⟨p, st₁, R₁, hv, k₁, h₁⟩ =>
    wpAny_mono (h₁ hid stk s₁ ok R₁) (fun u s₂ ⟨q, st₂, R₂, hu, k₂, h₂⟩ =>
      wpAny_mono (h₂ v u hid stk s₂ ok R₂ (hv.mono k₂) hu) (fun _ _ y => y.keeps (k₁.trans k₂)) fun _ _ y => y) fun _ _ y => y) fun _ _ y => y) hm

theorem E_IfExp {test body orelse pos} {Q : PV → St → Prop} (h : WC c test X (fun b st₁ => if b then WE c body X Q st₁ else WE c orelse X Q st₁) st) : WE c (.IfExp test body orelse pos) X Q st :=
  fun hid stk s ok R => wpAny_IfExp (wpAny_mono (h hid stk s ok R) (fun v s₁ ⟨b, st₁, R₁, hv, k₁, h₁⟩ => by
    cases hv
    cases v
    · rw [if_neg (by decide)] at h₁ ⊢; exact wpAny_mono (h₁ hid stk s₁ ok R₁) (fun _ _ y => y.keeps k₁) fun _ _ y => y
    · rw [if_pos rfl] at h₁ ⊢; exact wpAny_mono (h₁ hid stk s₁ ok R₁) (fun _ _ y => y.keeps k₁) fun _ _ y => y) fun _ _ y => y)

/-! conditions -/
theorem C_Compare {l op r pos} {Q : Bool → St → Prop} (h : WE c l X (fun p st₁ => WE c r X (fun q st₂ => W2 c VRep p q (compareOp op) X (fun b st₃ => W1 c BoolRep b truthy X Q st₃) st₂) st₁) st)
    (hm : behindInMarks op r = false) : WC c (.Compare l [op] [r] pos) X Q st :=
  fun hid stk s ok R => wpAny_isTrue_Compare1 (wpAny_mono (h hid stk s ok R) (fun v s₁ ⟨p, st₁, R₁, hv, k₁, h₁⟩ =>
    wpAny_mono (h₁ hid stk s₁ ok R₁) (fun u s₂ ⟨q, st₂, R₂, hu, k₂, h₂⟩ =>
      wpAny_mono (h₂ v u hid stk s₂ ok R₂ (hv.mono k₂) hu) (fun b s₃ ⟨pb, st₃, R₃, hb, k₃, h₃⟩ =>
        wpAny_mono (h₃ b hid stk s₃ ok R₃ hb) (fun _ _ y => y.keeps ((k₁.trans k₂).trans k₃)) fun _ _ y => y) fun _ _ y => y) fun _ _ y => y) fun _ _ y => y) hm
theorem C_Not {x pos} {Q : Bool → St → Prop} (h : WC c x X (fun b st₁ => Q (!b) st₁) st) : WC c (.UnaryOp .Not x pos) X Q st :=
  fun hid stk s ok R => wpAny_isTrue_Not (wpAny_mono (h hid stk s ok R) (fun v s₁ ⟨b, st₁, R₁, hv, k₁, h₁⟩ => by cases hv; exact ⟨!v, st₁, R₁, rfl, k₁, h₁⟩) fun _ _ y => y)
theorem C_value {e : Expr} {Q : Bool → St → Prop} (h : WE c e X (fun p st₁ => W1 c BoolRep p truthy X Q st₁) st)
    (he : isTrue e c.env (eval e c.env) = (do let v ← eval e c.env; standAt e.pos; holding [v] (truthy v))) : WC c e X Q st :=
  fun hid stk s ok R => wpAny_isTrue_value (wpAny_mono (h hid stk s ok R) (fun v s₁ ⟨p, st₁, R₁, hv, k₁, h₁⟩ => wpAny_mono (h₁ v hid stk s₁ ok R₁ hv) (fun _ _ y => y.keeps k₁) fun _ _ y => y) fun _ _ y => y) he
/-- allTrue, whatever the number -/
abbrev WAll (c : Cx) (op : BoolOp) (l : List Expr) (X : String → St → Prop) (Q : Bool → St → Prop) (st : St) : Prop := WT c BoolRep (allTrue op l c.env) X Q st
theorem C_BoolOp {op l pos} {Q : Bool → St → Prop} (h : WAll c op l X Q st) : WC c (.BoolOp op l pos) X Q st := fun hid stk s ok R => wpAny_isTrue_BoolOp (h hid stk s ok R)
theorem And_nil {Q : Bool → St → Prop} (h : Q true st) : WAll c .And [] X Q st := fun hid stk s ok R => wpAny_allTrue_And_nil ⟨true, st, R, rfl, .refl _, h⟩
theorem Or_nil {Q : Bool → St → Prop} (h : Q false st) : WAll c .Or [] X Q st := fun hid stk s ok R => wpAny_allTrue_Or_nil ⟨false, st, R, rfl, .refl _, h⟩
theorem And_cons {x l} {Q : Bool → St → Prop} (h : WC c x X (fun b st₁ => if b then WAll c .And l X Q st₁ else Q false st₁) st) : WAll c .And (x :: l) X Q st :=
  fun hid stk s ok R => wpAny_allTrue_And_cons (wpAny_mono (h hid stk s ok R) (fun v s₁ ⟨b, st₁, R₁, hv, k₁, h₁⟩ => by
    cases hv
    cases v
    · rw [if_neg (by decide)] at h₁ ⊢; exact ⟨false, st₁, R₁, rfl, k₁, h₁⟩
    · rw [if_pos rfl] at h₁ ⊢
      exact wpAny_mono (h₁ hid stk s₁ ok R₁) (fun _ _ y => y.keeps k₁) fun _ _ y => y) fun _ _ y => y)
theorem Or_cons {x l} {Q : Bool → St → Prop} (h : WC c x X (fun b st₁ => if b then Q true st₁ else WAll c .Or l X Q st₁) st) : WAll c .Or (x :: l) X Q st :=
  fun hid stk s ok R => wpAny_allTrue_Or_cons (wpAny_mono (h hid stk s ok R) (fun v s₁ ⟨b, st₁, R₁, hv, k₁, h₁⟩ => by
    cases hv
    cases v
    · rw [if_neg (by decide)] at h₁ ⊢; exact wpAny_mono (h₁ hid stk s₁ ok R₁) (fun _ _ y => y.keeps k₁) fun _ _ y => y
    · rw [if_pos rfl] at h₁ ⊢
      exact ⟨true, st₁, R₁, rfl, k₁, h₁⟩) fun _ _ y => y)

/-! names, constants -/
theorem E_local {x pos} {Q : PV → St → Prop} {μ : Locals} {σ : AHeap} {p : PV} (hl : c.env.scope.names.lookup x = some .local) (hv : μ.lookup x = some p) (h : Q p (μ, σ))
    (hd : (x == ("__debug__" : Str)) = false) : WE c (.Name x pos) X Q (μ, σ) := fun hid stk s ok R => by
  obtain ⟨⟨_, m, hn, hm⟩, _⟩ := R.frames _ (List.mem_cons_self ..)
  obtain ⟨v, hmv, hr⟩ := hm x p hv
  exact wpAny_Name (wpAny_loadName_local ok.kind hl hn hmv ⟨p, _, R, hr, .refl _, h⟩) hd

theorem Rep.toks {base os₀ hid stk σ} {s : Shared} (R : Rep base os₀ hid stk σ s) (tk : Nat) (ht : s.toks ≤ tk := by first | exact Nat.le_refl _ | exact Nat.le_succ _ | exact Nat.le_add_right _ 2 | omega) : Rep base os₀ hid stk σ { s with toks := tk } := R.grow (fun _ _ e => e) rfl rfl ht

theorem E_int {i k pos} {Q : PV → St → Prop} (h : Q (.int i) st) : WE c (.Constant (.int i) k pos) X Q st := fun hid stk s ok R => wpAny_Constant_int ⟨.int i, st, R.toks _, ⟨_, rfl⟩, .refl _, h⟩
theorem E_str {i k pos} {Q : PV → St → Prop} (h : ∀ t, t ≠ 0 → Q (.str i t) st) : WE c (.Constant (.str i) k pos) X Q st := fun hid stk s ok R => wpAny_Constant_str ⟨.str i s.toks, st, R.toks _, rfl, .refl _, h _ (Nat.ne_of_gt R.tk)⟩
theorem E_none {k pos} {Q : PV → St → Prop} (h : Q .none st) : WE c (.Constant .none k pos) X Q st := fun hid stk s ok R => (fun _ _ _ => ⟨.none, st, R, rfl, .refl _, h⟩)

/-! statements -/
theorem S_nil {Q : AFlow → St → Prop} (h : Q .next st) : WS c [] X Q st := fun hid stk s ok R => wpAny_execs_nil ⟨.next, st, R, rfl, .refl _, h⟩
theorem S_cons {x l} {Q : AFlow → St → Prop} (h : WX c x X (fun f st₁ => match f with | .next => WS c l X Q st₁ | f => Q f st₁) st) : WS c (x :: l) X Q st :=
  fun hid stk s ok R => wpAny_execs_cons (wpAny_mono (h hid stk s ok R) (fun v s₁ ⟨f, st₁, R₁, hv, k₁, h₁⟩ => by
    cases f with
    | next => cases hv; exact wpAny_mono (h₁ hid stk s₁ ok R₁) (fun _ _ y => y.keeps k₁) fun _ _ y => y
    | brk => cases hv; exact ⟨.brk, st₁, R₁, rfl, k₁, h₁⟩
    | cont => cases hv; exact ⟨.cont, st₁, R₁, rfl, k₁, h₁⟩
    | ret p => obtain ⟨u, rfl, hu⟩ := hv; exact ⟨.ret p, st₁, R₁, ⟨u, rfl, hu⟩, k₁, h₁⟩) fun _ _ y => y)

/-- a name stored -/
theorem W1_store {x : Str} {p : PV} {Q : Unit → St → Prop} {μ : Locals} {σ : AHeap} (hl : c.env.scope.names.lookup x = some .local) (h : Q () (setL x p μ, σ)) : W1 c UnitRep p (fun v => storeName c.env x v) X Q (μ, σ) :=
  fun v hid stk s ok R hv => by
    obtain ⟨⟨_, m, hn, hm⟩, _⟩ := R.frames _ (List.mem_cons_self ..)
    refine wpAny_storeName_local hl hn (fun h' hn' hs => ?_) (by rw [ok.kind]; rfl)
    obtain ⟨R', k⟩ := R.store (tk := s.toks + 1) hn hm hn' hs hv
    exact ⟨(), (setL x p μ, σ), R', trivial, k, h⟩

theorem S_Assign {x pos' value pos} {Q : AFlow → St → Prop} (h : WE c value X (fun p st₁ => W1 c UnitRep p (fun v => storeName c.env x v) X (fun _ st₂ => Q .next st₂) st₁) st)
    (hs : swapsWith value (some (.Name x pos')) pos.line c.env = pure false) : WX c (.Assign [.Name x pos'] value pos) X Q st :=
  fun hid stk s ok R => wpAny_Assign_Name (wpAny_mono (h hid stk s ok R) (fun v s₁ ⟨p, st₁, R₁, hv, k₁, h₁⟩ =>
    wpAny_mono (h₁ v hid stk s₁ ok R₁ hv) (fun _ _ ⟨_, st₂, R₂, _, k₂, q⟩ => ⟨.next, st₂, R₂, rfl, k₁.trans k₂, q⟩) fun _ _ y => y) fun _ _ y => y) hs
theorem S_Expr {e pos} {Q : AFlow → St → Prop} (h : WE c e X (fun _ st₁ => Q .next st₁) st) (hi : interactive c.env = false) (hs : swapsWith e none pos.line c.env = pure false) : WX c (.Expr e pos) X Q st :=
  fun hid stk s ok R => wpAny_Expr_any (wpAny_mono (h hid stk s ok R) (fun v s₁ ⟨p, st₁, R₁, hv, k₁, h₁⟩ => ⟨.next, st₁, R₁, rfl, k₁, h₁⟩) fun _ _ y => y) hi hs
theorem S_If {test body orelse pos} {Q : AFlow → St → Prop} (h : WC c test X (fun b st₁ => if b then WS c body X Q st₁ else WS c orelse X Q st₁) st) : WX c (.If test body orelse pos) X Q st :=
  fun hid stk s ok R => wpAny_If (wpAny_mono (h hid stk s ok R) (fun v s₁ ⟨b, st₁, R₁, hv, k₁, h₁⟩ => by
    cases hv
    cases v
    · rw [if_neg (by decide)] at h₁ ⊢; exact wpAny_mono (h₁ hid stk s₁ ok R₁) (fun _ _ y => y.keeps k₁) fun _ _ y => y
    · rw [if_pos rfl] at h₁ ⊢; exact wpAny_mono (h₁ hid stk s₁ ok R₁) (fun _ _ y => y.keeps k₁) fun _ _ y => y) fun _ _ y => y)
theorem S_Return {e pos} {Q : AFlow → St → Prop} (h : WE c e X (fun p st₁ => Q (.ret p) st₁) st) : WX c (.Return (some e) pos) X Q st :=
  fun hid stk s ok R => wpAny_Return_some (wpAny_mono (h hid stk s ok R) (fun v s₁ ⟨p, st₁, R₁, hv, k₁, h₁⟩ => ⟨.ret p, st₁, R₁, ⟨v, rfl, hv⟩, k₁, h₁⟩) fun _ _ y => y)
theorem S_Break {pos} {Q : AFlow → St → Prop} (h : Q .brk st) : WX c (.Break pos) X Q st := fun hid stk s ok R => wpAny_Break ⟨.brk, st, R, rfl, .refl _, h⟩
theorem S_Continue {pos} {Q : AFlow → St → Prop} (h : Q .cont st) : WX c (.Continue pos) X Q st := fun hid stk s ok R => wpAny_Continue ⟨.cont, st, R, rfl, .refl _, h⟩
/-- what is raised within a loop's own run -/
theorem PostX.noted {hid stk s x} {E : Value → Shared → Prop} (ok : COk c.lv c.A c.env (stk.map (·.1))) (h : PostX c X hid stk x s)
    (hE : ∀ x cls st' s', Rep c.base c.os hid ((c.env.locals, st'.1) :: stk) st'.2 s' → ExcNoted c.base hid st'.2 s'.heap x cls → X cls st' → E (.ref x) s') : notedBy c.M c.A c.env E x s := by
  obtain ⟨x, cls, st', rfl, R, hx, q⟩ := h
  obtain ⟨e₀, rest, a, he⟩ := ok.ok
  exact wp_note a.frames (by simpa using a.frs) R rfl he hx fun s' R' n' => hE _ _ _ _ R' n' q

def LoopR (c : Cx) (X : String → St → Prop) (Q : AFlow → St → Prop) (hid : List (Addr × Obj)) (stk : List (Addr × Locals)) (h : Heap) (r : Result) (s' : Shared) : Prop := match r with
  | .ok f => Post c FlowRep Q hid stk h f s'
  | .error e => ∃ x cls st', e = .ref x ∧ Rep c.base c.os hid ((c.env.locals, st'.1) :: stk) st'.2 s' ∧ ExcNoted c.base hid st'.2 s'.heap x cls ∧ X cls st'

theorem LoopR.back {hid stk h r s'} {Q : AFlow → St → Prop} (x : LoopR c X Q hid stk h r s') : match (generalizing := false) r with
    | .ok f => Post c FlowRep Q hid stk h f s'
    | .error e => cameBackBy c.M c.A c.env (PostX c X hid stk) e s' := by
  cases r with
  | ok f => exact x
  | error e =>
    obtain ⟨x, cls, st', rfl, R, hx, q⟩ := x
    exact wp_cameBack R hx fun s'' R' n' => ⟨x, cls, st', rfl, R', n'.at, q⟩

theorem S_While {test body orelse pos} {Q : AFlow → St → Prop} (I : Nat → St → Prop) (n : Nat) (h0 : I n st)
    (turn : ∀ n st, I n st → WC c test X (fun b st₁ => if b then WS c body X (fun f st₂ => match f with
        | .next | .cont => ∃ m, m < n ∧ I m st₂
        | .brk => Q .next st₂
        | .ret p => Q (.ret p) st₂) st₁ else WS c orelse X Q st₁) st) : WX c (.While test body orelse pos) X Q st := fun hid stk s ok R => by
  refine wpAny_While (codeAny_mono (R := LoopR c X Q hid stk s.heap) ?_ fun r s' x => x.back)
  refine codeAny_whileLoop (fun n s' => ∃ st', Rep c.base c.os hid ((c.env.locals, st'.1) :: stk) st'.2 s' ∧ Keeps s.heap s'.heap ∧ I n st') (fun n s' ⟨st', R', k', hI⟩ => ?_) n ⟨st, R, .refl _, h0⟩
  have hE : ∀ e s'', PostX c X hid stk e s'' → notedBy c.M c.A c.env (fun e s' => LoopR c X Q hid stk s.heap (.error e) s') e s'' :=
    fun e s'' hx => hx.noted ok fun x cls st' s' R n q => ⟨x, cls, st', rfl, R, n, q⟩
  refine wpAny_mono (turn n st' hI hid stk s' ok R') (fun v s₁ hy => ?_) hE
  obtain ⟨b, st₁, R₁, hv, k₁, h₁⟩ := hy
  cases hv
  cases v
  · rw [if_neg (by decide)] at h₁ ⊢
    exact wpAny_mono (h₁ hid stk s₁ ok R₁) (fun f s₂ y => y.keeps (k'.trans k₁)) hE
  · rw [if_pos rfl] at h₁ ⊢
    refine wpAny_mono (h₁ hid stk s₁ ok R₁) (fun f s₂ hy => ?_) hE
    obtain ⟨fl, st₂, R₂, hf, k₂, h₂⟩ := hy
    have k := k'.trans (k₁.trans k₂)
    cases fl with
    | next => cases hf; obtain ⟨m, hm, hI⟩ := h₂; exact ⟨m, hm, st₂, R₂, k, hI⟩
    | cont => cases hf; obtain ⟨m, hm, hI⟩ := h₂; exact ⟨m, hm, st₂, R₂, k, hI⟩
    | brk => cases hf; exact ⟨.next, st₂, R₂, rfl, k, h₂⟩
    | ret p => obtain ⟨u, rfl, hu⟩ := hf; exact ⟨.ret p, st₂, R₂, ⟨u, rfl, hu⟩, k, h₂⟩
end
end Mine
end
section
open PySem PySem.W PyProof.Rows
set_option Elab.async false
set_option linter.unusedVariables false
namespace Mine

def valPV : Value → PV
  | .none => .none | .bool b => .bool b | .int i _ => .int i | .str x t => .str x t | .ref a => .ref a | .type n => .ty n | .builtin n => .bi n
  | _ => .none
def Value.simple : Value → Bool
  | .ellipsis | .notImplemented | .float .. | .bytes .. => false
  | _ => true
theorem valPV_rep {v : Value} (h : Value.simple v = true) (hp : Heap) : VRep hp (valPV v) v := by
  cases v <;> first | (cases h; done) | (simp only [valPV, VRep]; done) | (simp only [valPV, VRep]; exact ⟨_, rfl⟩)

section
variable {c : Cx} {X : String → St → Prop} {st : St}

theorem E_global {x pos} {Q : PV → St → Prop} {v : Value} (hG : Gd c.toGx) (hl : c.env.scope.names.lookup x = some .globalImplicit) (hv : c.mg x = some v) (hs : Value.simple v = true) (h : Q (valPV v) st)
    (hd : (x == ("__debug__" : Str)) = false) : WE c (.Name x pos) X Q st := fun hid stk s ok R =>
  Calls.Name_function_global ok.kind hl (Calls.loadGlobal_global (by rw [ok.globals]; exact hG.g.keeps R.stays) hv ⟨_, st, R, valPV_rep hs _, .refl _, h⟩) hd
theorem E_builtin {x pos} {Q : PV → St → Prop} {v : Value} (hG : Gd c.toGx) (hl : c.env.scope.names.lookup x = some .globalImplicit) (hm : c.mg x = none) (hn : x ≠ "__name__") (hv : bootBuiltins x = some v) (hs : Value.simple v = true) (h : Q (valPV v) st)
    (hd : (x == ("__debug__" : Str)) = false) : WE c (.Name x pos) X Q st := fun hid stk s ok R =>
  Calls.Name_function_global ok.kind hl (Calls.loadGlobal_builtin (by rw [ok.globals]; exact hG.g.keeps R.stays) hm (by rw [ok.builtins]; exact hG.b.keeps R.stays) ((hG.builtins x hn).trans hv) ⟨_, st, R, valPV_rep hs _, .refl _, h⟩) hd

/-! cells -/
theorem E_cell {x pos} {Q : PV → St → Prop} {a : Addr} {p : PV} (hl : c.env.scope.names.lookup x = some .cell) (hc : c.env.cells.lookup x = some a) (hv : st.2 a = some (.cell (some p))) (h : Q p st)
    (hd : (x == ("__debug__" : Str)) = false) : WE c (.Name x pos) X Q st := fun hid stk s ok R => by
  obtain ⟨_, y, hy, z, rfl, hz⟩ := R.heap _ _ hv
  exact wpAny_Name (wpAny_loadName_cell ok.kind hl hc hy ⟨p, st, R, hz, .refl _, h⟩) hd
theorem W1_storeCell {x : Str} {p : PV} {Q : Unit → St → Prop} {μ : Locals} {σ : AHeap} {a : Addr} {o : Option PV} (hl : c.env.scope.names.lookup x = some .cell) (hc : c.env.cells.lookup x = some a) (hv : σ a = some (.cell o))
    (h : Q () (μ, σ.set a (.cell (some p)))) : W1 c UnitRep p (fun v => storeName c.env x v) X Q (μ, σ) := fun v hid stk s ok R hr => by
  obtain ⟨hb, y, hy, _⟩ := R.heap _ _ hv
  refine wpAny_storeName_cell ok.kind hl hc hy fun h' hc' hs' => ?_
  have hnt : ∀ vs, ¬ TU s.heap a vs := fun vs ⟨n, e⟩ => by obtain ⟨o', e1, e2⟩ := hy; rw [e] at e1; cases e1; cases e2
  have hk : ∀ b ob, b ≠ a → s.heap.get? b = some ob → h'.get? b = some ob := fun b ob hne e => (hs'.2 b hne).trans e
  have k : Keeps s.heap h' := fun b vs ⟨n, h1⟩ => ⟨n, hk _ _ (fun e => hnt vs (e ▸ ⟨n, h1⟩)) h1⟩
  refine ⟨(), (μ, σ.set a (.cell (some p))), ?_, trivial, k, h⟩
  exact R.put (s' := { s with heap := h' }) hk hnt hb (R.hid_ne hv) (R.stk_ne hv) ⟨hb, _, hc', v, rfl, hr.mono k⟩ rfl rfl
end

/-! calls -/
def CallR (G : Gx) (X : String → AHeap → Prop) (Q : PV → AHeap → Prop) (hid : List (Addr × Obj)) (stk : List (Addr × Locals)) (h : Heap) (r : Result) (s' : Shared) : Prop := match r with
  | .ok (.ret v) => ∃ p σ', Rep G.base G.os hid stk σ' s' ∧ VRep s'.heap p v ∧ Keeps h s'.heap ∧ Q p σ'
  | .ok _ => False
  | .error e => ∃ x cls σ', e = .ref x ∧ Rep G.base G.os hid stk σ' s' ∧ ExcAt G.base hid σ' s'.heap x cls ∧ X cls σ'
/-- a call, keywords too -/
def CallK (G : Gx) (lv : Lv) (f : Value) (ps : List PV) (kw : List (Str × PV)) (X : String → AHeap → Prop) (Q : PV → AHeap → Prop) (σ : AHeap) : Prop :=
  ∀ A frs hid stk s vs ks, AOk lv A frs (stk.map (·.1)) → Rep G.base G.os hid stk σ s → VReps s.heap ps vs → VReps s.heap (kw.map (·.2)) ks → codeAny G.M A (.call f ⟨vs, (kw.map (·.1)).zip ks⟩) (CallR G X Q hid stk s.heap) s
abbrev CallS (G : Gx) (lv : Lv) (f : Value) (ps : List PV) (X : String → AHeap → Prop) (Q : PV → AHeap → Prop) (σ : AHeap) : Prop := CallK G lv f ps [] X Q σ

theorem WN_call {c : Cx} {X : String → St → Prop} {Q : PV → St → Prop} {μ σ} {f : Value} {ps : List PV} (h : CallS c.toGx c.lv f ps (fun e σ' => X e (μ, σ')) (fun p σ' => Q p (μ, σ')) σ) :
    WN c VRep ps (fun vs => call f vs) X Q (μ, σ) := fun vs hid stk s ok R hv => by
  obtain ⟨e₀, rest, a, _⟩ := ok.ok
  refine wpAny_call (codeAny_mono (h c.A (e₀ :: rest) hid ((c.env.locals, μ) :: stk) s vs [] a R hv .nil) fun r s' x => ?_)
  match r, x with
  | .ok (.ret v), ⟨p, σ', a, b, k, q⟩ => exact ⟨p, (μ, σ'), a, b, k, q⟩
  | .error e, ⟨x, cls, σ', a, b, k, q⟩ => exact ⟨x, cls, (μ, σ'), a, b, k, q⟩

/-- the state without its first frame -/
theorem Rep.pop {base os₀ hid f stk σ} {s : Shared} (R : Rep base os₀ hid (f :: stk) σ s) : Rep base os₀ hid stk σ s := by
  refine ⟨R.stays, R.gens, R.os, fun p hp => ?_, fun g hg => R.frames g (List.mem_cons_of_mem _ hg), (List.nodup_cons.mp (by simpa using R.nodup)).2, R.hnd, R.heap, R.tk⟩
  obtain ⟨a, b, c, d, e⟩ := R.hid p hp
  exact ⟨a, b, c, fun q => d (by simp at q ⊢; exact .inr q), e⟩

def addCells : List (Str × Addr) → (Str → Option PV) → AHeap → AHeap
  | [], _, σ => σ
  | (n, a) :: r, b, σ => (addCells r b σ).set a (.cell (b n))

theorem addCells_off {b : Str → Option PV} {σ : AHeap} {a : Addr} : ∀ {cs : List (Str × Addr)}, (∀ p ∈ cs, p.2 ≠ a) → addCells cs b σ a = σ a
  | [], _ => rfl
  | (n, d) :: r, h => by
    show ((addCells r b σ).set d _) a = _
    rw [AHeap.set_ne _ _ (Ne.symm (h (n, d) (List.mem_cons_self ..)))]
    exact addCells_off fun p hp => h p (List.mem_cons_of_mem _ hp)

section
variable {k : Str → Option NameKind} {h : Heap}
theorem bindL_off {x : Str} : ∀ {names : List Str} {vs : List Value} {m : Str → Option Value}, x ∉ names → bindL k (names.zip vs) m x = m x
  | [], _, _, _ => rfl
  | _ :: _, [], _, _ => rfl
  | n :: ns, v :: vs, m, hx => by
    show bindL k (ns.zip vs) _ x = m x
    rw [bindL_off (fun q => hx (List.mem_cons_of_mem _ q))]
    have : x ≠ n := fun e => hx (e ▸ List.mem_cons_self ..)
    split
    · simp [this]
    · rfl
theorem bindL_rep : ∀ {names : List Str} {ps : List PV} {vs : List Value} {m : Str → Option Value}, VReps h ps vs → names.Nodup → ∀ x p, ((names.zip ps).filter fun b => k b.1 == some .local).lookup x = some p → ∃ v, bindL k (names.zip vs) m x = some v ∧ VRep h p v
  | [], _, _, _, _, _, x, p, e => by simp at e
  | _ :: _, [], _, _, _, _, x, p, e => by simp at e
  | n :: ns, q :: ps, vs, m, hv, hnd, x, p, e => by
    obtain ⟨v, r, rfl, h1, h2⟩ := hv.cons_inv
    obtain ⟨hn, hnd'⟩ := List.nodup_cons.mp hnd
    show ∃ w, bindL k (ns.zip r) _ x = some w ∧ _
    simp only [List.zip_cons_cons, List.filter_cons] at e
    by_cases hx : x = n
    · subst hx
      rw [bindL_off hn]
      by_cases hk : k x = some .local
      · simp only [hk, beq_self_eq_true, if_true, List.lookup_cons] at e ⊢
        cases e; exact ⟨v, rfl, h1⟩
      · exfalso
        have hkb : (k x == some NameKind.local) = false := beq_eq_false_iff_ne.mpr hk
        simp only [hkb, Bool.false_eq_true, if_false] at e
        exact hn (List.of_mem_zip (List.mem_filter.mp (mem_of_lookup e)).1).1
    · refine bindL_rep h2 hnd' x p ?_
      split at e
      · rw [List.lookup_cons] at e
        have : (x == n) = false := beq_eq_false_iff_ne.mpr hx
        simpa only [this] using e
      · exact e
theorem bindC_off {x : Str} : ∀ {names : List Str} {vs : List Value} {m : Str → Option Value}, x ∉ names → bindC k (names.zip vs) m x = m x
  | [], _, _, _ => rfl
  | _ :: _, [], _, _ => rfl
  | n :: ns, v :: vs, m, hx => by
    show bindC k (ns.zip vs) _ x = m x
    rw [bindC_off (fun q => hx (List.mem_cons_of_mem _ q))]
    have : x ≠ n := fun e => hx (e ▸ List.mem_cons_self ..)
    split
    · rfl
    · simp [this]
theorem bindC_rep : ∀ {names : List Str} {ps : List PV} {vs : List Value}, VReps h ps vs → names.Nodup → names.length = ps.length → ∀ x, k x ≠ some .local → OptRep h ((names.zip ps).lookup x) (bindC k (names.zip vs) (fun _ => none) x) := by
  have main : ∀ {names : List Str} {ps : List PV} {vs : List Value} {m : Str → Option Value}, VReps h ps vs → names.Nodup → names.length = ps.length → ∀ x, k x ≠ some .local → x ∈ names → OptRep h ((names.zip ps).lookup x) (bindC k (names.zip vs) m x) := by
    intro names
    induction names with
    | nil => intro ps vs m _ _ _ x _ hx; cases hx
    | cons n ns ih =>
      intro ps vs m hv hnd hl x hk hx
      cases ps with
      | nil => simp at hl
      | cons q ps =>
        obtain ⟨v, r, rfl, h1, h2⟩ := hv.cons_inv
        obtain ⟨hn, hnd'⟩ := List.nodup_cons.mp hnd
        show OptRep h (((n, q) :: ns.zip ps).lookup x) (bindC k (ns.zip r) _ x)
        rw [List.lookup_cons]
        by_cases e : x = n
        · subst e
          rw [bindC_off hn]
          simp only [beq_self_eq_true, hk, if_false, if_true]
          exact ⟨v, rfl, h1⟩
        · have hb : (x == n) = false := beq_eq_false_iff_ne.mpr e
          simp only [hb]
          rcases List.mem_cons.mp hx with q | q
          · exact absurd q e
          · exact ih h2 hnd' (by simpa using hl) x hk q
  intro names ps vs hv hnd hl x hk
  by_cases hx : x ∈ names
  · exact main hv hnd hl x hk hx
  · rw [bindC_off hx]
    have : (names.zip ps).lookup x = none := by
      cases q : (names.zip ps).lookup x with
      | none => rfl
      | some p => exact absurd (List.of_mem_zip (mem_of_lookup q)).1 hx
    rw [this]; rfl
end

theorem AOk.body {lv : Lv} {n : Nat} {A : Around} {frs : List Env} {ls : List Addr} (ok : AOk ⟨n + 1, lv.calm⟩ A frs ls) {env : Env} (hk : env.scope.kind = .function) (hf : env.frame = some env.locals)
    (hg : env.globals = mainGlobals) (hb : env.builtins = builtinsNs) : COk ⟨n, lv.calm⟩ (A.deeper env) env ls := by
  refine ⟨⟨env, frs, ⟨Around.frames_deeper ok.frames, fun e he => ?_, fun hc => ok.calm hc, ?_, ?_⟩, rfl⟩, hk, hg, hb⟩
  · rcases List.mem_cons.mp he with rfl | he
    · exact ⟨by rw [hk]; decide, _, hf, List.mem_cons_self ..⟩
    · obtain ⟨a, L, b, d⟩ := ok.frs e he
      exact ⟨a, L, b, List.mem_cons_of_mem _ d⟩
  · have := ok.depth; show A.depth + 1 + n ≤ 900; simp only at this; omega
  · have := ok.units; show A.units + 3 + 20 * n ≤ 9000; simp only at this; omega

/-- a def of the text, called: its parameters are names, its cells are new -/
theorem call_def {G : Gx} {n : Nat} {calm : Bool} {a : Addr} {o : Obj} {fd : FuncData} {body : List Stmt} {ps : List PV} {X : String → AHeap → Prop} {Q : PV → AHeap → Prop} {σ : AHeap} (names : List Str)
    (hG : Gd G) (ho : G.base.get? a = some o) (hd : o.data = .func fd) (hbody : fd.body = .stmts body) (hcd : G.base.CodeRec fd.code fd.qualname)
    (hclo : fd.closure = []) (hgl : fd.globals = mainGlobals) (hbu : fd.builtins = builtinsNs) (hk : fd.scope.kind = .function) (hco : fd.scope.isCoroutine = false) (hgen : fd.scope.isGenerator = false)
    (hnames : names.Nodup) (hlen : names.length = ps.length)
    (hbind : ∀ vs : List Value, vs.length = names.length → bindArgs fd ⟨vs, []⟩ = pure (names.zip vs))
    (hkind : ∀ i, names.all (fun x => fd.scope.names.lookup x == some .local || (fd.scope.names.lookup x == some .cell && ((cellsFrom i fd.scope.names []).lookup x).isSome)) = true)
    (hcells : ∀ i, (cellsFrom i fd.scope.names []).all (fun p => fd.scope.names.lookup p.1 != some .local && ((cellsFrom i fd.scope.names []).lookup p.1 == some p.2)) = true)
    (h : ∀ (c : Cx) (L : Addr), c.toGx = G → c.lv = ⟨n, calm⟩ → c.env.scope = fd.scope → c.env.cells = cellsFrom (L + 1) fd.scope.names [] → c.env.qual = fd.qualname ++ ".<locals>." → (∀ b, L ≤ b → σ b = none) →
      WS c body (fun e st => X e st.2) (fun f st => Q (match f with | .ret p => p | _ => .none) st.2) ((names.zip ps).filter (fun b => fd.scope.names.lookup b.1 == some .local), addCells (cellsFrom (L + 1) fd.scope.names []) (fun x => (names.zip ps).lookup x) σ)) :
    CallS G ⟨n + 1, calm⟩ (.ref a) ps X Q σ := fun A frs hid stk s vs ks ok R hv hks => by
  have hlen' : vs.length = names.length := by rw [hlen]; exact hv.length
  refine codeAny_call_function (by have := ok.depth; simp only at this; show A.depth < 1000; omega) (R.stays _ _ ho) hd hco hgen hbody (hcd.keeps R.stays) ?_
  show wpAny _ _ (bindArgs fd ⟨vs, []⟩) _ _ s
  rw [hbind vs hlen', hclo]
  refine wpAny_pure (newFunctionEnv_cells_toks hk (fun x hx => ?_) fun env he s' hin htk => ⟨(hG.nolimit.keeps R.stays).keeps hin.toInCall.keep, ?_⟩)
  · have h1 := List.all_eq_true.mp (hkind (s.heap.objs.size + 1)) x.1 (List.of_mem_zip hx).1
    simp only [Bool.or_eq_true, Bool.and_eq_true, beq_iff_eq] at h1
    exact h1
  · have hL : env.locals = s.heap.objs.size := by rw [he]; rfl
    have hsc : env.scope = fd.scope := by rw [he]; rfl
    have hce : env.cells = cellsFrom (s.heap.objs.size + 1) fd.scope.names [] := by rw [he]; rfl
    obtain ⟨h', tk, rfl, hkeep⟩ := hin.done
    have hbase : ∀ b, s.heap.objs.size ≤ b → G.base.get? b = none := fun b hb => by
      cases q : G.base.get? b with
      | none => rfl
      | some ob => exact absurd (Heap.lt_size (R.stays b ob q)) (Nat.not_lt.mpr hb)
    have hσ : ∀ b, s.heap.objs.size ≤ b → σ b = none := fun b hb => by
      cases q : σ b with
      | none => rfl
      | some ob => exact absurd (R.heap b ob q).lt (Nat.not_lt.mpr hb)
    have k : Keeps s.heap h' := fun b vs ⟨n, e⟩ => ⟨n, hkeep _ _ e⟩
    -- the state of the body
    have hcs : ∀ p ∈ cellsFrom (s.heap.objs.size + 1) fd.scope.names [], s.heap.objs.size < p.2 := fun p hp => by
      have := hin.above p.1 p.2 (by rw [hce]; exact hp); rw [hL] at this; exact this
    have R₁ : ∀ (cs : List (Str × Addr)), (∀ p ∈ cs, p ∈ cellsFrom (s.heap.objs.size + 1) fd.scope.names []) →
        Rep G.base G.os hid ((env.locals, (names.zip ps).filter (fun b => fd.scope.names.lookup b.1 == some .local)) :: stk) (addCells cs (fun x => (names.zip ps).lookup x) σ) { s with heap := h', toks := tk } := by
      intro cs hsub
      have R0 := R.grow (s' := { s with heap := h', toks := tk }) hkeep rfl rfl htk
      have hoff : ∀ b, b < s.heap.objs.size → addCells cs (fun x => (names.zip ps).lookup x) σ b = σ b := fun b hb => addCells_off fun p hp q => Nat.lt_asymm hb (q ▸ hcs p (hsub p hp))
      refine ⟨R0.stays, R0.gens, R0.os, fun p hp => ?_, fun f hf => ?_, ?_, R0.hnd, ?_, R0.tk⟩
      · obtain ⟨a1, b1, c1, d1, e1⟩ := R0.hid p hp
        have hlt := Heap.lt_size (R.hid p hp).1
        refine ⟨a1, b1, by rw [hoff _ hlt]; exact c1, fun q => ?_, e1⟩
        simp only [List.map_cons, List.mem_cons] at q
        rcases q with q | q
        · rw [hL] at q; exact Nat.ne_of_lt hlt q
        · exact d1 q
      · rcases List.mem_cons.mp hf with rfl | hf
        · refine ⟨⟨by rw [hL]; exact hbase _ (Nat.le_refl _), _, hin.toInCall.ns, fun x p e => ?_⟩, ?_⟩
          · obtain ⟨v, e1, e2⟩ := bindL_rep (k := fun x => fd.scope.names.lookup x) (m := fun _ => none) (hv.mono k) hnames x p e
            have hko : env.kindOf = fun x => fd.scope.names.lookup x := by funext x; unfold Env.kindOf; rw [hsc]
            rw [hko]
            exact ⟨v, e1, e2⟩
          · show addCells cs _ σ env.locals = none
            rw [hL, addCells_off (fun p hp q => Nat.ne_of_gt (hcs p (hsub p hp)) q)]
            exact hσ _ (Nat.le_refl _)
        · obtain ⟨a1, b1⟩ := R0.frames f hf
          exact ⟨a1, by rw [hoff _ (R.frames f hf).1.lt]; exact b1⟩
      · simp only [List.map_cons, List.nodup_cons]
        refine ⟨fun q => ?_, R0.nodup⟩
        obtain ⟨f, hf, e⟩ := List.mem_map.mp q
        rw [hL] at e; exact Nat.ne_of_lt (R.frames f hf).1.lt e
      · induction cs with
        | nil => exact R0.heap
        | cons p r ih =>
          obtain ⟨x, d⟩ := p
          intro b ob e
          by_cases q : b = d
          · subst q
            have e' : some (AObj.cell ((names.zip ps).lookup x)) = some ob := by
              have := AHeap.set_same (addCells r (fun x => (names.zip ps).lookup x) σ) b (.cell ((names.zip ps).lookup x))
              exact this.symm.trans e
            cases e'
            have hm := hsub (x, b) (List.mem_cons_self ..)
            have hc1 := List.all_eq_true.mp (hcells (s.heap.objs.size + 1)) (x, b) hm
            simp only [Bool.and_eq_true, bne_iff_ne, beq_iff_eq] at hc1
            refine ⟨hbase _ (Nat.le_of_lt (hcs _ hm)), _, hin.cell x b (by rw [hce]; exact hc1.2), ?_⟩
            have hko : env.kindOf = fun x => fd.scope.names.lookup x := by funext x; unfold Env.kindOf; rw [hsc]
            rw [hko]
            exact bindC_rep (hv.mono k) hnames hlen x hc1.1
          · have e' : addCells r (fun x => (names.zip ps).lookup x) σ b = some ob := by
              have := AHeap.set_ne (addCells r (fun x => (names.zip ps).lookup x) σ) (.cell ((names.zip ps).lookup x)) q
              exact this.symm.trans e
            exact ih (fun p hp => hsub p (List.mem_cons_of_mem _ hp)) (fun b hb => addCells_off fun p hp q => Nat.lt_asymm hb (q ▸ hcs p (hsub p (List.mem_cons_of_mem _ hp)))) b ob e'
    have hok := AOk.body (lv := ⟨n + 1, calm⟩) ok (env := env) (by rw [hsc]; exact hk) (by rw [he]; rfl) (by rw [he]; exact hgl) (by rw [he]; exact hbu)
    have hW := h ⟨G, ⟨n, calm⟩, A.deeper env, env⟩ s.heap.objs.size rfl rfl hsc hce (by rw [he]; rfl) hσ hid stk _ hok (R₁ _ fun _ hp => hp)
    obtain ⟨e₀, rest, ao, he₀⟩ := hok.ok
    refine codeAny_func (wpAny_mono hW (fun f s₂ hp => ?_) fun e s₂ hx => ?_)
    · obtain ⟨fl, st', R', hf, k', q⟩ := hp
      cases fl with
      | next => cases hf; exact ⟨.none, st'.2, R'.pop, rfl, k.trans k', q⟩
      | brk => cases hf; exact ⟨.none, st'.2, R'.pop, rfl, k.trans k', q⟩
      | cont => cases hf; exact ⟨.none, st'.2, R'.pop, rfl, k.trans k', q⟩
      | ret p => obtain ⟨v, rfl, hv'⟩ := hf; exact ⟨p, st'.2, R'.pop, hv', k.trans k', q⟩
    · obtain ⟨x, cls, st', rfl, R', hx', q⟩ := hx
      exact wp_leaving ao.frames (by simpa using ao.frs) R' rfl he₀ hx' fun s₃ R₃ n₃ => ⟨x, cls, st'.2, rfl, R₃.pop, n₃.at, q⟩
end Mine
end
section
open PySem PySem.W PyProof.Rows
set_option Elab.async false
set_option linter.unusedVariables false
namespace Mine

def AObj.items? : AObj → Option (List PV)
  | .list l | .rlist l => some l
  | _ => none
/-- the items of the list at a -/
def seqAt (σ : AHeap) (a : Addr) : Option (List PV) := (σ a).bind AObj.items?

theorem LI.isList {h : Heap} {a : Addr} {vs : List Value} (x : LI h a vs) : h.IsList a vs.toArray := let ⟨n, e⟩ := x; ⟨_, e, rfl, n, rfl⟩
theorem TU.isTuple {h : Heap} {a : Addr} {vs : List Value} (x : TU h a vs) : h.IsTuple a vs.toArray := let ⟨n, e⟩ := x; ⟨_, e, rfl, n, rfl⟩

theorem LI.not_TU {h : Heap} {a : Addr} {vs : List Value} (x : LI h a vs) : ∀ ws, ¬ TU h a ws := fun ws ⟨n', e'⟩ => by
  obtain ⟨n, e⟩ := x
  have := congrArg Obj.cls (Option.some.inj (e.symm.trans e'))
  exact absurd this (by show Value.type "list" ≠ Value.type "tuple"; decide)

section
variable {base : Heap} {os₀ : OsState} {hid : List (Addr × Obj)} {stk : List (Addr × Locals)} {σ : AHeap} {s : Shared}

theorem Rep.seq (R : Rep base os₀ hid stk σ s) {a : Addr} {l : List PV} (h : seqAt σ a = some l) : ∃ vs, LI s.heap a vs ∧ VReps s.heap l vs := by
  unfold seqAt at h
  cases q : σ a with
  | none => rw [q] at h; cases h
  | some o =>
    rw [q] at h
    cases o with
    | list l' => cases h; exact (R.heap _ _ q).2
    | rlist l' => cases h; exact R.heap _ _ q
    | cell v => cases h
    | range x y z => cases h
    | raw o => cases h

/-- a list of ours, written over -/
theorem Rep.listUpd (R : Rep base os₀ hid stk σ s) {a : Addr} {l l' : List PV} (hv : σ a = some (.list l)) {h' : Heap} {tk : Nat} {ws : List Value}
    (hk : ∀ b ob, b ≠ a → s.heap.get? b = some ob → h'.get? b = some ob) (hn : LI h' a ws) (hw : VReps s.heap l' ws) (ht : s.toks ≤ tk := by first | exact Nat.le_refl _ | exact Nat.le_succ _ | assumption) :
    Rep base os₀ hid stk (σ.set a (.list l')) { s with heap := h', toks := tk } ∧ Keeps s.heap h' := by
  obtain ⟨hb, vs, ⟨n, e⟩, _⟩ := R.heap _ _ hv
  have hnt : ∀ vs, ¬ TU s.heap a vs := LI.not_TU ⟨n, e⟩
  have k : Keeps s.heap h' := fun b vs ⟨n, h1⟩ => ⟨n, hk _ _ (fun e => hnt vs (e ▸ ⟨n, h1⟩)) h1⟩
  exact ⟨R.put (s' := { s with heap := h', toks := tk }) hk hnt hb (R.hid_ne hv) (R.stk_ne hv) ⟨hb, ws, hn, hw.mono k⟩ rfl rfl ht, k⟩

theorem LI.upd {h : Heap} {a : Addr} {vs ws : List Value} (x : LI h a vs) {f : Array Value → Array Value} (hf : f vs.toArray = ws.toArray) : LI (h.update a (Obj.mapSeq f)) a ws := by
  obtain ⟨n, e⟩ := x
  have : ∃ m, Obj.mapSeq f { cls := .type "list", dict := none, data := .seq vs.toArray n, slots := #[] } = { cls := .type "list", dict := none, data := .seq ws.toArray m, slots := #[] } := by
    simp only [Obj.mapSeq, hf]; exact ⟨_, rfl⟩
  obtain ⟨m, hm⟩ := this
  exact ⟨m, by rw [Heap.get?_update_self _ e (by rw [hm]; rfl), hm]⟩
theorem upd_other {h : Heap} {a : Addr} {f : Obj → Obj} : ∀ b ob, b ≠ a → h.get? b = some ob → (h.update a f).get? b = some ob := fun b ob hb e => (Heap.get?_update_other _ _ (Ne.symm hb)).trans e
end

section
variable {c : Cx} {X : String → St → Prop} {st : St} {μ : Locals} {σ : AHeap}

/-! arguments -/
theorem A_nil {pos} {Q : List PV → St → Prop} (h : Q [] st) : WA c pos [] X Q st := fun hid stk s ok R => Calls.spliced_nil ⟨[], st, R, .nil, .refl _, h⟩
theorem A_cons {pos e rest} {Q : List PV → St → Prop} (h : WE c e X (fun p st₁ => WA c pos rest X (fun ps st₂ => Q (p :: ps) st₂) st₁) st)
    (he : starEach (e :: rest) c.env = (false, eval e c.env) :: starEach rest c.env) : WA c pos (e :: rest) X Q st := fun hid stk s ok R => by
  rw [he]
  exact Calls.spliced_cons (wpAny_mono (h hid stk s ok R) (fun v s₁ ⟨p, st₁, R₁, hv, k₁, h₁⟩ =>
    wpAny_mono (h₁ hid stk s₁ ok R₁) (fun vs s₂ ⟨ps, st₂, R₂, hvs, k₂, q⟩ => ⟨p :: ps, st₂, R₂, .cons (hv.mono k₂) hvs, k₁.trans k₂, q⟩) fun _ _ y => y) fun _ _ y => y)

/-! calls -/
def pvVal : PV → Value
  | .bi id => .builtin id
  | .ty T => .type T
  | .ref a => .ref a
  | _ => .none
/-- a thing that may be called so -/
def CallF (c : Cx) : PV → Prop
  | .bi _ | .ty _ => True
  | .ref a => ∃ o fd, c.base.get? a = some o ∧ o.data = .func fd
  | _ => False

theorem E_Call {func e rest pos} {Q : PV → St → Prop} (h : WE c func X (fun fv st₁ => CallF c fv ∧ WA c pos (e :: rest) X (fun ps st₂ => WN c VRep ps (fun vs => call (pvVal fv) vs) X Q st₂) st₁) st)
    (hev : eval (.Call func (e :: rest) [] pos) c.env = (do callWith pos (← eval func c.env) [] (backTo pos (starEach (e :: rest) c.env)) (backToKw pos (keywordEach [] c.env))))
    (he : starEach (e :: rest) c.env = (false, eval e c.env) :: starEach rest c.env)
    (hplain : (backTo pos (starEach rest c.env)).any (·.1) = false) : WE c (.Call func (e :: rest) [] pos) X Q st := fun hid stk s ok R => by
  rw [hev]
  refine wpAny_bind (wpAny_mono (h hid stk s ok R) (fun v s₁ hp => ?_) fun _ _ y => y)
  obtain ⟨fv, st₁, R₁, hv, k₁, hF, h₁⟩ := hp
  have fin : ∀ vs s₂, Post c VReps (fun ps st₂ => WN c VRep ps (fun vs => call (pvVal fv) vs) X Q st₂) hid stk s₁.heap vs s₂ → wpAny c.M c.A (call (pvVal fv) vs) (Post c VRep Q hid stk s.heap) (PostX c X hid stk) s₂ :=
    fun vs s₂ ⟨ps, st₂, R₂, hvs, k₂, q⟩ => wpAny_mono (q vs hid stk s₂ ok R₂ hvs) (fun _ _ y => y.keeps (k₁.trans k₂)) fun _ _ y => y
  show wpAny _ _ (callWith pos v [] (backTo pos (starEach (e :: rest) c.env)) []) _ _ s₁
  cases fv with
  | bi id =>
    simp only [VRep] at hv; subst hv
    exact callWith_builtin1 (wpAny_mono (h₁ hid stk s₁ ok R₁) fin fun _ _ y => y) he hplain
  | ty T =>
    simp only [VRep] at hv; subst hv
    exact callWith_type1 (wpAny_mono (h₁ hid stk s₁ ok R₁) fin fun _ _ y => y) he hplain
  | ref a =>
    simp only [VRep] at hv; subst hv
    obtain ⟨o, fd, ho, hfd⟩ := hF
    exact callWith_def hfd (wpAny_mono (h₁ hid stk s₁ ok R₁) (fun vs s₂ hq => ⟨(let ⟨_, _, R₂, _⟩ := hq; R₂.stays _ _ ho), fin vs s₂ hq⟩) fun _ _ y => y) he
  | none => exact hF.elim
  | bool b => exact hF.elim
  | int i => exact hF.elim
  | str x => exact hF.elim
  | tup l => exact hF.elim

/-! methods of lists -/
theorem E_MethList {o name apos e rest pos id} {Q : PV → St → Prop} (slot : Slot "list" name id) (hty : typeOf (.builtin id) = pure (.type "method_descriptor"))
    (h : WE c o X (fun ov st₁ => (∃ a l, ov = .ref a ∧ seqAt st₁.2 a = some l) ∧ WA c pos (e :: rest) X (fun ps st₂ => WN c VRep (ov :: ps) (fun vs => call (.builtin id) vs) X Q st₂) st₁) st)
    (hbase : attributeBase o name c.env (eval o c.env) = eval o c.env)
    (hfew : ((backTo pos (starEach (e :: rest) c.env)).all (fun x => !x.1) && (backToKw pos (keywordEach [] c.env)).all (fun x => x.1.isSome)
      && decide ((e :: rest).length + ([] : List Keyword).length + (if ([] : List Keyword).isEmpty then 0 else 1) < 30)) = true)
    (hline : (apos.endLine == pos.line) = true)
    (he : starEach (e :: rest) c.env = (false, eval e c.env) :: starEach rest c.env)
    (hplain : (backTo pos (starEach rest c.env)).any (·.1) = false) : WE c (.Call (.Attribute o name apos) (e :: rest) [] pos) X Q st := fun hid stk s ok R => by
  refine wpAny_Call_method hbase hfew hline F.plainAttrs_list slot hty (wpAny_mono (h hid stk s ok R) (fun v s₁ hp => ?_) fun _ _ y => y)
  obtain ⟨ov, st₁, R₁, hv, k₁, ⟨a, l, rfl, hs⟩, h₁⟩ := hp
  simp only [VRep] at hv; subst hv
  obtain ⟨vs, hL, _⟩ := R₁.seq hs
  refine ⟨hL.isList.typeIs, fun b hb => ?_, callWith_method1 (wpAny_mono (h₁ hid stk s₁ ok R₁) (fun vs s₂ hq => ?_) fun _ _ y => y) he hplain⟩
  · cases hb; obtain ⟨n, e⟩ := hL; exact ⟨_, e, rfl⟩
  · obtain ⟨ps, st₂, R₂, hvs, k₂, q⟩ := hq
    exact wpAny_mono (q (.ref a :: vs) hid stk s₂ ok R₂ (.cons rfl hvs)) (fun _ _ y => y.keeps (k₁.trans k₂)) fun _ _ y => y
theorem E_MethList0 {o name apos pos id} {Q : PV → St → Prop} (slot : Slot "list" name id) (hty : typeOf (.builtin id) = pure (.type "method_descriptor"))
    (h : WE c o X (fun ov st₁ => (∃ a l, ov = .ref a ∧ seqAt st₁.2 a = some l) ∧ WN c VRep [ov] (fun vs => call (.builtin id) vs) X Q st₁) st)
    (hbase : attributeBase o name c.env (eval o c.env) = eval o c.env)
    (hline : (apos.endLine == pos.line) = true) : WE c (.Call (.Attribute o name apos) [] [] pos) X Q st := fun hid stk s ok R => by
  refine wpAny_Call_method hbase rfl hline F.plainAttrs_list slot hty (wpAny_mono (h hid stk s ok R) (fun v s₁ hp => ?_) fun _ _ y => y)
  obtain ⟨ov, st₁, R₁, hv, k₁, ⟨a, l, rfl, hs⟩, h₁⟩ := hp
  simp only [VRep] at hv; subst hv
  obtain ⟨vs, hL, _⟩ := R₁.seq hs
  refine ⟨hL.isList.typeIs, fun b hb => ?_, callWith_method0 ?_⟩
  · cases hb; obtain ⟨n, e⟩ := hL; exact ⟨_, e, rfl⟩
  · exact wpAny_mono (h₁ [.ref a] hid stk s₁ ok R₁ (.cons rfl .nil)) (fun _ _ y => y.keeps k₁) fun _ _ y => y

/-! items -/
def GetI (c : Cx) (p q : PV) (X : String → St → Prop) (Q : PV → St → Prop) (st : St) : Prop :=
  ∀ v u hid stk s, COk c.lv c.A c.env (stk.map (·.1)) → Rep c.base c.os hid ((c.env.locals, st.1) :: stk) st.2 s → VRep s.heap p v → VRep s.heap q u →
    (∃ T id, s.TypeIs v T ∧ typeLookup (.type T) "__getitem__" = pure (some (.builtin id))) ∧ wpAny c.M c.A (getItem v u) (Post c VRep Q hid stk s.heap) (PostX c X hid stk) s
def notSlice : Expr → Bool
  | .Slice .. => false
  | _ => true
theorem subscripted_not {slice : Expr} (h : notSlice slice = true) (o i : Value) : subscripted slice false o i = operate [o, i] (getItem o i) := by
  cases slice <;> first | (cases h; done) | with_unfolding_all rfl
theorem E_Subscript {value slice pos} {Q : PV → St → Prop} (h : WE c value X (fun p st₁ => WE c slice X (fun q st₂ => GetI c p q X Q st₂) st₁) st)
    (hs : notSlice slice = true) : WE c (.Subscript value slice pos) X Q st := fun hid stk s ok R => by
  show wpAny _ _ (do
    let o ← eval value c.env
    let i ← holding [o] (eval slice c.env)
    standAt pos
    let r ← subscripted slice (← getitemInPython o) o i
    letTemporaryGo value o r
    pure r) _ _ s
  refine wpAny_bind (wpAny_mono (h hid stk s ok R) (fun v s₁ hp => ?_) fun _ _ y => y)
  obtain ⟨p, st₁, R₁, hv, k₁, h₁⟩ := hp
  refine wpAny_bind (wpAny_holding (wpAny_mono (h₁ hid stk s₁ ok R₁) (fun u s₂ hq => ?_) fun _ _ y => y))
  obtain ⟨q, st₂, R₂, hu, k₂, h₂⟩ := hq
  refine wpAny_bind (wpAny_standAt ?_)
  obtain ⟨⟨T, id, hT, hl⟩, hg⟩ := h₂ v u hid stk s₂ ok R₂ (hv.mono k₂) hu
  exact tail_any (value := value) (slice := slice) hT hl (wpAny_mono hg (fun _ _ y => y.keeps (k₁.trans k₂)) fun _ _ y => y) (subscripted_not hs v u)

theorem get_list {a : Addr} {l : List PV} {i : Int} {p : PV} {Q : PV → St → Prop} (hs : seqAt σ a = some l) (h0 : 0 ≤ i) (hx : l[i.toNat]? = some p) (hz : l.length ≤ 16777216) (h : Q p (μ, σ)) : GetI c (.ref a) (.int i) X Q (μ, σ) :=
  fun v u hid stk s ok R hv hu => by
    simp only [VRep] at hv hu; subst hv
    obtain ⟨t, rfl⟩ := hu
    obtain ⟨vs, hL, hvs⟩ := R.seq hs
    obtain ⟨x, hx', hr⟩ := hvs.get _ _ hx
    have hlt : i.toNat < l.length := (List.getElem?_eq_some_iff.mp hx).1
    exact ⟨⟨"list", _, hL.isList.typeIs, slot_list_getitem.lookup⟩, wpAny_getItem_list hL.isList h0 (by omega) (by simpa using hx') ⟨p, (μ, σ), R, hr, .refl _, h⟩⟩

/-- a plain list's item, stored -/
theorem wp_setItem {M : Model} {A : Around} {E : Value → Shared → Prop} {prog : Program} {w : World} {s : Shared} {a : Addr} {ws : List Value} {i : Int} {t : Tok} {v : Value} {Q : Unit → Shared → Prop} (hL : LI s.heap a ws) (h0 : 0 ≤ i) (hi : i < ws.length) (hz : ws.length ≤ 16777216)
    (h : Q () { s with heap := s.heap.update a (Obj.mapSeq (·.setIfInBounds i.toNat v)) }) : wpAny (model prog w) A (setItem (.ref a) (.int i t) v) Q E s := by
  have hT := hL.isList.typeIs
  obtain ⟨n, e⟩ := hL
  have hfit : i < 2 ^ 63 := by omega
  unfold setItem
  refine wpAny_holding (wpAny_bind (wpAny_sequenceKey hT (by decide) ?_))
  refine wpAny_bind (wpAny_callSpecial?_slot (name := Str.ofString "__setitem__") hT slot_list_setitem (wpAny_call_entry slot_list_setitem hT entry_list_setitem ?_ (args_list_setitem _ _ _)))
  show wpAny _ _ (Builtin.List.listSubscript? (.int i t) >>= _) _ _ s
  refine wpAny_bind (wpAny_listSubscript_int (fitsIndex_of h0 hfit) ?_)
  clear hfit hz
  obtain ⟨j, rfl⟩ := Int.eq_ofNat_of_zero_le h0
  have hj : j < ws.toArray.size := by simp; omega
  show wpAny _ _ ((seqItemAt a j >>= fun r => pure (r.map (j, ·))) >>= _) _ _ s
  refine wpAny_bind (wpAny_bind (wpAny_seqItemAt e rfl (wpAny_pure ?_)))
  rw [Array.getElem?_eq_getElem hj]
  show wpAny _ _ (setSeqItemAt a j v >>= _) _ _ s
  refine wpAny_bind (wpAny_setSeqItemAt e rfl ?_)
  first
    | exact wpAny_bind (wpAny_pure (wpAny_pure ⟨.none, rfl, wpAny_pure h⟩))
    | exact wpAny_pure ⟨.none, rfl, wpAny_pure h⟩

def W3 (c : Cx) {α β : Type} (rep : Heap → β → α → Prop) (p q r : PV) (t : Value → Value → Value → Sem α) (X : String → St → Prop) (Q : β → St → Prop) (st : St) : Prop :=
  ∀ v u w hid stk s, COk c.lv c.A c.env (stk.map (·.1)) → Rep c.base c.os hid ((c.env.locals, st.1) :: stk) st.2 s → VRep s.heap p v → VRep s.heap q u → VRep s.heap r w → wpAny c.M c.A (t v u w) (Post c rep Q hid stk s.heap) (PostX c X hid stk) s

theorem set_list {a : Addr} {l : List PV} {i : Int} {p : PV} {Q : Unit → St → Prop} (hs : σ a = some (.list l)) (h0 : 0 ≤ i) (hi : i < l.length) (hz : l.length ≤ 16777216) (h : Q () (μ, σ.set a (.list (l.set i.toNat p)))) :
    W3 c UnitRep (.ref a) (.int i) p (fun o i v => setItem o i v) X Q (μ, σ) := fun v1 v2 v3 hid stk s ok R h1 h2 h3 => by
  simp only [VRep] at h1 h2; subst h1
  obtain ⟨t, rfl⟩ := h2
  obtain ⟨hb, ws, hL, hws⟩ := R.heap _ _ hs
  have hlen := hws.length
  refine wp_setItem (M := c.M) hL h0 (by omega) (by omega) ?_
  obtain ⟨R', k⟩ := R.listUpd (tk := s.toks) (ws := ws.set i.toNat v3) hs upd_other (hL.upd (f := fun x => x.setIfInBounds i.toNat v3) (by simp)) (hws.set i.toNat h3)
  exact ⟨(), (μ, _), R', trivial, k, h⟩
theorem S_AssignSub {o i pos' value pos} {Q : AFlow → St → Prop}
    (h : WE c value X (fun p st₁ => WE c o X (fun po st₂ => WE c i X (fun pi st₃ => W3 c UnitRep po pi p (fun o i v => setItem o i v) X (fun _ st₄ => Q .next st₄) st₃) st₂) st₁) st)
    (hs : swapsWith value (some (.Subscript o i pos')) pos.line c.env = pure false) : WX c (.Assign [.Subscript o i pos'] value pos) X Q st := fun hid stk s ok R =>
  wpAny_Assign_Subscript (wpAny_mono (h hid stk s ok R) (fun v s₁ ⟨p, st₁, R₁, hv, k₁, h₁⟩ =>
    wpAny_mono (h₁ hid stk s₁ ok R₁) (fun vo s₂ ⟨po, st₂, R₂, hvo, k₂, h₂⟩ =>
      wpAny_mono (h₂ hid stk s₂ ok R₂) (fun vi s₃ ⟨pi, st₃, R₃, hvi, k₃, h₃⟩ =>
        wpAny_mono (h₃ vo vi v hid stk s₃ ok R₃ (hvo.mono k₃) hvi (hv.mono (k₂.trans k₃))) (fun _ s₄ ⟨_, st₄, R₄, _, k₄, q⟩ => ⟨.next, st₄, R₄, rfl, (k₁.trans k₂).trans (k₃.trans k₄), q⟩) fun _ _ y => y) fun _ _ y => y) fun _ _ y => y) fun _ _ y => y) hs

/-! list calls -/
theorem len_seq {a : Addr} {l : List PV} {Q : PV → St → Prop} (hs : seqAt σ a = some l) (hz : l.length ≤ 16777216) (h : Q (.int l.length) (μ, σ)) : WN c VRep [.ref a] (fun vs => call (.builtin "len") vs) X Q (μ, σ) := fun vs hid stk s ok R hv => by
  obtain ⟨v1, r1, rfl, h1, hv⟩ := hv.cons_inv
  rw [hv.nil_inv]
  simp only [VRep] at h1; subst h1
  obtain ⟨ws, hL, hws⟩ := R.seq hs
  have hlen := hws.length
  refine len_list hL.isList (by simp; omega) ⟨.int l.length, (μ, σ), R.toks _, ⟨s.toks + 1, ?_⟩, .refl _, h⟩
  simp [hlen]
theorem append_list {a : Addr} {l : List PV} {p : PV} {Q : PV → St → Prop} (hs : σ a = some (.list l)) (hz : l.length ≤ 16777216) (h : Q .none (μ, σ.set a (.list (l ++ [p])))) :
    WN c VRep [.ref a, p] (fun vs => call (.builtin "list.append") vs) X Q (μ, σ) := fun vs hid stk s ok R hv => by
  obtain ⟨v1, r1, rfl, h1, hv⟩ := hv.cons_inv
  obtain ⟨v2, r2, rfl, h2, hv⟩ := hv.cons_inv
  rw [hv.nil_inv]
  simp only [VRep] at h1; subst h1
  obtain ⟨hb, ws, hL, hws⟩ := R.heap _ _ hs
  have hlen := hws.length
  refine wpAny_list_append_plain (items := ws.toArray) hL (fun h' hp hsb => ?_) (by simp [sizeLine_eq]; omega)
  have hn : LI h' a (ws ++ [v2]) := by simpa [LI, Heap.PlainList] using hp
  obtain ⟨R', k⟩ := R.listUpd (tk := s.toks) hs (fun b ob hne e => (hsb.2 b hne).trans e) hn (hws.append (.cons h2 .nil))
  exact ⟨.none, (μ, _), R', by simp only [VRep], k, h⟩

/-! truth -/
theorem truthy_b {b : Bool} {Q : Bool → St → Prop} (h : Q b st) : W1 c BoolRep (.bool b) truthy X Q st := fun v hid stk s ok R hv => by
  simp only [VRep] at hv; subst hv; exact wpAny_truthy_bool ⟨b, st, R, rfl, .refl _, h⟩
theorem truthy_i {i : Int} {Q : Bool → St → Prop} (h : Q (i != 0) st) : W1 c BoolRep (.int i) truthy X Q st := fun v hid stk s ok R hv => by
  simp only [VRep] at hv; obtain ⟨t, rfl⟩ := hv; exact PySem.P.truthy_int ⟨i != 0, st, R, rfl, .refl _, h⟩
theorem truthy_l {a : Addr} {l : List PV} {Q : Bool → St → Prop} (hs : seqAt σ a = some l) (hz : l.length ≤ 16777216) (h : Q (!l.isEmpty) (μ, σ)) : W1 c BoolRep (.ref a) truthy X Q (μ, σ) := fun v hid stk s ok R hv => by
  simp only [VRep] at hv; subst hv
  obtain ⟨ws, hL, hws⟩ := R.seq hs
  have hlen := hws.length
  refine wpAny_truthy_list hL.isList (by simp; omega) ⟨!l.isEmpty, (μ, σ), R.toks _, ?_, .refl _, h⟩
  show (!ws.toArray.isEmpty) = !l.isEmpty
  cases l <;> cases ws <;> simp_all

/-! ints -/
theorem W2_ints {op : Operator} {i j r : Int} {Q : PV → St → Prop} (hop : ∀ {prog : Program} {w : World} {A : Around} {E : Value → Shared → Prop} {s : Shared} {t u : Tok} {Q : Value → Shared → Prop}, Q (.int r s.toks) { s with toks := s.toks + 1 } → wpAny (model prog w) A (binaryOp op (.int i t) (.int j u)) Q E s)
    (h : Q (.int r) st) : W2 c VRep (.int i) (.int j) (binaryOp op) X Q st := fun v u hid stk s ok R hv hu => by
  simp only [VRep] at hv hu; obtain ⟨t, rfl⟩ := hv; obtain ⟨t', rfl⟩ := hu
  exact hop ⟨.int r, st, R.toks _, ⟨_, rfl⟩, .refl _, h⟩
theorem bin_add {i j : Int} {Q : PV → St → Prop} (h : Q (.int (i + j)) st) : W2 c VRep (.int i) (.int j) (binaryOp .Add) X Q st := W2_ints (fun q => PyProof.Rows.add_int q) h
theorem bin_sub {i j : Int} {Q : PV → St → Prop} (h : Q (.int (i - j)) st) : W2 c VRep (.int i) (.int j) (binaryOp .Sub) X Q st := W2_ints (fun q => PyProof.Rows.sub_int q) h
theorem bin_mul {i j : Int} {Q : PV → St → Prop} (h : Q (.int (i * j)) st) (hm : IntMulOk i j) : W2 c VRep (.int i) (.int j) (binaryOp .Mult) X Q st := W2_ints (fun q => PySem.P.mul_int q hm) h
theorem bin_mod {i j : Int} {Q : PV → St → Prop} (hb : j ≠ 0) (h : Q (.int (i.fmod j)) st) : W2 c VRep (.int i) (.int j) (binaryOp .Mod) X Q st := W2_ints (fun q => PyProof.Rows.mod_int hb q) h
theorem bin_shr {i j : Int} {Q : PV → St → Prop} (hb : 0 ≤ j) (h : Q (.int (i.fdiv (2 ^ j.toNat))) st) : W2 c VRep (.int i) (.int j) (binaryOp .RShift) X Q st := W2_ints (fun q => PyProof.Rows.rshift_int hb q) h

theorem W2_cmp {op : CmpOp} {i j : Int} {r : Bool} {Q : PV → St → Prop} (hop : ∀ {prog : Program} {w : World} {A : Around} {E : Value → Shared → Prop} {s : Shared} {t u : Tok} {Q : Value → Shared → Prop}, Q (.bool r) s → wpAny (model prog w) A (compareOp op (.int i t) (.int j u)) Q E s)
    (h : Q (.bool r) st) : W2 c VRep (.int i) (.int j) (compareOp op) X Q st := fun v u hid stk s ok R hv hu => by
  simp only [VRep] at hv hu; obtain ⟨t, rfl⟩ := hv; obtain ⟨t', rfl⟩ := hu
  exact hop ⟨.bool r, st, R, rfl, .refl _, h⟩
theorem cmp_lt {i j : Int} {Q : PV → St → Prop} (h : Q (.bool (decide (i < j))) st) : W2 c VRep (.int i) (.int j) (compareOp .Lt) X Q st := W2_cmp (fun q => PySem.P.lt_int q) h
theorem cmp_gt {i j : Int} {Q : PV → St → Prop} (h : Q (.bool (decide (i > j))) st) : W2 c VRep (.int i) (.int j) (compareOp .Gt) X Q st := W2_cmp (fun q => PySem.P.gt_int q) h
theorem cmp_eq {i j : Int} {Q : PV → St → Prop} (h : Q (.bool (i == j)) st) : W2 c VRep (.int i) (.int j) (compareOp .Eq) X Q st := W2_cmp (fun q => PySem.P.eq_int q) h
theorem cmp_ne {i j : Int} {Q : PV → St → Prop} (h : Q (.bool (i != j)) st) : W2 c VRep (.int i) (.int j) (compareOp .NotEq) X Q st := W2_cmp (fun q => PySem.P.ne_int q) h
end
end Mine
end
section
open PySem PySem.W PyProof.Rows
set_option Elab.async false
set_option linter.unusedVariables false
namespace Mine

/-- st' tells no more than st -/
def St.le (st' st : St) : Prop := (∀ x p, st'.1.lookup x = some p → st.1.lookup x = some p) ∧ st'.2.Sub st.2
theorem St.le_refl (st : St) : St.le st st := ⟨fun _ _ h => h, .refl _⟩
theorem lookup_append_left {x : Str} {p : PV} : ∀ {μ ν : Locals}, μ.lookup x = some p → (μ ++ ν).lookup x = some p
  | [], _, h => by cases h
  | (y, q) :: r, ν, h => by
    rw [List.cons_append, List.lookup_cons]
    rw [List.lookup_cons] at h
    split at h
    · assumption
    · exact lookup_append_left h
theorem St.le_app {μ ν : Locals} {σ σ' : AHeap} (h : σ.Sub σ') : St.le (μ, σ) (μ ++ ν, σ') := ⟨fun _ _ e => lookup_append_left e, h⟩

section
variable {c : Cx} {X : String → St → Prop} {st : St}
theorem WT.le {α β : Type} {rep : Heap → β → α → Prop} {t : Sem α} {Q : β → St → Prop} {st' : St} (h : WT c rep t X Q st') (hl : St.le st' st) : WT c rep t X Q st :=
  fun hid stk s ok R => h hid stk s ok ((R.weaken hl.2).locals hl.1)

/-! continuations that stand once -/
def seqQ (c : Cx) (l : List Stmt) (X : String → St → Prop) (Q : AFlow → St → Prop) : AFlow → St → Prop
  | .next, st => WS c l X Q st
  | .brk, st => Q .brk st
  | .cont, st => Q .cont st
  | .ret p, st => Q (.ret p) st
theorem seqQ_next {l : List Stmt} {Q : AFlow → St → Prop} (h : WS c l X Q st) : seqQ c l X Q .next st := h
theorem seqQ_cont {l : List Stmt} {Q : AFlow → St → Prop} (h : Q .cont st) : seqQ c l X Q .cont st := h
theorem seqQ_ret {l : List Stmt} {Q : AFlow → St → Prop} {p} (h : Q (.ret p) st) : seqQ c l X Q (.ret p) st := h
theorem S_seq {x l} {Q : AFlow → St → Prop} (h : WX c x X (seqQ c l X Q) st) : WS c (x :: l) X Q st :=
  S_cons (WT.mono h (fun f st q => by cases f <;> exact q) fun _ _ q => q)
theorem S_last {x} {Q : AFlow → St → Prop} (h : WX c x X Q st) : WS c [x] X Q st :=
  S_cons (WT.mono h (fun f st q => by cases f with | next => exact S_nil q | brk => exact q | cont => exact q | ret p => exact q) fun _ _ q => q)

def ifQ (c : Cx) (body orelse : List Stmt) (X : String → St → Prop) (Q : AFlow → St → Prop) (b : Bool) (st : St) : Prop := if b then WS c body X Q st else WS c orelse X Q st
theorem ifQ_true {l r : List Stmt} {Q : AFlow → St → Prop} (h : WS c l X Q st) : ifQ c l r X Q true st := h
theorem ifQ_false {l r : List Stmt} {Q : AFlow → St → Prop} (h : WS c r X Q st) : ifQ c l r X Q false st := h
theorem ifQ_dec {l r : List Stmt} {Q : AFlow → St → Prop} {b : Bool} (h1 : b = true → WS c l X Q st) (h2 : b = false → WS c r X Q st) : ifQ c l r X Q b st := by
  cases b
  · exact h2 rfl
  · exact h1 rfl
theorem S_if {test body orelse pos} {Q : AFlow → St → Prop} (h : WC c test X (ifQ c body orelse X Q) st) : WX c (.If test body orelse pos) X Q st := S_If h

def ifE (c : Cx) (body orelse : Expr) (X : String → St → Prop) (Q : PV → St → Prop) (b : Bool) (st : St) : Prop := if b then WE c body X Q st else WE c orelse X Q st
theorem ifE_dec {l r : Expr} {Q : PV → St → Prop} {b : Bool} (h1 : b = true → WE c l X Q st) (h2 : b = false → WE c r X Q st) : ifE c l r X Q b st := by
  cases b
  · exact h2 rfl
  · exact h1 rfl
theorem E_ifE {test body orelse pos} {Q : PV → St → Prop} (h : WC c test X (ifE c body orelse X Q) st) : WE c (.IfExp test body orelse pos) X Q st := E_IfExp h

def andQ (c : Cx) (l : List Expr) (X : String → St → Prop) (Q : Bool → St → Prop) (b : Bool) (st : St) : Prop := if b then WAll c .And l X Q st else Q false st
theorem andQ_true {l} {Q : Bool → St → Prop} (h : WAll c .And l X Q st) : andQ c l X Q true st := h
theorem andQ_false {l} {Q : Bool → St → Prop} (h : Q false st) : andQ c l X Q false st := h
theorem andQ_dec {l} {Q : Bool → St → Prop} {b : Bool} (h1 : b = true → WAll c .And l X Q st) (h2 : b = false → Q false st) : andQ c l X Q b st := by
  cases b
  · exact h2 rfl
  · exact h1 rfl
theorem And_step {x l} {Q : Bool → St → Prop} (h : WC c x X (andQ c l X Q) st) : WAll c .And (x :: l) X Q st := And_cons h
def orQ (c : Cx) (l : List Expr) (X : String → St → Prop) (Q : Bool → St → Prop) (b : Bool) (st : St) : Prop := if b then Q true st else WAll c .Or l X Q st
theorem orQ_true {l} {Q : Bool → St → Prop} (h : Q true st) : orQ c l X Q true st := h
theorem orQ_false {l} {Q : Bool → St → Prop} (h : WAll c .Or l X Q st) : orQ c l X Q false st := h
theorem Or_step {x l} {Q : Bool → St → Prop} (h : WC c x X (orQ c l X Q) st) : WAll c .Or (x :: l) X Q st := Or_cons h
/-- the last of a chain -/
theorem And_last {x} {Q : Bool → St → Prop} (h : WC c x X Q st) : WAll c .And [x] X Q st :=
  And_cons (WT.mono h (fun b st q => by cases b; exact q; exact And_nil q) fun _ _ q => q)
theorem Or_last {x} {Q : Bool → St → Prop} (h : WC c x X Q st) : WAll c .Or [x] X Q st :=
  Or_cons (WT.mono h (fun b st q => by cases b; exact Or_nil q; exact q) fun _ _ q => q)

def loopQ (I : Nat → St → Prop) (n : Nat) (Q : AFlow → St → Prop) : AFlow → St → Prop
  | .next, st | .cont, st => ∃ m st₃, m < n ∧ I m st₃ ∧ St.le st₃ st
  | .brk, st => Q .next st
  | .ret p, st => Q (.ret p) st
theorem loopQ_brk {I n} {Q : AFlow → St → Prop} (h : Q .next st) : loopQ I n Q .brk st := h
theorem loopQ_next {I : Nat → St → Prop} {n} {Q : AFlow → St → Prop} (m : Nat) {st₃ : St} (hm : m < n) (h : I m st₃) (hl : St.le st₃ st) : loopQ I n Q .next st := ⟨m, st₃, hm, h, hl⟩
theorem loopQ_cont {I : Nat → St → Prop} {n} {Q : AFlow → St → Prop} (m : Nat) {st₃ : St} (hm : m < n) (h : I m st₃) (hl : St.le st₃ st) : loopQ I n Q .cont st := ⟨m, st₃, hm, h, hl⟩

/-- a while by what holds between its turns; what a turn leaves behind may be forgotten -/
theorem S_while {test body orelse pos} {Q : AFlow → St → Prop} (I : Nat → St → Prop) (n : Nat) (st₀ : St) (h0 : I n st₀) (hl0 : St.le st₀ st)
    (turn : ∀ n st, I n st → WC c test X (fun b st₁ => (b = true → WS c body X (loopQ I n Q) st₁) ∧ (b = false → WS c orelse X Q st₁)) st) : WX c (.While test body orelse pos) X Q st := by
  refine S_While (fun n st => ∃ st₀, I n st₀ ∧ St.le st₀ st) n ⟨st₀, h0, hl0⟩ fun n st ⟨st₀, hI, hl⟩ => WT.le ?_ hl
  refine (turn n st₀ hI).mono (fun b st₁ h₁ => ?_) fun _ _ x => x
  cases b
  · exact h₁.2 rfl
  · refine WT.mono (h₁.1 rfl) (fun f st₂ h₂ => ?_) fun _ _ x => x
    cases f with
    | next => obtain ⟨m, st₃, h1, h2, h3⟩ := h₂; exact ⟨m, h1, st₃, h2, h3⟩
    | cont => obtain ⟨m, st₃, h1, h2, h3⟩ := h₂; exact ⟨m, h1, st₃, h2, h3⟩
    | brk => exact h₂
    | ret p => exact h₂
end

theorem at_set_same {σ : AHeap} {a : Addr} {o : AObj} : (σ.set a o) a = some o := AHeap.set_same ..
theorem at_set_ne {σ : AHeap} {a b : Addr} {o o' : AObj} (h : b ≠ a) (h2 : σ b = some o) : (σ.set a o') b = some o := by rw [AHeap.set_ne _ _ h]; exact h2
theorem seq_of {σ : AHeap} {a : Addr} {l : List PV} (h : σ a = some (.list l)) : seqAt σ a = some l := by simp [seqAt, h, AObj.items?]
theorem seq_ofr {σ : AHeap} {a : Addr} {l : List PV} (h : σ a = some (.rlist l)) : seqAt σ a = some l := by simp [seqAt, h, AObj.items?]
end Mine
end
section
open PySem PySem.W PyProof.Rows
set_option Elab.async false
set_option linter.unusedVariables false
namespace Mine

section
variable {base : Heap} {os₀ : OsState} {hid hs hs' : List (Addr × Obj)} {stk : List (Addr × Locals)} {σ : AHeap} {s : Shared}

/-- hidden things have changed -/
theorem Rep.hidChange (R : Rep base os₀ (hs ++ hid) stk σ s) {h' : Heap} {tk : Nat} (hm : hs'.map (·.1) = hs.map (·.1)) (hn : ∀ p ∈ hs', h'.get? p.1 = some p.2 ∧ p.2.cls ≠ .type "tuple")
    (hk : ∀ b o, b ∉ hs.map (·.1) → s.heap.get? b = some o → h'.get? b = some o) (hcl : ∀ p ∈ hs, p.2.cls ≠ .type "tuple") (ht : s.toks ≤ tk := by first | exact Nat.le_refl _ | exact Nat.le_succ _ | assumption) : Rep base os₀ (hs' ++ hid) stk σ { s with heap := h', toks := tk } ∧ Keeps s.heap h' := by
  have hin : ∀ b, b ∈ hs.map (·.1) → ∃ p ∈ hs ++ hid, p.1 = b := fun b hb => let ⟨p, hp, e⟩ := List.mem_map.mp hb; ⟨p, List.mem_append_left _ hp, e⟩
  have hin' : ∀ b, b ∈ hs.map (·.1) → ∃ p ∈ hs, p.1 = b := fun b hb => let ⟨p, hp, e⟩ := List.mem_map.mp hb; ⟨p, hp, e⟩
  have k : Keeps s.heap h' := fun b vs ⟨n, e⟩ => ⟨n, hk b _ (fun q => by
    obtain ⟨p, hp, rfl⟩ := hin' b q
    obtain ⟨a1, _, _, _, e1⟩ := R.hid p (List.mem_append_left _ hp)
    rw [a1] at e; exact hcl p hp (by rw [Option.some.inj e])) e⟩
  have hnd : ((hs' ++ hid).map (·.1)).Nodup := by have := R.hnd; rw [List.map_append] at this ⊢; rw [hm]; exact this
  refine ⟨⟨fun b o e => hk b o (fun q => ?_) (R.stays b o e), R.gens, R.os, fun p hp => ?_, fun f hf => ⟨(R.frames f hf).1.mono k fun _ => hk _ _ fun q => ?_, (R.frames f hf).2⟩, R.nodup, hnd, fun b o e => (R.heap b o e).mono k fun _ => hk _ _ fun q => ?_, Nat.lt_of_lt_of_le R.tk ht⟩, k⟩
  · obtain ⟨p, hp, rfl⟩ := hin b q
    rw [(R.hid p hp).2.1] at e; cases e
  · rcases List.mem_append.mp hp with hp | hp
    · have : p.1 ∈ hs.map (·.1) := hm ▸ List.mem_map_of_mem hp
      obtain ⟨q, hq, e⟩ := hin _ this
      obtain ⟨_, b1, c1, d1, _⟩ := R.hid q hq
      exact ⟨(hn p hp).1, e ▸ b1, e ▸ c1, e ▸ d1, trivial⟩
    · obtain ⟨a1, r⟩ := R.hid p (List.mem_append_right _ hp)
      refine ⟨hk _ _ (fun q => ?_) a1, r⟩
      have := R.hnd
      rw [List.map_append, List.nodup_append] at this
      exact this.2.2 _ q _ (List.mem_map_of_mem hp) rfl
  · obtain ⟨p, hp, e⟩ := hin _ q
    exact (R.hid p hp).2.2.2.1 (e ▸ List.mem_map_of_mem hf)
  · obtain ⟨p, hp, e'⟩ := hin _ q
    have := (R.hid p hp).2.2.1
    rw [e', e] at this; cases this
theorem Rep.hidDrop (R : Rep base os₀ (hs ++ hid) stk σ s) : Rep base os₀ hid stk σ s :=
  ⟨R.stays, R.gens, R.os, fun p hp => R.hid p (List.mem_append_right _ hp), R.frames, R.nodup, by have := R.hnd; rw [List.map_append, List.nodup_append] at this; exact this.2.1, R.heap, R.tk⟩
/-- hidden things have gone wrong and are forgotten -/
theorem Rep.hidForget (R : Rep base os₀ (hs ++ hid) stk σ s) {h' : Heap} {tk : Nat} (hk : ∀ b o, b ∉ hs.map (·.1) → s.heap.get? b = some o → h'.get? b = some o) (hcl : ∀ p ∈ hs, p.2.cls ≠ .type "tuple") (ht : s.toks ≤ tk := by first | exact Nat.le_refl _ | exact Nat.le_succ _ | assumption) : Rep base os₀ hid stk σ { s with heap := h', toks := tk } ∧ Keeps s.heap h' := by
  have hin : ∀ b, b ∈ hs.map (·.1) → ∃ p ∈ hs ++ hid, p.1 = b := fun b hb => let ⟨p, hp, e⟩ := List.mem_map.mp hb; ⟨p, List.mem_append_left _ hp, e⟩
  have hin' : ∀ b, b ∈ hs.map (·.1) → ∃ p ∈ hs, p.1 = b := fun b hb => let ⟨p, hp, e⟩ := List.mem_map.mp hb; ⟨p, hp, e⟩
  have k : Keeps s.heap h' := fun b vs ⟨n, e⟩ => ⟨n, hk b _ (fun q => by
    obtain ⟨p, hp, rfl⟩ := hin' b q
    obtain ⟨a1, _, _, _, e1⟩ := R.hid p (List.mem_append_left _ hp)
    rw [a1] at e; exact hcl p hp (by rw [Option.some.inj e])) e⟩
  refine ⟨⟨fun b o e => hk b o (fun q => ?_) (R.stays b o e), R.gens, R.os, fun p hp => ?_, fun f hf => ⟨(R.frames f hf).1.mono k fun _ => hk _ _ fun q => ?_, (R.frames f hf).2⟩, R.nodup, R.hidDrop.hnd, fun b o e => (R.heap b o e).mono k fun _ => hk _ _ fun q => ?_, Nat.lt_of_lt_of_le R.tk ht⟩, k⟩
  · obtain ⟨p, hp, rfl⟩ := hin b q
    rw [(R.hid p hp).2.1] at e; cases e
  · obtain ⟨a1, r⟩ := R.hid p (List.mem_append_right _ hp)
    refine ⟨hk _ _ (fun q => ?_) a1, r⟩
    have := R.hnd
    rw [List.map_append, List.nodup_append] at this
    exact this.2.2 _ q _ (List.mem_map_of_mem hp) rfl
  · obtain ⟨p, hp, e⟩ := hin _ q
    exact (R.hid p hp).2.2.2.1 (e ▸ List.mem_map_of_mem hf)
  · obtain ⟨p, hp, e'⟩ := hin _ q
    have := (R.hid p hp).2.2.1
    rw [e', e] at this; cases this
/-- a new hidden thing -/
theorem Rep.hidNew (R : Rep base os₀ hid stk σ s) {ob : Obj} (hc : ob.cls ≠ .type "tuple") (hf : ob.isFreed = false) : Rep base os₀ ((s.heap.objs.size, ob) :: hid) stk σ { s with heap := s.heap.push ob } := by
  have R' := R.grow (s' := { s with heap := s.heap.push ob }) (fun _ _ e => Heap.get?_push_of_some _ e) rfl rfl
  refine ⟨R'.stays, R'.gens, R'.os, fun p hp => ?_, R'.frames, R'.nodup, ?_, R'.heap, R'.tk⟩
  · rcases List.mem_cons.mp hp with rfl | hp
    · refine ⟨Heap.get?_push_size _ hf, R.fresh_base, R.fresh_σ, fun q => ?_, trivial⟩
      obtain ⟨f, hf, e⟩ := List.mem_map.mp q
      exact R.fresh_stk f hf e
    · exact R'.hid p hp
  · simp only [List.map_cons, List.nodup_cons]
    exact ⟨fun q => by obtain ⟨p, hp, e⟩ := List.mem_map.mp q; exact R.fresh_hid p hp e, R.hnd⟩
end

/-- an iterator at work: Sk k tells its hidden things ahead of item k -/
structure IterAt (G : Gx) (target : Expr) (it : Addr) (Sk : Nat → List (Addr × Obj) → Prop) (KP : Heap → Prop) (P : AHeap → Prop) (items : List PV) : Prop where
  mono : ∀ h h', Keeps h h' → KP h → KP h'
  next : ∀ k p, items[k]? = some p → ∀ A hid stk σ s hs E Q, A.handled = none → Sk k hs → KP s.heap → P σ → Rep G.base G.os (hs ++ hid) stk σ s →
    (∀ v s', (∀ Q' E' A', (∀ s'' hs'', Sk (k + 1) hs'' → Rep G.base G.os (hs'' ++ hid) stk σ s'' → Keeps s'.heap s''.heap → Q' () s'') → wpAny G.M A' (letOwnedTupleGo target (.ref it) v) Q' E' s') → VRep s'.heap p v → Keeps s.heap s'.heap → Q (some v) s') → wpAny G.M A (pyNext (.ref it)) Q E s
  stop : ∀ A hid stk σ s hs E Q, A.handled = none → Sk items.length hs → KP s.heap → P σ → Rep G.base G.os (hs ++ hid) stk σ s →
    (∀ s', Rep G.base G.os hid stk σ s' → Keeps s.heap s'.heap → Q none s') → wpAny G.M A (pyNext (.ref it)) Q E s
  self : ∀ k A hid stk σ s hs E Q, Sk k hs → Rep G.base G.os (hs ++ hid) stk σ s → Q (.ref it) s → wpAny G.M A (pyIter (.ref it)) Q E s

theorem letOwned_other {prog : Program} {w : World} {A : Around} {E : Value → Shared → Prop} {s : Shared} {target : Expr} {it : Addr} {v : Value} {ob : Obj} {Q : Unit → Shared → Prop} (ho : s.heap.get? it = some ob)
    (hc : ∀ n, ob.cls = .type n → ["enumerate", "zip", "dict_itemiterator", "dict_reverseitemiterator", "odict_iterator", "itertools.zip_longest", "itertools.pairwise"].contains n = false) (h : Q () s) : wpAny (model prog w) A (letOwnedTupleGo target (.ref it) v) Q E s := by
  have key : ∀ a : Addr, wpAny (model prog w) A (do
      let o ← load it
      match o.cls, o.data with
      | .type n, .fields vs =>
        if ["enumerate", "zip", "dict_itemiterator", "dict_reverseitemiterator", "odict_iterator", "itertools.zip_longest", "itertools.pairwise"].contains n && vs[0]? == some (rawInt a) then
          rule "for.unpacks-the-owned-tuple"
          updateField it 0 .none
      | _, _ => pure ()) Q E s := fun a => by
    refine wpAny_bind (wpAny_load ho ?_)
    obtain ⟨cl, d, dt, sl⟩ := ob
    cases cl with
    | type n =>
      cases dt with
      | fields vs =>
        have := hc n rfl
        simp only [this, Bool.false_and, Bool.false_eq_true, if_false]
        exact wpAny_pure h
      | _ => exact wpAny_pure h
    | _ => exact wpAny_pure h
  unfold letOwnedTupleGo
  cases target <;> first
    | exact wpAny_pure h
    | (cases v <;> first | exact wpAny_pure h | exact key _)

section
variable {G : Gx}
def IsLIt (a : Addr) (k : Nat) (o : Obj) : Prop := o.cls = .type "list_iterator" ∧ o.data = .fields #[.ref a, .int k 0]
theorem iter_list (target : Expr) (it a : Addr) (l : List PV) : IterAt G target it (fun k hs => ∃ o, hs = [(it, o)] ∧ IsLIt a k o) (fun _ => True) (fun σ => seqAt σ a = some l) l where
  mono := fun _ _ _ _ => trivial
  next := fun k p hp A hid stk σ s hs E Q hh hsk _ hσ R hQ => by
    obtain ⟨o, rfl, hc, hd⟩ := hsk
    obtain ⟨vs, hL, hvs⟩ := R.seq hσ
    obtain ⟨v, hv, hr⟩ := hvs.get _ _ hp
    have ho := (R.hid (it, o) (List.mem_cons_self ..)).1
    refine wpAny_pyNext_list_item ⟨_, ho, hc, hd⟩ hL.isList (by simpa using hv) fun h' hit' hs' => ?_
    obtain ⟨o', ho', hc', hd'⟩ := hit'
    obtain ⟨R', kp⟩ := R.hidChange (hs' := [(it, o')]) (tk := s.toks) (h' := h') rfl (fun q hq => by simp at hq; subst hq; exact ⟨ho', by rw [hc']; decide⟩) (fun b ob hb e => (hs'.2 b (by simpa using hb)).trans e) (fun q hq => by simp at hq; subst hq; show o.cls ≠ _; rw [hc]; decide)
    exact hQ v _ (fun Q' E' A' hq => letOwned_other ho' (fun n e => by rw [hc'] at e; cases e; rfl) (hq _ _ ⟨o', rfl, hc', by simpa using hd'⟩ R' (.refl _))) (hr.mono kp) kp
  stop := fun A hid stk σ s hs E Q hh hsk _ hσ R hQ => by
    obtain ⟨o, rfl, hc, hd⟩ := hsk
    obtain ⟨vs, hL, hvs⟩ := R.seq hσ
    have ho := (R.hid (it, o) (List.mem_cons_self ..)).1
    refine wpAny_pyNext_list_end hh ⟨_, ho, hc, hd⟩ hL.isList (by simp [hvs.length]) fun h' he => ?_
    obtain ⟨R', k⟩ := R.hidForget (tk := s.toks) (h' := h') (fun b o hb e => he b o (by simpa using hb) e) (fun q hq => by simp at hq; subst hq; show o.cls ≠ _; rw [hc]; decide)
    exact hQ _ R' k
  self := fun k A hid stk σ s hs E Q hsk R hQ => by
    obtain ⟨o, rfl, hc, hd⟩ := hsk
    have ho := (R.hid (it, o) (List.mem_cons_self ..)).1
    exact wpAny_pyIter_listiter ⟨_, ho, hc, hd⟩ hQ

/-- the ints from a by c -/
def rangeL (a c : Int) (n : Nat) : List PV := (List.range n).map fun (i : Nat) => PV.int (a + (i : Int) * c)
@[simp] theorem rangeL_length (a c : Int) (n : Nat) : (rangeL a c n).length = n := by simp [rangeL]
theorem rangeL_get {a c : Int} {n k : Nat} {p : PV} (h : (rangeL a c n)[k]? = some p) : k < n ∧ p = .int (a + (k : Int) * c) := by
  simp only [rangeL, List.getElem?_map] at h
  cases q : (List.range n)[k]? with
  | none => rw [q] at h; cases h
  | some j =>
    rw [q] at h
    obtain ⟨h1, h2⟩ := List.getElem?_eq_some_iff.mp q
    simp at h1 h2
    subst h2
    exact ⟨h1, (Option.some.inj h).symm⟩
theorem iter_range (target : Expr) (it : Addr) (a c : Int) (n : Nat) : IterAt G target it (fun k hs => hs = [(it, { cls := .type "range_iterator", dict := none, data := .fields #[rawInt (a + (k : Int) * c), rawInt ((n : Int) - (k : Int)), rawInt c], slots := #[] })]) (fun _ => True) (fun _ => True) (rangeL a c n) where
  mono := fun _ _ _ _ => trivial
  next := fun k p hp A hid stk σ s hs E Q hh hsk _ hσ R hQ => by
    subst hsk
    obtain ⟨hk, rfl⟩ := rangeL_get hp
    have ho := (R.hid _ (List.mem_cons_self ..)).1
    refine wpAny_pyNext_range_item ho (by omega) fun h' hit' hs' => ?_
    obtain ⟨R', kp⟩ := R.hidChange (hs' := [(it, { cls := .type "range_iterator", dict := none, data := .fields #[rawInt (a + ((k + 1 : Nat) : Int) * c), rawInt ((n : Int) - ((k + 1 : Nat) : Int)), rawInt c], slots := #[] })]) (tk := s.toks + 1) (h' := h') rfl (fun q hq => by
      simp at hq; subst hq
      refine ⟨?_, by show Value.type "range_iterator" ≠ Value.type "tuple"; decide⟩
      have e1 : a + ((k + 1 : Nat) : Int) * c = a + (k : Int) * c + c := by push_cast; rw [Int.add_mul, Int.one_mul, Int.add_assoc]
      have e2 : (n : Int) - ((k + 1 : Nat) : Int) = (n : Int) - (k : Int) - 1 := by push_cast; omega
      have e1' : a + ((k : Int) + 1) * c = a + (k : Int) * c + c := by rw [Int.add_mul, Int.one_mul, Int.add_assoc]
      have e2' : (n : Int) - ((k : Int) + 1) = (n : Int) - (k : Int) - 1 := by omega
      first | (rw [e1, e2]; exact hit') | (rw [e1', e2']; exact hit')) (fun b ob hb e => (hs'.2 b (by simpa using hb)).trans e) (fun q hq => by simp at hq; subst hq; show Value.type "range_iterator" ≠ Value.type "tuple"; decide)
    exact hQ _ _ (fun Q' E' A' hq => letOwned_other (R'.hid _ (List.mem_cons_self ..)).1 (fun n e => by cases e; rfl) (hq _ _ rfl R' (.refl _))) ⟨_, rfl⟩ kp
  stop := fun A hid stk σ s hs E Q hh hsk _ hσ R hQ => by
    subst hsk
    have ho := (R.hid _ (List.mem_cons_self ..)).1
    refine wpAny_pyNext_range_end hh ho (by simp) fun h' he => ?_
    obtain ⟨R', k⟩ := R.hidForget (tk := s.toks) (h' := h') (fun b o hb e => he b o (by simpa using hb) e) (fun q hq => by simp at hq; subst hq; show Value.type "range_iterator" ≠ Value.type "tuple"; decide)
    exact hQ _ R' k
  self := fun k A hid stk σ s hs E Q hsk R hQ => by
    subst hsk
    have ho := (R.hid _ (List.mem_cons_self ..)).1
    exact wpAny_pyIter_rangeiter ho hQ
end

section
variable {c : Cx} {X : String → St → Prop} {st : St} {μ : Locals} {σ : AHeap}

/-- a value that can be gone through: its items, and what must stay so of the state -/
def ItOk (c : Cx) (target : Expr) (p : PV) (st : St) (items : List PV) (P : AHeap → Prop) : Prop :=
  ∀ v hid stk s E Q, COk c.lv c.A c.env (stk.map (·.1)) → Rep c.base c.os hid ((c.env.locals, st.1) :: stk) st.2 s → VRep s.heap p v →
    (∀ it Sk KP hs s', IterAt c.toGx target it Sk KP P items → Sk 0 hs → KP s'.heap → Rep c.base c.os (hs ++ hid) ((c.env.locals, st.1) :: stk) st.2 s' → Keeps s.heap s'.heap → Q (.ref it) s') → wpAny c.M c.A (pyIter v) Q E s

theorem it_list {target : Expr} {a : Addr} {l : List PV} (h : seqAt σ a = some l) : ItOk c target (.ref a) (μ, σ) l (fun σ => seqAt σ a = some l) := fun v hid stk s E Q ok R hv hQ => by
  simp only [VRep] at hv; subst hv
  obtain ⟨vs, hL, _⟩ := R.seq h
  refine wpAny_pyIter_list hL.isList (hQ _ _ _ [(s.heap.objs.size, { cls := .type "list_iterator", data := .fields #[.ref a, .int 0 0] })] _ (iter_list target s.heap.objs.size a l) ⟨_, rfl, rfl, rfl⟩ trivial ?_ (Keeps.push _ _))
  exact R.hidNew (by show Value.type "list_iterator" ≠ Value.type "tuple"; decide) rfl
/-- the target of a loop takes an item -/
abbrev WAsg (c : Cx) (target : Expr) (p : PV) (X : String → St → Prop) (Q : St → Prop) (st : St) : Prop := W1 c UnitRep p (fun v => assign target c.env v) X (fun _ st => Q st) st

def forQ (I : Nat → St → Prop) (k : Nat) (Q : AFlow → St → Prop) : AFlow → St → Prop
  | .next, st | .cont, st => ∃ st₃, I k st₃ ∧ St.le st₃ st
  | .brk, st => Q .next st
  | .ret p, st => Q (.ret p) st
theorem forQ_ret {I k} {Q : AFlow → St → Prop} {p} (h : Q (.ret p) st) : forQ I k Q (.ret p) st := h
theorem forQ_next {I : Nat → St → Prop} {k} {Q : AFlow → St → Prop} {st₃ : St} (h : I k st₃) (hl : St.le st₃ st) : forQ I k Q .next st := ⟨st₃, h, hl⟩
theorem PostX.hidDrop {hid hs stk x s} (h : PostX c X (hs ++ hid) stk x s) : PostX c X hid stk x s := by
  obtain ⟨x, cls, st', rfl, R, hx, q⟩ := h
  exact ⟨x, cls, st', rfl, R.hidDrop, hx.map fun a ha => ⟨ha.1, ha.2.1, fun p hp => ha.2.2 p (List.mem_append_right _ hp)⟩, q⟩

/-- the iterator over an expression -/
def WI (c : Cx) (target iter : Expr) (X : String → St → Prop) (Q : List PV → (AHeap → Prop) → St → Prop) (st : St) : Prop :=
  ∀ hid stk s, COk c.lv c.A c.env (stk.map (·.1)) → Rep c.base c.os hid ((c.env.locals, st.1) :: stk) st.2 s →
    wpAny c.M c.A (eval iter c.env) (fun v s₁ => wpAny c.M c.A (pyIter v) (fun itv s₂ => ∃ it Sk KP hs items P st₁, itv = .ref it ∧ IterAt c.toGx target it Sk KP P items ∧ Sk 0 hs ∧ KP s₂.heap ∧
      Rep c.base c.os (hs ++ hid) ((c.env.locals, st₁.1) :: stk) st₁.2 s₂ ∧ Keeps s.heap s₂.heap ∧ Q items P st₁) (PostX c X hid stk) s₁) (PostX c X hid stk) s
theorem WI_of {target iter} {Q : List PV → (AHeap → Prop) → St → Prop} (h : WE c iter X (fun p st₁ => ∃ items P, ItOk c target p st₁ items P ∧ Q items P st₁) st) : WI c target iter X Q st := fun hid stk s ok R => by
  refine wpAny_mono (h hid stk s ok R) (fun v s₁ hp => ?_) fun _ _ y => y
  obtain ⟨p, st₁, R₁, hv, k₁, items, P, hit, q⟩ := hp
  exact hit v hid stk s₁ _ _ ok R₁ hv fun it Sk KP hs s₂ IT hS0 hK0 R₂ k₂ => ⟨it, Sk, KP, hs, items, P, st₁, rfl, IT, hS0, hK0, R₂, k₁.trans k₂, q⟩
/-- a for over items -/
theorem S_forI {target iter body orelse pos} {Q : AFlow → St → Prop} (hcalm : c.lv.calm = true) (I : Nat → St → Prop)
    (h : WI c target iter X (fun items P st₁ => ∃ st₀, I 0 st₀ ∧ St.le st₀ st₁ ∧ (∀ k st, I k st → P st.2) ∧
      (∀ k p st, items[k]? = some p → I k st → WAsg c target p X (fun st' => WS c body X (forQ I (k + 1) Q) st') st) ∧ (∀ st, I items.length st → WS c orelse X Q st)) st)
    (hf : ∀ x, foldedSetIterable iter c.env x = pure x) : WX c (.For target iter body orelse pos) X Q st := fun hid stk s ok R => by
  have hh : c.A.handled = none := by obtain ⟨_, _, a, _⟩ := ok.ok; exact a.calm hcalm
  refine wpAny_For (wpAny_mono (h hid stk s ok R) (fun v s₁ hp => wpAny_mono hp (fun itv s₂ hp => ?_) fun _ _ y => y) fun _ _ y => y) hf
  obtain ⟨it, Sk, KP, hs, items, P, st₁, rfl, IT, hS0, hK0, R₂, k₂, st₀, h0, hl0, hP, turn, fin⟩ := hp
  refine codeAny_mono (R := LoopR c X Q hid stk s.heap) ?_ fun r s' x => x.back
  have hE : ∀ e s'', PostX c X hid stk e s'' → notedBy c.M c.A c.env (fun e s' => LoopR c X Q hid stk s.heap (.error e) s') e s'' :=
    fun e s'' hx => hx.noted ok fun x cls st' s' R n q => ⟨x, cls, st', rfl, R, n, q⟩
  -- the loop, its owned tuple and all
  refine codeAny_loop' rfl (fun n s' => ∃ k hs st', n = items.length - k ∧ k ≤ items.length ∧ Sk k hs ∧ KP s'.heap ∧ I k st' ∧ Rep c.base c.os (hs ++ hid) ((c.env.locals, st'.1) :: stk) st'.2 s' ∧ Keeps s.heap s'.heap) ?_ items.length
    ⟨0, hs, st₀, by simp, Nat.zero_le _, hS0, hK0, h0, (R₂.weaken hl0.2).locals hl0.1, k₂⟩
  rintro n s' ⟨k, hs', st', rfl, hle, hSk, hKP, hI, R', k'⟩
  show wpAny _ _ ((forTurn target (.ref it) body orelse c.env).onRaise (fun x => do noteFrame x c.env; theTreesLotGoes x)) _ _ s'
  refine wpAny_noted ?_
  simp only [forTurn]
  refine wpAny_bind (wpAny_standAt (wpAny_bind (wpAny_onRaise ?_)))
  rcases Nat.lt_or_ge k items.length with hlt | hge
  · have hx : items[k]? = some items[k] := List.getElem?_eq_getElem hlt
    refine IT.next k _ hx _ _ _ _ _ _ _ _ hh hSk hKP (hP _ _ hI) R' fun v s₃ own hv₃ k₃ => ?_
    refine wpAny_bind (own _ _ _ fun s₄ hs₄ hSk₄ R₄ k₄ => ?_)
    refine wpAny_bind (wpAny_mono (turn k _ st' hx hI v (hs₄ ++ hid) stk s₄ ok R₄ (hv₃.mono k₄)) (fun _ s₅ h₅ => ?_) fun e s'' y => hE e s'' y.hidDrop)
    obtain ⟨_, st₅, R₅, _, k₅, h₅⟩ := h₅
    refine wpAny_bind (wpAny_mono (h₅ (hs₄ ++ hid) stk s₅ ok R₅) (fun f s₆ h₆ => ?_) fun e s'' y => hE e s'' y.hidDrop)
    obtain ⟨fl, st₆, R₆, hf₆, k₆, h₆⟩ := h₆
    have kk := (k'.trans k₃).trans (k₄.trans (k₅.trans k₆))
    have again : (∃ st₃, I (k + 1) st₃ ∧ St.le st₃ st₆) → ∃ m, m < items.length - k ∧ (∃ k hs st', m = items.length - k ∧ k ≤ items.length ∧ Sk k hs ∧ KP s₆.heap ∧ I k st' ∧ Rep c.base c.os (hs ++ hid) ((c.env.locals, st'.1) :: stk) st'.2 s₆ ∧ Keeps s.heap s₆.heap) := by
      rintro ⟨st₃, hI₃, hl₃⟩
      exact ⟨items.length - (k + 1), by omega, k + 1, hs₄, st₃, rfl, hlt, hSk₄, IT.mono _ _ (k₃.trans (k₄.trans (k₅.trans k₆))) hKP, hI₃, (R₆.weaken hl₃.2).locals hl₃.1, kk⟩
    cases fl with
    | next => cases hf₆; exact wpAny_pure (.inl ⟨rfl, again h₆⟩)
    | cont => cases hf₆; exact wpAny_pure (.inl ⟨rfl, again h₆⟩)
    | brk => cases hf₆; exact wpAny_pure ⟨.next, st₆, R₆.hidDrop, rfl, kk, h₆⟩
    | ret p => obtain ⟨u, rfl, hu⟩ := hf₆; exact wpAny_pure ⟨.ret p, st₆, R₆.hidDrop, ⟨u, rfl, hu⟩, kk, h₆⟩
  · have hk : k = items.length := by omega
    subst hk
    refine IT.stop _ _ _ _ _ _ _ _ hh hSk hKP (hP _ _ hI) R' fun s₃ R₃ k₃ => ?_
    refine wpAny_pure (.inr ⟨rfl, codeAny_block ?_⟩)
    exact wpAny_mono (fin st' hI hid stk s₃ ok R₃) (fun f s₄ y => y.keeps (k'.trans k₃)) hE
theorem S_for {target iter body orelse pos} {Q : AFlow → St → Prop} (hcalm : c.lv.calm = true) (I : Nat → St → Prop)
    (h : WE c iter X (fun p st₁ => ∃ items P st₀, ItOk c target p st₁ items P ∧ I 0 st₀ ∧ St.le st₀ st₁ ∧ (∀ k st, I k st → P st.2) ∧
      (∀ k p st, items[k]? = some p → I k st → WAsg c target p X (fun st' => WS c body X (forQ I (k + 1) Q) st') st) ∧ (∀ st, I items.length st → WS c orelse X Q st)) st)
    (hf : ∀ x, foldedSetIterable iter c.env x = pure x) : WX c (.For target iter body orelse pos) X Q st :=
  S_forI hcalm I (WI_of (WT.mono h (fun p st₁ ⟨items, P, st₀, a, b⟩ => ⟨items, P, a, st₀, b⟩) fun _ _ y => y)) hf
end
end Mine
end
section
open PySem PySem.W PyProof.Rows PySem.SeqAt
set_option Elab.async false
set_option linter.unusedVariables false
namespace Mine

/-- p == q comes out as b, at most n deep -/
inductive EqR (σ : AHeap) : Nat → PV → PV → Bool → Prop
  | int {n} (i j : Int) : EqR σ n (.int i) (.int j) (i == j)
  | str {n} (x y : Str) (t u : Tok) : EqR σ n (.str x t) (.str y u) (x == y)
  | none {n} : EqR σ n .none .none true
  | int_none {n} (i : Int) : EqR σ n (.int i) .none false
  | none_int {n} (i : Int) : EqR σ n .none (.int i) false
  | int_str {n} (i : Int) (x : Str) (t : Tok) : EqR σ n (.int i) (.str x t) false
  | str_int {n} (x : Str) (t : Tok) (i : Int) : EqR σ n (.str x t) (.int i) false
  | none_str {n} (x : Str) (t : Tok) : EqR σ n .none (.str x t) false
  | str_none {n} (x : Str) (t : Tok) : EqR σ n (.str x t) .none false
  | int_list {n a l} (i : Int) (h : seqAt σ a = some l) : EqR σ n (.int i) (.ref a) false
  | list_int {n a l} (i : Int) (h : seqAt σ a = some l) : EqR σ n (.ref a) (.int i) false
  | none_list {n a l} (h : seqAt σ a = some l) : EqR σ n .none (.ref a) false
  | list_none {n a l} (h : seqAt σ a = some l) : EqR σ n (.ref a) .none false
  | str_list {n a l} (x : Str) (t : Tok) (h : seqAt σ a = some l) : EqR σ n (.str x t) (.ref a) false
  | list_str {n a l} (x : Str) (t : Tok) (h : seqAt σ a = some l) : EqR σ n (.ref a) (.str x t) false
  | same {n} (a : Addr) : EqR σ n (.ref a) (.ref a) true
  | lists {n a b l m} {e : Nat → Bool} (hne : a ≠ b) (ha : seqAt σ a = some l) (hb : seqAt σ b = some m) (hlen : l.length = m.length) (h : ∀ (j : Nat) p q, l[j]? = some p → m[j]? = some q → EqR σ n p q (e j)) : EqR σ (n + 1) (.ref a) (.ref b) ((List.range l.length).all e)
  | lens {n a b l m} (hne : a ≠ b) (ha : seqAt σ a = some l) (hb : seqAt σ b = some m) (hlen : l.length ≠ m.length) : EqR σ n (.ref a) (.ref b) false
  | tups {n l m} {e : Nat → Bool} (h : ∀ (j : Nat) p q, l[j]? = some p → m[j]? = some q → EqR σ n p q (e j)) : EqR σ (n + 1) (.tup l) (.tup m) ((List.range (min l.length m.length)).all e && l.length == m.length)

section
variable {base : Heap} {os₀ : OsState} {hid : List (Addr × Obj)} {stk : List (Addr × Locals)} {σ : AHeap} {s : Shared}

theorem VReps.pt {h : Heap} {ps : List PV} {vs : List Value} (x : VReps h ps vs) {j : Nat} (hj : j < vs.toArray.size) : ∃ p, ps[j]? = some p ∧ VRep h p vs.toArray[j] := by
  have hj' : j < ps.length := by rw [← x.length]; simpa using hj
  obtain ⟨v, hv, hr⟩ := x.get j ps[j] (List.getElem?_eq_getElem hj')
  refine ⟨ps[j], List.getElem?_eq_getElem hj', ?_⟩
  have : vs.toArray[j] = v := by
    have hj'' : j < vs.length := by simpa using hj
    rw [List.getElem?_eq_getElem hj''] at hv
    simpa using Option.some.inj hv
  rw [this]; exact hr

theorem EqR.refl_true {h : Heap} {n : Nat} {p q : PV} {b : Bool} (x : EqR σ n p q b) : ∀ {v : Value}, VRep h p v → VRep h q v → b = true := by
  induction x with
  | int i j => intro v hv hu; obtain ⟨t, rfl⟩ := hv; obtain ⟨t', e⟩ := hu; cases e; simp
  | str i j t u => intro v hv hu; simp only [VRep] at hv hu; subst hv; cases hu; simp
  | none => intros; rfl
  | int_none i => intro v hv hu; obtain ⟨t, rfl⟩ := hv; simp only [VRep] at hu; cases hu
  | none_int i => intro v hv hu; obtain ⟨t, rfl⟩ := hu; simp only [VRep] at hv; cases hv
  | int_str i x t => intro v hv hu; obtain ⟨t, rfl⟩ := hv; simp only [VRep] at hu; cases hu
  | str_int i t x => intro v hv hu; obtain ⟨t, rfl⟩ := hu; simp only [VRep] at hv; cases hv
  | none_str x t => intro v hv hu; simp only [VRep] at hv hu; subst hv; cases hu
  | str_none x t => intro v hv hu; simp only [VRep] at hv hu; subst hv; cases hu
  | int_list i h => intro v hv hu; obtain ⟨t, rfl⟩ := hv; simp only [VRep] at hu; cases hu
  | list_int i h => intro v hv hu; obtain ⟨t, rfl⟩ := hu; simp only [VRep] at hv; cases hv
  | none_list h => intro v hv hu; simp only [VRep] at hv hu; rw [hv] at hu; cases hu
  | list_none h => intro v hv hu; simp only [VRep] at hv hu; rw [hv] at hu; cases hu
  | str_list x t h => intro v hv hu; simp only [VRep] at hv hu; subst hv; cases hu
  | list_str x t h => intro v hv hu; simp only [VRep] at hv hu; subst hv; cases hu
  | same a => intros; rfl
  | lists hne ha hb hlen h ih => intro v hv hu; simp only [VRep] at hv hu; rw [hv] at hu; cases hu; exact absurd rfl hne
  | lens hne ha hb hlen => intro v hv hu; simp only [VRep] at hv hu; rw [hv] at hu; cases hu; exact absurd rfl hne
  | @tups n l m e hh ih =>
    intro v hv hu; simp only [VRep] at hv hu
    obtain ⟨a, vs, rfl, ⟨k, hL⟩, hvs⟩ := hv
    obtain ⟨b, ws, e', ⟨k', hM⟩, hws⟩ := hu
    cases e'
    rw [hL] at hM
    have hvw : vs.toArray = ws.toArray := by
      have := congrArg Obj.data (Option.some.inj hM)
      simp only [Data.seq.injEq] at this
      exact this.1
    have hvw' : vs = ws := by simpa using hvw
    subst hvw'
    have e1 := hvs.length; have e2 := hws.length
    have hlm : l.length = m.length := by omega
    rw [hlm]
    simp only [Nat.min_self, beq_self_eq_true, Bool.and_true, List.all_eq_true, List.mem_range]
    intro j hj
    obtain ⟨v, hv, hr⟩ := hvs.get j l[j] (List.getElem?_eq_getElem (by omega))
    obtain ⟨v', hv', hr'⟩ := hws.get j m[j] (List.getElem?_eq_getElem hj)
    rw [hv] at hv'; cases hv'
    exact ih j _ _ (List.getElem?_eq_getElem (by omega)) (List.getElem?_eq_getElem hj) hr hr'

theorem EqR.at (R : Rep base os₀ hid stk σ s) {n : Nat} {p q : PV} {b : Bool} (h : EqR σ n p q b) : ∀ {A : Around} {v u : Value}, A.units + n < cLine → VRep s.heap p v → VRep s.heap q u → EqAt A s v u b := by
  induction h with
  | int i j => intro A v u _ hv hu; obtain ⟨t, rfl⟩ := hv; obtain ⟨t', rfl⟩ := hu; exact .int_int _ _ _ _
  | str x y t t' => intro A v u _ hv hu; simp only [VRep] at hv hu; subst hv hu; exact .str_str _ _ _ _
  | none => intro A v u _ hv hu; simp only [VRep] at hv hu; subst hv hu; exact .same _
  | int_none i => intro A v u _ hv hu; simp only [VRep] at hu; obtain ⟨t, rfl⟩ := hv; subst hu; exact .int_none _ _
  | none_int i => intro A v u _ hv hu; simp only [VRep] at hv; obtain ⟨t, rfl⟩ := hu; subst hv; exact .none_int _ _
  | int_str i x t' => intro A v u _ hv hu; obtain ⟨t, rfl⟩ := hv; simp only [VRep] at hu; subst hu; exact .int_str _ _ _ _
  | str_int i t' x => intro A v u _ hv hu; obtain ⟨t, rfl⟩ := hu; simp only [VRep] at hv; subst hv; exact .str_int _ _ _ _
  | none_str x t => intro A v u _ hv hu; simp only [VRep] at hv hu; subst hv hu; exact .none_str _ _
  | str_none x t => intro A v u _ hv hu; simp only [VRep] at hv hu; subst hv hu; exact .str_none _ _
  | int_list i h => intro A v u hU hv hu; simp only [VRep] at hu; obtain ⟨t, rfl⟩ := hv; subst hu; obtain ⟨_, hL, _⟩ := R.seq h; exact .int_list _ _ hL.isList (by omega)
  | list_int i h => intro A v u hU hv hu; simp only [VRep] at hv; obtain ⟨t, rfl⟩ := hu; subst hv; obtain ⟨_, hL, _⟩ := R.seq h; exact .list_int _ _ hL.isList (by omega)
  | none_list h => intro A v u hU hv hu; simp only [VRep] at hv hu; subst hv hu; obtain ⟨_, hL, _⟩ := R.seq h; exact .none_list hL.isList (by omega)
  | list_none h => intro A v u hU hv hu; simp only [VRep] at hv hu; subst hv hu; obtain ⟨_, hL, _⟩ := R.seq h; exact .list_none hL.isList (by omega)
  | str_list x t h => intro A v u hU hv hu; simp only [VRep] at hv hu; subst hv hu; obtain ⟨_, hL, _⟩ := R.seq h; exact .str_list _ _ hL.isList (by omega)
  | list_str x t h => intro A v u hU hv hu; simp only [VRep] at hv hu; subst hv hu; obtain ⟨_, hL, _⟩ := R.seq h; exact .list_str _ _ hL.isList (by omega)
  | same a => intro A v u _ hv hu; simp only [VRep] at hv hu; subst hv hu; exact .same _
  | @lists n a b l m e hne ha hb hlen h ih =>
    intro A v u hU hv hu; simp only [VRep] at hv hu; subst hv hu
    obtain ⟨vs, hL, hvs⟩ := R.seq ha
    obtain ⟨ws, hM, hws⟩ := R.seq hb
    have e1 := hvs.length; have e2 := hws.length
    have := RcAt.lists (A := A) (s := s) (e := e) hL.isList hM.isList (by simp; omega) (by omega) fun j h1 h2 => by
      obtain ⟨p, hp, hr⟩ := hvs.pt h1
      obtain ⟨q, hq, hr'⟩ := hws.pt h2
      exact ih j p q hp hq (A := A.in1) (by show A.units + 1 + n < cLine; omega) hr hr'
    refine EqAt.of_refs hne ?_
    simpa [e1] using this
  | @lens n a b l m hne ha hb hlen =>
    intro A v u hU hv hu; simp only [VRep] at hv hu; subst hv hu
    obtain ⟨vs, hL, hvs⟩ := R.seq ha
    obtain ⟨ws, hM, hws⟩ := R.seq hb
    have e1 := hvs.length; have e2 := hws.length
    exact EqAt.of_refs hne (RcAt.lists_lengths hL.isList hM.isList (by simp; omega) (by omega))
  | @tups n l m e h ih =>
    intro A v u hU hv hu; simp only [VRep] at hv hu
    obtain ⟨a, vs, rfl, hL, hvs⟩ := hv
    obtain ⟨b, ws, rfl, hM, hws⟩ := hu
    have e1 := hvs.length; have e2 := hws.length
    by_cases hab : a = b
    · subst hab
      have hb := (EqR.tups h).refl_true (v := .ref a) (by simp only [VRep]; exact ⟨a, vs, rfl, hL, hvs⟩) (by simp only [VRep]; exact ⟨a, ws, rfl, hM, hws⟩)
      rw [hb]; exact .same _
    · have := RcAt.tuples (A := A) (s := s) (e := e) hL.isTuple hM.isTuple (by omega) fun j h1 h2 => by
        obtain ⟨p, hp, hr⟩ := hvs.pt h1
        obtain ⟨q, hq, hr'⟩ := hws.pt h2
        exact ih j p q hp hq (A := A.in1) (by show A.units + 1 + n < cLine; omega) hr hr'
      refine EqAt.of_refs hab ?_
      simpa [e1, e2] using this
end

/-- what == asks of two values at the top -/
inductive EqTop (σ : AHeap) (n : Nat) : PV → PV → Bool → Prop
  | flat {p q b} (h : EqR σ n p q b) (hp : ∀ a, p ≠ .ref a ∨ ∀ a, q ≠ .ref a) : EqTop σ n p q b
  | lists {a b l m} {e : Nat → Bool} (ha : seqAt σ a = some l) (hb : seqAt σ b = some m) (hlen : l.length = m.length) (h : ∀ (j : Nat) p q, l[j]? = some p → m[j]? = some q → EqR σ n p q (e j)) : EqTop σ n (.ref a) (.ref b) ((List.range l.length).all e)
  | lens {a b l m} (ha : seqAt σ a = some l) (hb : seqAt σ b = some m) (hlen : l.length ≠ m.length) : EqTop σ n (.ref a) (.ref b) false

section
variable {c : Cx} {X : String → St → Prop} {st : St} {μ : Locals} {σ : AHeap}

theorem COk.units {lv A env ls} (ok : COk lv A env ls) : A.units ≤ 9000 := by obtain ⟨_, _, a, _⟩ := ok.ok; have := a.units; omega

theorem cmp_lists_eq {a b l m} {e : Nat → Bool} {n : Nat} {Q : PV → St → Prop} (ha : seqAt σ a = some l) (hb : seqAt σ b = some m) (hlen : l.length = m.length) (h : ∀ (j : Nat) p q, l[j]? = some p → m[j]? = some q → EqR σ n p q (e j)) (hn : n ≤ 100)
    (hQ : Q (.bool ((List.range l.length).all e)) (μ, σ)) : W2 c VRep (.ref a) (.ref b) (compareOp .Eq) X Q (μ, σ) := fun v u hid stk s ok R hv hu => by
  simp only [VRep] at hv hu; subst hv hu
  obtain ⟨vs, hL, hvs⟩ := R.seq ha
  obtain ⟨ws, hM, hws⟩ := R.seq hb
  have e1 := hvs.length; have e2 := hws.length
  have hU := ok.units
  refine eq_listAt (e := e) hL.isList hM.isList (by simp; omega) (by rw [cLine_is]; omega) (fun j h1 h2 => ?_) ⟨.bool ((List.range l.length).all e), (μ, σ), R, by simp [VRep, e1], .refl _, hQ⟩
  obtain ⟨p, hp, hr⟩ := hvs.pt h1
  obtain ⟨q, hq, hr'⟩ := hws.pt h2
  exact (h j p q hp hq).at R (A := c.A.in1) (by rw [cLine_is]; show c.A.units + 1 + n < 9900; omega) hr hr'
theorem cmp_lists_ne {a b l m} {e : Nat → Bool} {n : Nat} {Q : PV → St → Prop} (ha : seqAt σ a = some l) (hb : seqAt σ b = some m) (hlen : l.length = m.length) (h : ∀ (j : Nat) p q, l[j]? = some p → m[j]? = some q → EqR σ n p q (e j)) (hn : n ≤ 100)
    (hQ : Q (.bool (!(List.range l.length).all e)) (μ, σ)) : W2 c VRep (.ref a) (.ref b) (compareOp .NotEq) X Q (μ, σ) := fun v u hid stk s ok R hv hu => by
  simp only [VRep] at hv hu; subst hv hu
  obtain ⟨vs, hL, hvs⟩ := R.seq ha
  obtain ⟨ws, hM, hws⟩ := R.seq hb
  have e1 := hvs.length; have e2 := hws.length
  have hU := ok.units
  refine RcNeAt.lists (A := c.A) (e := e) hL.isList hM.isList (by simp; omega) (by rw [cLine_is]; omega) (fun j h1 h2 => ?_) c.prog c.w _ _ ⟨.bool (!(List.range l.length).all e), (μ, σ), R, by simp [VRep, e1], .refl _, hQ⟩
  obtain ⟨p, hp, hr⟩ := hvs.pt h1
  obtain ⟨q, hq, hr'⟩ := hws.pt h2
  exact (h j p q hp hq).at R (A := c.A.in1) (by rw [cLine_is]; show c.A.units + 1 + n < 9900; omega) hr hr'
theorem cmp_lens_eq {a b l m} {Q : PV → St → Prop} (ha : seqAt σ a = some l) (hb : seqAt σ b = some m) (hlen : l.length ≠ m.length) (hQ : Q (.bool false) (μ, σ)) : W2 c VRep (.ref a) (.ref b) (compareOp .Eq) X Q (μ, σ) := fun v u hid stk s ok R hv hu => by
  simp only [VRep] at hv hu; subst hv hu
  obtain ⟨vs, hL, hvs⟩ := R.seq ha
  obtain ⟨ws, hM, hws⟩ := R.seq hb
  have e1 := hvs.length; have e2 := hws.length
  have hU := ok.units
  exact eq_list_lengthsAt hL.isList hM.isList (by simp; omega) (by rw [cLine_is]; omega) ⟨.bool false, (μ, σ), R, rfl, .refl _, hQ⟩
theorem cmp_lens_ne {a b l m} {Q : PV → St → Prop} (ha : seqAt σ a = some l) (hb : seqAt σ b = some m) (hlen : l.length ≠ m.length) (hQ : Q (.bool true) (μ, σ)) : W2 c VRep (.ref a) (.ref b) (compareOp .NotEq) X Q (μ, σ) := fun v u hid stk s ok R hv hu => by
  simp only [VRep] at hv hu; subst hv hu
  obtain ⟨vs, hL, hvs⟩ := R.seq ha
  obtain ⟨ws, hM, hws⟩ := R.seq hb
  have e1 := hvs.length; have e2 := hws.length
  have hU := ok.units
  exact RcNeAt.lists_lengths (A := c.A) hL.isList hM.isList (by simp; omega) (by rw [cLine_is]; omega) c.prog c.w _ _ ⟨.bool true, (μ, σ), R, rfl, .refl _, hQ⟩

/-- lists whose items compare by a plain equality -/
def eqPts (f : PV → PV → Bool) : List PV → List PV → Bool
  | [], [] => true
  | p :: l, q :: m => f p q && eqPts f l m
  | _, _ => false
theorem eqPts_eq {f : PV → PV → Bool} : ∀ {l m : List PV} {e : Nat → Bool}, l.length = m.length → (∀ (j : Nat) p q, l[j]? = some p → m[j]? = some q → e j = f p q) → (List.range l.length).all e = eqPts f l m
  | [], [], e, _, _ => rfl
  | p :: l, q :: m, e, hl, h => by
    have hl' : l.length = m.length := by simpa using hl
    rw [List.length_cons, List.range_succ_eq_map, List.all_cons, List.all_map, h 0 p q (by simp) (by simp)]
    show (f p q && _) = (f p q && eqPts f l m)
    congr 1
    exact eqPts_eq (e := e ∘ Nat.succ) hl' fun j a b ha hb => h (j + 1) a b (by simpa using ha) (by simpa using hb)
  | [], _ :: _, _, hl, _ => by simp at hl
  | _ :: _, [], _, hl, _ => by simp at hl
theorem eqPts_len {f : PV → PV → Bool} : ∀ {l m : List PV}, l.length ≠ m.length → eqPts f l m = false
  | [], [], h => absurd rfl h
  | p :: l, q :: m, h => by show (_ && _) = false; rw [eqPts_len (l := l) (m := m) (by simpa using h)]; simp
  | [], _ :: _, _ => rfl
  | _ :: _, [], _ => rfl
theorem cmp_list_eq {a b l m} {n : Nat} {f : PV → PV → Bool} {Q : PV → St → Prop} (ha : seqAt σ a = some l) (hb : seqAt σ b = some m) (h : ∀ p ∈ l, ∀ q ∈ m, EqR σ n p q (f p q)) (hn : n ≤ 100)
    (hQ : Q (.bool (eqPts f l m)) (μ, σ)) : W2 c VRep (.ref a) (.ref b) (compareOp .Eq) X Q (μ, σ) := by
  by_cases hlen : l.length = m.length
  · refine cmp_lists_eq (e := fun j => f (l.getD j .none) (m.getD j .none)) ha hb hlen (fun j p q hp hq => ?_) hn ?_
    · simp only [List.getD_eq_getElem?_getD, hp, hq, Option.getD_some]
      exact h p (List.mem_of_getElem? hp) q (List.mem_of_getElem? hq)
    · rw [eqPts_eq (f := f) hlen fun j p q hp hq => by simp only [List.getD_eq_getElem?_getD, hp, hq, Option.getD_some]]; exact hQ
  · exact cmp_lens_eq ha hb hlen (by rw [eqPts_len hlen] at hQ; exact hQ)
theorem cmp_str_ne {x y t t'} {Q : PV → St → Prop} (hQ : Q (.bool (!(x == y))) st) : W2 c VRep (.str x t) (.str y t') (compareOp .NotEq) X Q st := fun v u hid stk s ok R hv hu => by
  simp only [VRep] at hv hu; subst hv hu
  exact RcNeAt.str_str (A := c.A) x t y t' c.prog c.w _ _ ⟨.bool (!(x == y)), st, R, rfl, .refl _, hQ⟩

end
end Mine
end
section
open PySem PySem.W PyProof.Rows
set_option Elab.async false
set_option linter.unusedVariables false
namespace Mine

section
variable {c : Cx} {X : String → St → Prop} {st : St} {μ : Locals} {σ : AHeap}

theorem E_Tuple {elts k pos} {Q : PV → St → Prop} (h : WA c pos elts X (fun ps st₁ => ps.length ≤ 1000 ∧ Q (.tup ps) st₁) st) : WE c (.Tuple elts k pos) X Q st := fun hid stk s ok R =>
  Tuple_ (wpAny_mono (h hid stk s ok R) (fun vs s₁ ⟨ps, st₁, R₁, hvs, k₁, hz, q⟩ => by
    have e1 := hvs.length
    refine wpAny_newObj_type ⟨.tup ps, st₁, R₁.grow (fun _ _ e => Heap.get?_push_of_some _ e) rfl rfl, ?_, k₁.trans (Keeps.push _ _), q⟩ (by show vs.toArray.size ≤ sizeLine; rw [sizeLine_eq]; simp; omega)
    simp only [VRep]
    exact ⟨s₁.heap.objs.size, vs, rfl, ⟨0, Heap.get?_push_size _ rfl⟩, hvs.mono (Keeps.push _ _)⟩) fun _ _ y => y)
/-- a new list -/
theorem Rep.newList {base os₀ hid stk} {s : Shared} (R : Rep base os₀ hid stk σ s) {l : List PV} {vs : List Value} (hvs : VReps s.heap l vs) :
    Rep base os₀ hid stk (σ.set s.heap.objs.size (.list l)) { s with heap := s.heap.push { cls := .type "list", dict := none, data := .seq vs.toArray, slots := #[] } } :=
  R.alloc ⟨R.fresh_base, vs, ⟨0, Heap.get?_push_size _ rfl⟩, hvs.mono (Keeps.push _ _)⟩
theorem E_List {elts pos} {Q : PV → St → Prop} (h : WA c pos elts X (fun ps st₁ => ps.length ≤ 1000 ∧ ∀ a, st₁.2 a = none → Q (.ref a) (st₁.1, st₁.2.set a (.list ps))) st) : WE c (.List elts pos) X Q st := fun hid stk s ok R =>
  List_ (wpAny_mono (h hid stk s ok R) (fun vs s₁ ⟨ps, st₁, R₁, hvs, k₁, hz, q⟩ => by
    have e1 := hvs.length
    exact wpAny_newObj_type ⟨.ref s₁.heap.objs.size, (st₁.1, st₁.2.set s₁.heap.objs.size (.list ps)), R₁.newList hvs, rfl, k₁.trans (Keeps.push _ _), q _ R₁.fresh_σ⟩ (by show vs.toArray.size ≤ sizeLine; rw [sizeLine_eq]; simp; omega)) fun _ _ y => y)

/-! targets -/
theorem Asg_local {x : Str} {pos} {p : PV} {Q : St → Prop} (hl : c.env.scope.names.lookup x = some .local) (h : Q (setL x p μ, σ)) : WAsg c (.Name x pos) p X Q (μ, σ) := fun v hid stk s ok R hv =>
  wpAny_assign_Name (W1_store (X := X) (Q := fun _ st => Q st) hl h v hid stk s ok R hv)
theorem Asg_cell {x : Str} {pos} {p : PV} {a : Addr} {o : Option PV} {Q : St → Prop} (hl : c.env.scope.names.lookup x = some .cell) (hc : c.env.cells.lookup x = some a) (hv : σ a = some (.cell o)) (h : Q (μ, σ.set a (.cell (some p)))) : WAsg c (.Name x pos) p X Q (μ, σ) := fun v hid stk s ok R hr =>
  wpAny_assign_Name (W1_storeCell (X := X) (Q := fun _ st => Q st) hl hc hv h v hid stk s ok R hr)

/-- names one after the other -/
def asgAll (c : Cx) (X : String → St → Prop) : List Expr → List PV → (St → Prop) → St → Prop
  | e :: es, p :: ps, Q, st => WAsg c e p X (fun st' => asgAll c X es ps Q st') st
  | _, _, Q, st => Q st
theorem asgAll_nil {Q : St → Prop} (h : Q st) : asgAll c X [] [] Q st := h
theorem asgAll_cons {e es p ps} {Q : St → Prop} (h : WAsg c e p X (fun st' => asgAll c X es ps Q st') st) : asgAll c X (e :: es) (p :: ps) Q st := h
theorem asgAll_wp {hid stk} (ok : COk c.lv c.A c.env (stk.map (·.1))) : ∀ {es : List Expr} {ps : List PV} {vs : List Value} {Q : St → Prop} {st : St} {s : Shared}, (assignEach es c.env).map (·.2) = es.map (fun e => assign e c.env) → es.length = ps.length →
    Rep c.base c.os hid ((c.env.locals, st.1) :: stk) st.2 s → VReps s.heap ps vs → asgAll c X es ps Q st → wpAny c.M c.A (assignInOrder (es.map fun e => assign e c.env) vs) (Post c UnitRep (fun _ st => Q st) hid stk s.heap) (PostX c X hid stk) s
  | [], [], vs, Q, st, s, _, _, R, hv, h => by rw [hv.nil_inv]; exact wpAny_pure ⟨(), st, R, trivial, .refl _, h⟩
  | e :: es, p :: ps, vs, Q, st, s, he, hl, R, hv, h => by
    obtain ⟨v, r, rfl, h1, h2⟩ := hv.cons_inv
    refine wpAny_bind (wpAny_holding (wpAny_mono (h v hid stk s ok R h1) (fun _ s₁ hp => ?_) fun _ _ y => y))
    obtain ⟨_, st₁, R₁, _, k₁, q⟩ := hp
    have he' : (assignEach es c.env).map (·.2) = es.map (fun e => assign e c.env) := by
      have := he
      simp only [List.map_cons] at this
      have e2 : assignEach (e :: es) c.env = (match e with | .Starred .. => true | _ => false, (assignEach (e :: es) c.env).head!.2) :: assignEach es c.env := by cases e <;> rfl
      rw [e2, List.map_cons] at this
      exact (List.cons.inj this).2
    exact wpAny_mono (asgAll_wp ok he' (by simpa using hl) R₁ (h2.mono k₁) q) (fun _ _ y => y.keeps k₁) fun _ _ y => y
  | [], _ :: _, _, _, _, _, _, hl, _, _, _ => by simp at hl
  | _ :: _, [], _, _, _, _, _, hl, _, _, _ => by simp at hl

/-- a tuple is taken apart -/
theorem Asg_Tuple {elts k pos ps} {Q : St → Prop} (hcalm : c.lv.calm = true) (h : asgAll c X elts ps Q st) (he : (assignEach elts c.env).map (·.2) = elts.map (fun e => assign e c.env)) (hl : elts.length = ps.length)
    (hstar : (assignEach elts c.env).findIdx? (·.1) = none) : WAsg c (.Tuple elts k pos) (.tup ps) X Q st := fun v hid stk s ok R hv => by
  have hh : c.A.handled = none := by obtain ⟨_, _, a, _⟩ := ok.ok; exact a.calm hcalm
  simp only [VRep] at hv
  obtain ⟨a, vs, rfl, hT, hvs⟩ := hv
  have e1 := hvs.length
  have hlen : (assignEach elts c.env).length = vs.toArray.size := by
    have := congrArg List.length he
    simp only [List.length_map] at this
    rw [this]; simp; omega
  refine wpAny_assign_Tuple hh hT.isTuple hlen hstar fun h' hx => ?_
  have R' := R.grow (s' := { s with heap := h' }) (fun b o e => hx b o (Nat.ne_of_lt (Heap.lt_size e)) e) rfl rfl
  have k' : Keeps s.heap h' := fun b vs ⟨n, e⟩ => ⟨n, hx b _ (Nat.ne_of_lt (Heap.lt_size e)) e⟩
  rw [he]
  exact wpAny_mono (asgAll_wp ok he hl R' (by simpa using hvs.mono k') h) (fun _ _ y => y.keeps k') fun _ _ y => y

theorem S_AssignTup {elts k tpos value pos} {Q : AFlow → St → Prop} (h : WE c value X (fun p st₁ => WAsg c (.Tuple elts k tpos) p X (fun st₂ => Q .next st₂) st₁) st)
    (hs : swapsWithSole [.Tuple elts k tpos] value pos.line c.env = pure false) (hw : swappedStores [.Tuple elts k tpos] value c.env = pure none) : WX c (.Assign [.Tuple elts k tpos] value pos) X Q st := fun hid stk s ok R =>
  Assign_Tuple (wpAny_mono (h hid stk s ok R) (fun v s₁ ⟨p, st₁, R₁, hv, k₁, h₁⟩ =>
    wpAny_mono (h₁ v hid stk s₁ ok R₁ hv) (fun _ _ ⟨_, st₂, R₂, _, k₂, q⟩ => ⟨.next, st₂, R₂, rfl, k₁.trans k₂, q⟩) fun _ _ y => y) fun _ _ y => y) hs hw

/-- the same where the names are stored from behind -/
def storeAll (c : Cx) (X : String → St → Prop) : List Str → List PV → (St → Prop) → St → Prop
  | x :: xs, p :: ps, Q, st => W1 c UnitRep p (fun v => storeName c.env x v) X (fun _ st' => storeAll c X xs ps Q st') st
  | _, _, Q, st => Q st
theorem storeAll_nil {Q : St → Prop} (h : Q st) : storeAll c X [] [] Q st := h
theorem storeAll_cons {e es p ps} {Q : St → Prop} (h : W1 c UnitRep p (fun v => storeName c.env e v) X (fun _ st' => storeAll c X es ps Q st') st) : storeAll c X (e :: es) (p :: ps) Q st := h
theorem storeAll_wp {hid stk} (ok : COk c.lv c.A c.env (stk.map (·.1))) : ∀ {es : List Str} {ps : List PV} {vs : List Value} {Q : St → Prop} {st : St} {s : Shared}, es.length = ps.length →
    Rep c.base c.os hid ((c.env.locals, st.1) :: stk) st.2 s → VReps s.heap ps vs → storeAll c X es ps Q st → wpAny c.M c.A (assignInOrder (es.map fun n => bindName c.env n) vs) (Post c UnitRep (fun _ st => Q st) hid stk s.heap) (PostX c X hid stk) s
  | [], [], vs, Q, st, s, _, R, hv, h => by rw [hv.nil_inv]; exact wpAny_pure ⟨(), st, R, trivial, .refl _, h⟩
  | e :: es, p :: ps, vs, Q, st, s, hl, R, hv, h => by
    obtain ⟨v, r, rfl, h1, h2⟩ := hv.cons_inv
    refine wpAny_bind (wpAny_holding (wpAny_bindName (wpAny_mono (h v hid stk s ok R h1) (fun _ s₁ hp => ?_) fun _ _ y => y)))
    obtain ⟨_, st₁, R₁, _, k₁, q⟩ := hp
    exact wpAny_mono (storeAll_wp ok (by simpa using hl) R₁ (h2.mono k₁) q) (fun _ _ y => y.keeps k₁) fun _ _ y => y
  | [], _ :: _, _, _, _, _, hl, _, _, _ => by simp at hl
  | _ :: _, [], _, _, _, _, hl, _, _, _ => by simp at hl
theorem VReps.reverse {h : Heap} : ∀ {ps : List PV} {vs : List Value}, VReps h ps vs → VReps h ps.reverse vs.reverse
  | [], _, x => by rw [x.nil_inv]; exact .nil
  | p :: ps, vs, x => by
    obtain ⟨v, r, rfl, h1, h2⟩ := x.cons_inv
    rw [List.reverse_cons, List.reverse_cons]
    exact h2.reverse.append (.cons h1 .nil)
theorem S_AssignSwap {elts k tpos value pos} {Q : AFlow → St → Prop} (names : List Str) (hcalm : c.lv.calm = true)
    (h : WE c value X (fun p st₁ => ∃ ps, p = .tup ps ∧ ps.length = names.length ∧ storeAll c X names.reverse ps.reverse (fun st₂ => Q .next st₂) st₁) st)
    (hs : swapsWithSole [.Tuple elts k tpos] value pos.line c.env = pure false) (hw : swappedStores [.Tuple elts k tpos] value c.env = pure (some names)) : WX c (.Assign [.Tuple elts k tpos] value pos) X Q st := fun hid stk s ok R => by
  have hh : c.A.handled = none := by obtain ⟨_, _, a, _⟩ := ok.ok; exact a.calm hcalm
  refine Assign_Tuple_swapped (wpAny_mono (h hid stk s ok R) (fun v s₁ hp => ?_) fun _ _ y => y) hs hw
  obtain ⟨p, st₁, R₁, hv, k₁, ps, rfl, hl, h₁⟩ := hp
  simp only [VRep] at hv
  obtain ⟨a, vs, rfl, hT, hvs⟩ := hv
  have e1 := hvs.length
  have := wpAny_unpackItems_tuple (prog := c.prog) (w := c.w) (E := PostX c X hid stk) (Q := fun items s₂ => wpAny c.M c.A (assignInOrder (names.reverse.map fun n => bindName c.env n) items.reverse) (fun _ => Post c FlowRep Q hid stk s.heap .next) (PostX c X hid stk) s₂) hh hT.isTuple fun h' hx => by
    have R' := R₁.grow (s' := { s₁ with heap := h' }) (fun b o e => hx b o (Nat.ne_of_lt (Heap.lt_size e)) e) rfl rfl
    have k' : Keeps s₁.heap h' := fun b vs ⟨n, e⟩ => ⟨n, hx b _ (Nat.ne_of_lt (Heap.lt_size e)) e⟩
    exact wpAny_mono (storeAll_wp ok (by simp [hl]) R' (by simpa using (hvs.mono k').reverse) h₁) (fun _ s₂ ⟨_, st₂, R₂, _, k₂, q⟩ => ⟨.next, st₂, R₂, rfl, (k₁.trans k').trans k₂, q⟩) fun _ _ y => y
  have e2 : vs.toArray.size = names.length := by simp; omega
  rw [e2] at this
  exact this

/-! ranges -/
theorem call_range2 {a b : Int} {Q : PV → St → Prop} (h : ∀ r, σ r = none → Q (.ref r) (μ, σ.set r (.range a b 1))) : WN c VRep [.int a, .int b] (fun vs => call (.type "range") vs) X Q (μ, σ) := fun vs hid stk s ok R hv => by
  obtain ⟨v1, r1, rfl, h1, hv⟩ := hv.cons_inv
  obtain ⟨v2, r2, rfl, h2, hv⟩ := hv.cons_inv
  rw [hv.nil_inv]
  obtain ⟨t1, rfl⟩ := h1
  obtain ⟨t2, rfl⟩ := h2
  refine call_range_2 ⟨.ref s.heap.objs.size, (μ, σ.set s.heap.objs.size (.range a b 1)), Rep.toks (R.alloc (o := .range a b 1) (ob := { cls := .type "range", data := .fields #[.int a t1, .int b t2, .int 1 s.toks] }) ⟨R.fresh_base, t1, t2, s.toks, Heap.get?_push_size _ rfl⟩) _, rfl, Keeps.push _ _, h _ R.fresh_σ⟩
theorem it_range {target : Expr} {r : Addr} {a b : Int} (h : σ r = some (.range a b 1)) (ha : -1000000 ≤ a) (ha' : a ≤ 1000000) (hb : -1000000 ≤ b) (hb' : b ≤ 1000000) : ItOk c target (.ref r) (μ, σ) (rangeL a 1 (b - a).toNat) (fun _ => True) := fun v hid stk s E Q ok R hv hQ => by
  simp only [VRep] at hv; subst hv
  obtain ⟨_, t, u, w, hr⟩ := R.heap _ _ h
  refine wpAny_pyIter_range hr (small_one (by omega) (by omega) (by omega) (by omega)) (hQ _ _ _ _ _ (iter_range target s.heap.objs.size a 1 (b - a).toNat) rfl trivial ?_ (Keeps.push _ _))
  have hsz : Builtin.Range.rangeSize a b 1 = (((b - a).toNat : Nat) : Int) := by rw [rangeSize_one]; split <;> omega
  have := R.hidNew (ob := { cls := .type "range_iterator", data := .fields #[rawInt a, rawInt (Builtin.Range.rangeSize a b 1), rawInt 1] }) (by show Value.type "range_iterator" ≠ Value.type "tuple"; decide) rfl
  rw [hsz] at this ⊢
  simpa using this

/-! copies, sums of lists -/
theorem call_listOf {a : Addr} {l : List PV} {Q : PV → St → Prop} (hs : seqAt σ a = some l) (hz : l.length ≤ 16777216) (h : ∀ b, σ b = none → Q (.ref b) (μ, σ.set b (.list l))) : WN c VRep [.ref a] (fun vs => call (.type "list") vs) X Q (μ, σ) := fun vs hid stk s ok R hv => by
  obtain ⟨v1, r1, rfl, h1, hv⟩ := hv.cons_inv
  rw [hv.nil_inv]
  simp only [VRep] at h1; subst h1
  obtain ⟨ws, ⟨n, hL⟩, hws⟩ := R.seq hs
  have e1 := hws.length
  refine call_list_seq a (.inl rfl) hL rfl rfl (fun h' c' hk hn => ?_) (by rw [sizeLine_eq]; simp; omega)
  have k : Keeps s.heap h' := fun b vs ⟨n, e⟩ => ⟨n, hk _ _ e⟩
  exact ⟨.ref s.heap.objs.size, (μ, σ.set s.heap.objs.size (.list l)), R.put (s' := { s with heap := h' }) (fun b ob _ e => hk b ob e) (fun vs ⟨_, h1⟩ => absurd (Heap.lt_size h1) (Nat.lt_irrefl _)) R.fresh_base R.fresh_hid R.fresh_stk ⟨R.fresh_base, ws, ⟨c', hn⟩, hws.mono k⟩ rfl rfl, rfl, k, h _ R.fresh_σ⟩
theorem bin_addL {a b : Addr} {l m : List PV} {Q : PV → St → Prop} (ha : seqAt σ a = some l) (hb : seqAt σ b = some m) (hz : l.length + m.length ≤ 16777216) (h : ∀ r, σ r = none → Q (.ref r) (μ, σ.set r (.list (l ++ m)))) : W2 c VRep (.ref a) (.ref b) (binaryOp .Add) X Q (μ, σ) := fun v u hid stk s ok R hv hu => by
  simp only [VRep] at hv hu; subst hv hu
  obtain ⟨vs, hL, hvs⟩ := R.seq ha
  obtain ⟨ws, hM, hws⟩ := R.seq hb
  have e1 := hvs.length; have e2 := hws.length
  obtain ⟨n, hL⟩ := hL
  obtain ⟨n', hM⟩ := hM
  refine concat_meets (id := "list.__add__") ⟨_, hL, rfl⟩ ⟨_, hM, rfl⟩ noFill_list_add seq_list_add F.slot_list_add F.entry_list_add (F.args_list_add_2 _ _) (list_addW a b vs.toArray ws.toArray n n' none none #[] #[] (by rw [sizeLine_eq]; simp; omega)) ⟨hL, hM, ?_⟩
  have e : vs.toArray ++ ws.toArray = (vs ++ ws).toArray := by simp
  show Post c VRep Q hid stk s.heap _ _
  rw [e]
  exact ⟨.ref s.heap.objs.size, (μ, σ.set s.heap.objs.size (.list (l ++ m))), R.newList (hvs.append hws), rfl, Keeps.push _ _, h _ R.fresh_σ⟩

/-! raised -/
theorem PostX.ofNew {hid stk} {s : Shared} {h' : Heap} {tk : Nat} {e : Addr} {cls : String} (R : Rep c.base c.os hid ((c.env.locals, st.1) :: stk) st.2 s) (hx : Heap.NewExc s.heap h' e cls) (ht : s.toks ≤ tk) (hc : cls ≠ "tuple") (h : X cls st) :
    PostX c X hid stk (.ref e) { s with heap := h', toks := tk } := by
  have R' := R.grow (s' := { s with heap := h', toks := tk }) hx.keeps rfl rfl ht
  obtain ⟨ob, t, h1, h2, h3⟩ := hx.there
  refine ⟨e, cls, st, rfl, R', ⟨⟨?_, ?_, fun p hp q => ?_⟩, ob, _, h1, h2, by rw [h2]; intro q; injection q with q; exact hc q, h3, .inl rfl⟩, h⟩
  · cases q : c.base.get? e with
    | none => rfl
    | some o => have := R.stays _ _ q; rw [hx.new] at this; cases this
  · cases q : st.2 e with
    | none => rfl
    | some o =>
      obtain ⟨ob', h4 | ⟨v, ob', h4, _⟩⟩ := (R.heap _ _ q).there
      · have := h4.1; rw [hx.new] at this; cases this
      · rw [hx.new] at h4; cases h4
  · have := (R.hid p hp).1; rw [q, hx.new] at this; cases this
/-- a tree that raises something new -/
theorem wp_new {hid stk} {α β : Type} {rep : Heap → β → α → Prop} {t : Sem α} {Q : β → St → Prop} {s : Shared} {cls : String} (R : Rep c.base c.os hid ((c.env.locals, st.1) :: stk) st.2 s) (hc : cls ≠ "tuple") (h : X cls st)
    (ht : wpAny c.M c.A t (fun _ _ => False) (fun e s' => ∃ h' tk x, e = .ref x ∧ s' = { s with heap := h', toks := tk } ∧ Heap.NewExc s.heap h' x cls) s) : wpAny c.M c.A t (Post c rep Q hid stk s.heap) (PostX c X hid stk) s :=
  wpAny_mono (wpAny_toks ht) (fun _ _ x => x.1.elim) fun e s' hx => by
    obtain ⟨⟨h', tk, x, rfl, rfl, hx⟩, htk⟩ := hx
    exact PostX.ofNew R hx htk hc h
theorem COk.handled {lv A env ls} (ok : COk lv A env ls) (h : lv.calm = true) : A.handled = none := by obtain ⟨_, _, a, _⟩ := ok.ok; exact a.calm h

theorem get_list_out {a : Addr} {l : List PV} {i : Int} {Q : PV → St → Prop} (hcalm : c.lv.calm = true) (hs : seqAt σ a = some l) (h0 : (l.length : Int) ≤ i) (hi : i < 1000000000) (h : X "IndexError" (μ, σ)) : GetI c (.ref a) (.int i) X Q (μ, σ) :=
  fun v u hid stk s ok R hv hu => by
    simp only [VRep] at hv hu; subst hv
    obtain ⟨t, rfl⟩ := hu
    obtain ⟨vs, hL, hvs⟩ := R.seq hs
    have e1 := hvs.length
    exact ⟨⟨"list", _, hL.isList.typeIs, slot_list_getitem.lookup⟩, wp_new R (by decide) h (wpAny_getItem_list_out (ok.handled hcalm) hL.isList (.inr (by simp; omega)) (by omega) (by omega) fun h' tk e hx => ⟨h', tk, e, rfl, rfl, hx⟩)⟩
theorem pop_list {a : Addr} {l : List PV} {p : PV} {Q : PV → St → Prop} (hs : σ a = some (.list (l ++ [p]))) (hz : l.length ≤ 16000000) (h : Q p (μ, σ.set a (.list l))) : WN c VRep [.ref a] (fun vs => call (.builtin "list.pop") vs) X Q (μ, σ) := fun vs hid stk s ok R hv => by
  obtain ⟨v1, r1, rfl, h1, hv⟩ := hv.cons_inv
  rw [hv.nil_inv]
  simp only [VRep] at h1; subst h1
  obtain ⟨hb, ws, hL, hws⟩ := R.heap _ _ hs
  have hlen := hws.length
  simp at hlen
  obtain ⟨y, hy, hr⟩ := hws.get l.length p (by simp)
  obtain ⟨n, e⟩ := id hL
  refine call_meets F.slot_list_pop ⟨_, e, rfl⟩ F.entry_list_pop (F.args_list_pop_1 _) (MeetsSeq.list_pop_last a ws.toArray n y (by rw [show ws.toArray.size - 1 = l.length from by simp; omega]; simpa using hy) (by rw [sizeLine_eq]; simp; omega)) ⟨e, ?_⟩
  obtain ⟨R', k⟩ := R.listUpd (tk := s.toks) (l' := l) (ws := ws.take l.length) hs upd_other (hL.upd (f := fun xs => xs.eraseIdxIfInBounds (ws.toArray.size - 1)) (by
    have hw : ws = ws.take l.length ++ [y] := by
      have h2 : l.length < ws.length := by omega
      have h3 : ws[l.length] = y := by have := hy; rw [List.getElem?_eq_getElem h2] at this; exact Option.some.inj this
      rw [← h3]
      have := List.take_append_drop l.length ws
      rw [List.drop_eq_getElem_cons h2, List.drop_of_length_le (by omega)] at this
      exact this.symm
    have h2 : l.length < ws.toArray.size := by simp; omega
    have e3 : ws.toArray.size - 1 = l.length := by simp; omega
    rw [e3]
    unfold Array.eraseIdxIfInBounds
    rw [dif_pos h2]
    apply Array.toList_inj.mp
    rw [Array.toList_eraseIdx]
    show ws.eraseIdx l.length = ws.take l.length
    rw [List.eraseIdx_eq_take_drop_succ, List.drop_of_length_le (by omega), List.append_nil])) (by have := hws.take l.length; simpa using this)
  exact ⟨p, (μ, _), R', hr.mono k, k, h⟩
theorem pop_list_empty {a : Addr} {Q : PV → St → Prop} (hcalm : c.lv.calm = true) (hs : σ a = some (.list [])) (h : X "IndexError" (μ, σ)) : WN c VRep [.ref a] (fun vs => call (.builtin "list.pop") vs) X Q (μ, σ) := fun vs hid stk s ok R hv => by
  obtain ⟨v1, r1, rfl, h1, hv⟩ := hv.cons_inv
  rw [hv.nil_inv]
  simp only [VRep] at h1; subst h1
  obtain ⟨hb, ws, hL, hws⟩ := R.heap _ _ hs
  rw [hws.nil_inv] at hL
  obtain ⟨n, e⟩ := id hL
  exact wp_new R (by decide) h (call_meets F.slot_list_pop ⟨_, e, rfl⟩ F.entry_list_pop (F.args_list_pop_1 _) (AutoSeq1.list_pop_list_0 a #[] n rfl) ⟨e, ok.handled hcalm, fun h' tk x hx => ⟨h', tk, x, rfl, rfl, hx⟩⟩)

theorem VReps.erase {h : Heap} : ∀ {ps : List PV} {vs : List Value} (i : Nat), VReps h ps vs → VReps h (ps.eraseIdx i) (vs.eraseIdx i)
  | [], _, i, x => by rw [x.nil_inv]; simpa using VReps.nil
  | p :: ps, vs, i, x => by
    obtain ⟨v, r, rfl, h1, h2⟩ := x.cons_inv
    cases i with
    | zero => exact h2
    | succ i => exact .cons h1 (h2.erase i)
theorem erase_arr (ws : List Value) (i : Nat) (h : i < ws.length) : ws.toArray.eraseIdxIfInBounds i = (ws.eraseIdx i).toArray := by
  have h2 : i < ws.toArray.size := by simpa using h
  unfold Array.eraseIdxIfInBounds
  rw [dif_pos h2]
  apply Array.toList_inj.mp
  rw [Array.toList_eraseIdx]
theorem pop_at {a : Addr} {l : List PV} {i : Int} {p : PV} {Q : PV → St → Prop} (hs : σ a = some (.list l)) (h0 : 0 ≤ i) (hp : l[i.toNat]? = some p) (hz : l.length ≤ 16000000) (h : Q p (μ, σ.set a (.list (l.eraseIdx i.toNat)))) : WN c VRep [.ref a, .int i] (fun vs => call (.builtin "list.pop") vs) X Q (μ, σ) := fun vs hid stk s ok R hv => by
  obtain ⟨v1, r1, rfl, h1, hv⟩ := hv.cons_inv
  obtain ⟨v2, r2, rfl, h2, hv⟩ := hv.cons_inv
  rw [hv.nil_inv]
  simp only [VRep] at h1; subst h1
  obtain ⟨t, rfl⟩ := h2
  obtain ⟨hb, ws, hL, hws⟩ := R.heap _ _ hs
  have hlen := hws.length
  have hi := (List.getElem?_eq_some_iff.mp hp).1
  obtain ⟨y, hy, hr⟩ := hws.get _ _ hp
  obtain ⟨n, e⟩ := id hL
  refine call_meets F.slot_list_pop ⟨_, e, rfl⟩ F.entry_list_pop (F.args_list_pop_2 _ _) (MeetsSeq.list_pop_at a ws.toArray n i t i.toNat y (fitsIndex_of h0 (by omega)) (seqIndex_of h0 (by simp; omega)) (by simpa using hy) (by rw [sizeLine_eq]; simp; omega)) ⟨e, ?_⟩
  obtain ⟨R', k⟩ := R.listUpd (tk := s.toks) (l' := l.eraseIdx i.toNat) (ws := ws.eraseIdx i.toNat) hs upd_other (hL.upd (f := fun xs => xs.eraseIdxIfInBounds i.toNat) (erase_arr _ _ (by omega))) (hws.erase _)
  exact ⟨p, (μ, _), R', hr.mono k, k, h⟩
theorem S_DelSub {o i pos' pos} {Q : AFlow → St → Prop} (h : WE c o X (fun po st₁ => WE c i X (fun pi st₂ => W2 c UnitRep po pi (fun o i => delItem o i) X (fun _ st₃ => Q .next st₃) st₂) st₁) st) : WX c (.Delete [.Subscript o i pos'] pos) X Q st := fun hid stk s ok R => by
  refine wpAny_Delete (wpAny_deleteEach_cons (wpAny_delete_Subscript (wpAny_mono (h hid stk s ok R) (fun vo s₁ hp => ?_) fun _ _ y => y)))
  obtain ⟨po, st₁, R₁, hvo, k₁, h₁⟩ := hp
  refine wpAny_mono (h₁ hid stk s₁ ok R₁) (fun vi s₂ hq => ?_) fun _ _ y => y
  obtain ⟨pi, st₂, R₂, hvi, k₂, h₂⟩ := hq
  refine wpAny_mono (h₂ vo vi hid stk s₂ ok R₂ (hvo.mono k₂) hvi) (fun _ s₃ hr => ?_) fun _ _ y => y
  obtain ⟨_, st₃, R₃, _, k₃, q⟩ := hr
  exact wpAny_deleteEach_nil ⟨.next, st₃, R₃, rfl, (k₁.trans k₂).trans k₃, q⟩
theorem del_list {a : Addr} {l : List PV} {i : Int} {Q : Unit → St → Prop} (hs : σ a = some (.list l)) (h0 : 0 ≤ i) (hi : i < l.length) (hz : l.length ≤ 16000000) (h : Q () (μ, σ.set a (.list (l.eraseIdx i.toNat)))) : W2 c UnitRep (.ref a) (.int i) (fun o i => delItem o i) X Q (μ, σ) := fun v u hid stk s ok R hv hu => by
  simp only [VRep] at hv; subst hv
  obtain ⟨t, rfl⟩ := hu
  obtain ⟨hb, ws, hL, hws⟩ := R.heap _ _ hs
  have hlen := hws.length
  obtain ⟨n, e⟩ := id hL
  refine P.delItem_list (n := n) e (fitsIndex_of h0 (by omega)) (seqIndex_of h0 (by simp; omega)) ?_ (by rw [sizeLine_eq]; simp; omega)
  obtain ⟨R', k⟩ := R.listUpd (tk := s.toks) (l' := l.eraseIdx i.toNat) (ws := ws.eraseIdx i.toNat) hs upd_other (hL.upd (f := fun xs => xs.eraseIdxIfInBounds i.toNat) (erase_arr _ _ (by omega))) (hws.erase _)
  exact ⟨(), (μ, _), R', trivial, k, h⟩

/-! ints in a list -/
def intL (ns : List Int) : List PV := ns.map PV.int
theorem VReps.intsAre {h : Heap} : ∀ {ns : List Int} {vs : List Value}, VReps h (intL ns) vs → IntsAre vs ns
  | [], _, x => by rw [x.nil_inv]; exact .nil
  | n :: ns, vs, x => by
    obtain ⟨v, r, rfl, h1, h2⟩ := VReps.cons_inv (p := .int n) (ps := intL ns) x
    obtain ⟨t, rfl⟩ := h1
    exact .cons n t (VReps.intsAre h2)
theorem intsAre_reps {h : Heap} {ns : List Int} {vs : List Value} (x : IntsAre vs ns) : VReps h (intL ns) vs := by
  induction x with
  | nil => exact .nil
  | cons n t _ ih => exact .cons (p := .int n) ⟨t, rfl⟩ ih
def sortI (ns : List Int) : List Int := ns.mergeSort fun a b => decide (a ≤ b)
theorem sortI_perm (ns : List Int) : (sortI ns).Perm ns := List.mergeSort_perm ..
theorem sortI_sorted (ns : List Int) : (sortI ns).Pairwise (· ≤ ·) := by
  have := List.pairwise_mergeSort (le := fun a b : Int => decide (a ≤ b)) (fun a b c h1 h2 => by simp at *; omega) (fun a b => by simp; omega) ns
  exact this.imp fun h => by simpa using h
theorem perm_sorted_eq : ∀ {l m : List Int}, l.Perm m → l.Pairwise (· ≤ ·) → m.Pairwise (· ≤ ·) → l = m
  | [], m, hp, _, _ => hp.nil_eq
  | x :: l, [], hp, _, _ => by have := hp.length_eq; simp at this
  | x :: l, y :: m, hp, hl, hm => by
    have h1 : x ≤ y := by
      have : y ∈ x :: l := hp.mem_iff.mpr (List.mem_cons_self ..)
      rcases List.mem_cons.mp this with e | e
      · omega
      · exact (List.pairwise_cons.mp hl).1 y e
    have h2 : y ≤ x := by
      have : x ∈ y :: m := hp.mem_iff.mp (List.mem_cons_self ..)
      rcases List.mem_cons.mp this with e | e
      · omega
      · exact (List.pairwise_cons.mp hm).1 x e
    have e : x = y := by omega
    subst e
    rw [perm_sorted_eq (List.Perm.cons_inv hp) (List.pairwise_cons.mp hl).2 (List.pairwise_cons.mp hm).2]
theorem sortI_of {l m : List Int} (hp : l.Perm m) (hs : l.Pairwise (· ≤ ·)) : l = sortI m := perm_sorted_eq (hp.trans (sortI_perm m).symm) hs (sortI_sorted m)

theorem call_sorted {a : Addr} {ns : List Int} {Q : PV → St → Prop} (hs : seqAt σ a = some (intL ns)) (hz : ns.length < 64) (h : ∀ b, σ b = none → Q (.ref b) (μ, σ.set b (.list (intL (sortI ns))))) : WN c VRep [.ref a] (fun vs => call (.builtin "sorted") vs) X Q (μ, σ) := fun vs hid stk s ok R hv => by
  obtain ⟨v1, r1, rfl, h1, hv⟩ := hv.cons_inv
  rw [hv.nil_inv]
  simp only [VRep] at h1; subst h1
  obtain ⟨ws, hL, hws⟩ := R.seq hs
  have e1 := hws.length
  simp only [intL, List.length_map] at e1
  refine sorted_ints hL.isList hws.intsAre (by omega) fun out ns' a1 a2 a3 => ?_
  obtain ⟨e, he⟩ := sortedAll_at s.heap ws out
  have k : Keeps s.heap (sortedAll s.heap ws out) := fun b vs ⟨n, e⟩ => ⟨n, sortedAll_old e⟩
  have hlt : ∀ b ob, s.heap.get? b = some ob → b ≠ s.heap.objs.size + 1 := fun b ob q => Nat.ne_of_lt (Nat.lt_succ_of_lt (Heap.lt_size q))
  have hσ : σ (s.heap.objs.size + 1) = none := by
    cases q : σ (s.heap.objs.size + 1) with
    | none => rfl
    | some o => exact absurd (R.heap _ _ q).lt (Nat.not_lt.mpr (Nat.le_succ _))
  have hb : c.base.get? (s.heap.objs.size + 1) = none := by
    cases q : c.base.get? (s.heap.objs.size + 1) with
    | none => rfl
    | some o => exact absurd rfl (hlt _ _ (R.stays _ _ q))
  rw [sortI_of a2 a3] at a1
  refine ⟨.ref (s.heap.objs.size + 1), (μ, σ.set (s.heap.objs.size + 1) (.list (intL (sortI ns)))), ?_, rfl, k, h _ hσ⟩
  exact R.put (s' := { s with heap := sortedAll s.heap ws out }) (fun b ob _ e => sortedAll_old e) (fun vs ⟨_, h1⟩ => absurd rfl (hlt _ _ h1)) hb (fun p hp => hlt _ _ (R.hid p hp).1) (fun f hf => Nat.ne_of_lt (Nat.lt_succ_of_lt (R.frames f hf).1.lt))
    ⟨hb, out.toList, ⟨e, he⟩, intsAre_reps a1⟩ rfl rfl
theorem call_sum {a : Addr} {ns : List Int} {Q : PV → St → Prop} (hcalm : c.lv.calm = true) (hs : seqAt σ a = some (intL ns)) (h : Q (.int ns.sum) (μ, σ)) : WN c VRep [.ref a] (fun vs => call (.builtin "sum") vs) X Q (μ, σ) := fun vs hid stk s ok R hv => by
  obtain ⟨v1, r1, rfl, h1, hv⟩ := hv.cons_inv
  rw [hv.nil_inv]
  simp only [VRep] at h1; subst h1
  obtain ⟨ws, hL, hws⟩ := R.seq hs
  obtain ⟨xs, hxs⟩ := hws.intsAre.allInts.items
  have hsum : (numsOf ws).sum = ns.sum := by rw [hws.intsAre.numsOf]
  have hLI := hL.isList
  rw [hxs] at hLI
  refine wpAny_mono (wpAny_toks (E := PostX c X hid stk) (Q := fun v s' => ∃ h' tk t', v = .int (preSum (numAt xs) xs.size) t' ∧ s' = { s with heap := h', toks := tk } ∧ ∀ b o, s.heap.get? b = some o → h'.get? b = some o) (sum_intListG (ok.handled hcalm) hLI fun h' tk t' hk => ⟨h', tk, t', rfl, rfl, hk⟩)) (fun v s' hx => ?_) fun _ _ x => x.1
  obtain ⟨⟨h', tk, t', rfl, rfl, hk⟩, htk⟩ := hx
  have k : Keeps s.heap h' := fun b vs ⟨n, e⟩ => ⟨n, hk _ _ e⟩
  refine ⟨.int ns.sum, (μ, σ), R.grow (s' := { s with heap := h', toks := tk }) hk rfl rfl htk, ⟨t', ?_⟩, k, h⟩
  rw [← hsum]
  have e2 : numsOf ws = xs.toList.map (·.1) := by
    have := congrArg Array.toList hxs
    simp only at this
    rw [this, nums_intItems]
  rw [e2, preSum_eq, List.take_of_length_le (by simp)]
end
end Mine
end
section
open PySem PySem.W PyProof.Rows
set_option Elab.async false
set_option linter.unusedVariables false
namespace Mine

section
variable {base : Heap} {os₀ : OsState} {hid : List (Addr × Obj)} {stk : List (Addr × Locals)} {σ : AHeap} {s : Shared}
theorem Rep.swap {f g : Addr × Locals} (R : Rep base os₀ hid (f :: g :: stk) σ s) : Rep base os₀ hid (g :: f :: stk) σ s := by
  refine ⟨R.stays, R.gens, R.os, fun p hp => ?_, fun e he => R.frames e ?_, ?_, R.hnd, R.heap, R.tk⟩
  · obtain ⟨a, b, c, d, e⟩ := R.hid p hp
    exact ⟨a, b, c, fun q => d (by simp at q ⊢; rcases q with q | q | q; exact .inr (.inl q); exact .inl q; exact .inr (.inr q)), e⟩
  · simp at he ⊢; rcases he with q | q | q; exact .inr (.inl q); exact .inl q; exact .inr (.inr q)
  · have := R.nodup
    simp only [List.map_cons, List.nodup_cons, List.mem_cons, not_or] at this ⊢
    exact ⟨⟨fun e => this.1.1 e.symm, this.2.1⟩, this.1.2, this.2.2⟩
/-- a frame that is gone may change -/
theorem Rep.popChange {L : Addr} {μ : Locals} (R : Rep base os₀ hid ((L, μ) :: stk) σ s) {h' : Heap} {tk : Nat} (hs : Heap.SameBut L s.heap h') (ht : s.toks ≤ tk := by first | exact Nat.le_refl _ | exact Nat.le_succ _ | assumption) : Rep base os₀ hid stk σ { s with heap := h', toks := tk } ∧ Keeps s.heap h' := by
  have hL := R.frames (L, μ) (List.mem_cons_self ..)
  have hnt : ∀ vs, ¬ TU s.heap L vs := fun vs ⟨n, e⟩ => by
    obtain ⟨⟨_, m, ⟨o, es, ep, h1, h2, _⟩, _⟩, _⟩ := hL
    rw [e] at h1; cases h1; cases h2
  refine ⟨R.pop.aside (a := L) (fun b ob hb e => (hs.2 b hb).trans e) ⟨hL.1.new, hL.2, fun p hp q => ?_⟩ hnt (fun f hf q => ?_) rfl rfl ht, fun b vs ⟨n, e⟩ => ⟨n, (hs.2 b fun q => hnt vs (q ▸ ⟨n, e⟩)).trans e⟩⟩
  · exact (R.hid p hp).2.2.2.1 (by simp [q])
  · have := R.nodup; simp only [List.map_cons, List.nodup_cons] at this
    exact this.1 (q ▸ List.mem_map_of_mem hf)
end

theorem COk.more {lv A env ls} (ok : COk lv A env ls) (a : Addr) : COk lv A env (a :: ls) := by
  obtain ⟨e₀, rest, h, he⟩ := ok.ok
  exact ⟨⟨e₀, rest, ⟨h.frames, fun e he => by obtain ⟨x, L, y, z⟩ := h.frs e he; exact ⟨x, L, y, by simp at z ⊢; rcases z with z | z; exact .inl z; exact .inr (.inr z)⟩, h.calm, h.depth, h.units⟩, he⟩, ok.kind, ok.globals, ok.builtins⟩
theorem COk.inner {lv A env ls} (ok : COk lv A env ls) {env' : Env} (hf : env'.frame = env.frame) (hk : env'.scope.kind = .function) (hg : env'.globals = env.globals) (hb : env'.builtins = env.builtins) : COk lv A env' (env.locals :: ls) := by
  obtain ⟨e₀, rest, h, he⟩ := ok.ok
  exact ⟨⟨e₀, rest, ⟨h.frames, fun e he => by obtain ⟨x, L, y, z⟩ := h.frs e he; exact ⟨x, L, y, List.mem_cons_of_mem _ z⟩, h.calm, h.depth, h.units⟩, by rw [he, hf]⟩, hk, by rw [hg]; exact ok.globals, by rw [hb]; exact ok.builtins⟩

section
variable {c : Cx} {X : String → St → Prop} {st : St} {μ : Locals} {σ : AHeap}

abbrev WIfs (c : Cx) (ifs : List Expr) (X : String → St → Prop) (Q : Bool → St → Prop) (st : St) : Prop :=
  WT c BoolRep (forIn ifs true fun e r => if r = true then do let ok ← isTrue e c.env (eval e c.env); pure (ForInStep.yield ok) else pure (ForInStep.yield r)) X Q st
theorem Ifs_nil {Q : Bool → St → Prop} (h : Q true st) : WIfs c [] X Q st := fun hid stk s ok R => wpAny_tests_nil ⟨true, st, R, rfl, .refl _, h⟩
theorem Ifs_one {e} {Q : Bool → St → Prop} (h : WC c e X Q st) : WIfs c [e] X Q st := fun hid stk s ok R => wpAny_tests_one (h hid stk s ok R)

/-- what a turn of a comprehension leaves -/
def compQ (I : Nat → St → Prop) (k : Nat) (acc : Addr) (q : PV) (st : St) : Prop := ∃ l, st.2 acc = some (.list l) ∧ l.length ≤ 1000000 ∧ ∃ st₄, I k st₄ ∧ St.le st₄ (st.1, st.2.set acc (.list (l ++ [q])))

def CompR (c : Cx) (X : String → St → Prop) (Q : St → Prop) (hid : List (Addr × Obj)) (stk : List (Addr × Locals)) (h : Heap) (r : Result) (s' : Shared) : Prop := match r with
  | .ok f => f = .next ∧ ∃ st', Rep c.base c.os hid ((c.env.locals, st'.1) :: stk) st'.2 s' ∧ Keeps h s'.heap ∧ Q st'
  | .error e => ∃ x cls st', e = .ref x ∧ Rep c.base c.os hid ((c.env.locals, st'.1) :: stk) st'.2 s' ∧ ExcNoted c.base hid st'.2 s'.heap x cls ∧ X cls st'

theorem comp_loop1 {elt target iter : Expr} {ifs : List Expr} {scope : Scope} {pos : Pos} {it acc : Addr} {Sk KP P items} (hcalm : c.lv.calm = true) (IT : IterAt c.toGx target it Sk KP P items) (I : Nat → St → Prop) (hP : ∀ k st, I k st → P st.2)
    (turn : ∀ k p st, items[k]? = some p → I k st → WAsg c target p X (fun st₁ => WIfs c ifs X (fun b st₂ => (b = true → WE c elt X (fun q st₃ => compQ I (k + 1) acc q st₃) st₂) ∧ (b = false → ∃ st₄, I (k + 1) st₄ ∧ St.le st₄ st₂)) st₁) st)
    {hid stk h₀} (ok : COk c.lv c.A c.env (stk.map (·.1))) {k : Nat} {hs st s} (hk : k ≤ items.length) (hS : Sk k hs) (hK : KP s.heap) (hI : I k st) (R : Rep c.base c.os (hs ++ hid) ((c.env.locals, st.1) :: stk) st.2 s) (hk0 : Keeps h₀ s.heap) :
    codeAny c.M c.A (.compLoop (.ListComp elt [⟨target, iter, ifs, 0⟩] scope pos) 0 (.ref it) (.ref acc) c.env) (CompR c X (fun st => I items.length st) hid stk h₀) s := by
  have hh : c.A.handled = none := ok.handled hcalm
  have hE : ∀ e s'', PostX c X hid stk e s'' → notedBy c.M c.A c.env (fun e s' => CompR c X (fun st => I items.length st) hid stk h₀ (.error e) s') e s'' :=
    fun e s'' hx => hx.noted ok fun x cls st' s' R n q => ⟨x, cls, st', rfl, R, n, q⟩
  refine codeAny_loop rfl (fun n s' => ∃ k hs st', n = items.length - k ∧ k ≤ items.length ∧ Sk k hs ∧ KP s'.heap ∧ I k st' ∧ Rep c.base c.os (hs ++ hid) ((c.env.locals, st'.1) :: stk) st'.2 s' ∧ Keeps h₀ s'.heap) ?_ (items.length - k)
    ⟨k, hs, st, rfl, hk, hS, hK, hI, R, hk0⟩
  clear hk hS hK hI R hk0
  rintro n s' ⟨k, hs', st', rfl, hle, hSk, hKP, hI, R', k'⟩
  show wpAny _ c.A ((compTurn (.ListComp elt [⟨target, iter, ifs, 0⟩] scope pos) 0 (.ref it) (.ref acc) c.env).onRaise (fun x => do noteFrame x c.env; theTreesLotGoes x)) _ _ s'
  refine wpAny_noted ?_
  rw [compTurn_list]
  refine wpAny_bind (wpAny_standAt (wpAny_bind ?_))
  rcases Nat.lt_or_ge k items.length with hlt | hge
  · have hx : items[k]? = some items[k] := List.getElem?_eq_getElem hlt
    refine IT.next k _ hx _ _ _ _ _ _ _ _ hh hSk hKP (hP _ _ hI) R' fun v s₃ own hv₃ k₃ => ?_
    refine wpAny_bind (own _ _ _ fun s₄ hs₄ hSk₄ R₄ k₄ => ?_)
    refine wpAny_bind (wpAny_mono (turn k _ st' hx hI v (hs₄ ++ hid) stk s₄ ok R₄ (hv₃.mono k₄)) (fun _ s₅ h₅ => ?_) fun e s'' y => hE e s'' y.hidDrop)
    obtain ⟨_, st₅, R₅, _, k₅, h₅⟩ := h₅
    refine wpAny_bind (wpAny_mono (h₅ (hs₄ ++ hid) stk s₅ ok R₅) (fun b s₆ h₆ => ?_) fun e s'' y => hE e s'' y.hidDrop)
    obtain ⟨bb, st₆, R₆, hb, k₆, h₆⟩ := h₆
    cases hb
    have again : ∀ s₇ (st₇ : St), Rep c.base c.os (hs₄ ++ hid) ((c.env.locals, st₇.1) :: stk) st₇.2 s₇ → Keeps s₆.heap s₇.heap → (∃ st₃, I (k + 1) st₃ ∧ St.le st₃ st₇) → ∃ m, m < items.length - k ∧ (∃ k hs st', m = items.length - k ∧ k ≤ items.length ∧ Sk k hs ∧ KP s₇.heap ∧ I k st' ∧ Rep c.base c.os (hs ++ hid) ((c.env.locals, st'.1) :: stk) st'.2 s₇ ∧ Keeps h₀ s₇.heap) := by
      rintro s₇ st₇ R₇ k₇ ⟨st₃, hI₃, hl₃⟩
      have kk : Keeps s'.heap s₇.heap := k₃.trans (k₄.trans (k₅.trans (k₆.trans k₇)))
      exact ⟨items.length - (k + 1), by omega, k + 1, hs₄, st₃, rfl, hlt, hSk₄, IT.mono _ _ kk hKP, hI₃, (R₇.weaken hl₃.2).locals hl₃.1, k'.trans kk⟩
    cases b with
    | true =>
      simp only [if_true]
      refine wpAny_bind (wpAny_bind (wpAny_mono (h₆.1 rfl (hs₄ ++ hid) stk s₆ ok R₆) (fun x s₇ h₇ => ?_) fun e s'' y => hE e s'' y.hidDrop))
      obtain ⟨q, st₇, R₇, hq, k₇, l, hl, hz, fin⟩ := h₇
      have := append_list (c := c) (X := X) (μ := st₇.1) (σ := st₇.2) (a := acc) (l := l) (p := q) (Q := fun _ st => ∃ st₄, I (k + 1) st₄ ∧ St.le st₄ st) hl (by omega) fin [.ref acc, x] (hs₄ ++ hid) stk s₇ ok R₇ (.cons rfl (.cons hq .nil))
      refine wpAny_bind (wpAny_mono this (fun _ s₈ h₈ => ?_) fun e s'' y => hE e s'' y.hidDrop)
      obtain ⟨_, st₈, R₈, _, k₈, fin⟩ := h₈
      exact wpAny_pure (wpAny_pure ⟨rfl, again s₈ st₈ R₈ (k₇.trans k₈) fin⟩)
    | false =>
      simp only [Bool.false_eq_true, if_false]
      exact wpAny_pure ⟨rfl, again s₆ st₆ R₆ (.refl _) (h₆.2 rfl)⟩
  · have hk : k = items.length := by omega
    subst hk
    refine IT.stop _ _ _ _ _ _ _ _ hh hSk hKP (hP _ _ hI) R' fun s₃ R₃ k₃ => ?_
    exact wpAny_pure ⟨rfl, st', R₃, k'.trans k₃, hI⟩

/-- what is asked of the loop of a comprehension over items -/
structure CompOk (c : Cx) (scope : Scope) (cl : List (Str × Addr)) (elt target : Expr) (ifs : List Expr) (items : List PV) (P : AHeap → Prop) (X : String → St → Prop) (μ : Locals) (σ : AHeap) (Q : Addr → AHeap → Prop) : Prop where
  run : ∀ (c' : Cx) (a : Addr), c'.toGx = c.toGx → c'.lv = c.lv → c'.env.scope = relabel scope c.env → c'.env.cells = cl → σ a = none →
    ∃ I : Nat → St → Prop, I 0 ([], σ.set a (.list [])) ∧ (∀ k st, I k st → P st.2) ∧
      (∀ k p st, items[k]? = some p → I k st → WAsg c' target p (fun e st => X e (μ, st.2)) (fun st₁ => WIfs c' ifs (fun e st => X e (μ, st.2)) (fun b st₂ => (b = true → WE c' elt (fun e st => X e (μ, st.2)) (fun q st₃ => compQ I (k + 1) a q st₃) st₂) ∧ (b = false → ∃ st₄, I (k + 1) st₄ ∧ St.le st₄ st₂)) st₁) st) ∧
      (∀ st, I items.length st → Q a st.2)

theorem wp_comp {elt target iter : Expr} {ifs : List Expr} {scope : Scope} {pos : Pos} {cl : List (Str × Addr)} {use : Option (Value → Sem Unit)} {QV : Value → Shared → Prop} (hcalm : c.lv.calm = true)
    (hclos : closureFor scope c.env = pure cl) (hcell : ∀ y ∈ scope.names, y.2 ≠ .cell) (hkind : scope.kind = .function) (hnames : ∀ x ∈ scope.names, x.2 = .local → scope.names.lookup x.1 = some .local) (hf : ∀ x, foldedSetIterable iter c.env x = pure x)
    {hid stk s₀} (ok : COk c.lv c.A c.env (stk.map (·.1))) (R : Rep c.base c.os hid ((c.env.locals, st.1) :: stk) st.2 s₀) {p0 : Pos}
    (h : WE c iter X (fun p st₁ => ∃ items P, ItOk c target p st₁ items P ∧ CompOk c scope cl elt target ifs items P X st₁.1 st₁.2 (fun a σ' => ∀ C ν s', Rep c.base c.os hid ((C, ν) :: (c.env.locals, st₁.1) :: stk) σ' s' → Keeps s₀.heap s'.heap →
      compPost c.M c.A (PostX c X hid stk) use QV (.ref a) C (.ok .next) s')) st) :
    wpAny c.M c.A (comprehension (.ListComp elt [⟨target, iter, ifs, 0⟩] scope pos) scope c.env p0 (newList []) false (eval iter c.env) use) QV (PostX c X hid stk) s₀ := by
  refine wpAny_comprehension_free rfl hf hclos hkind hnames (wpAny_mono (h hid stk s₀ ok R) (fun v s₁ hp => ?_) fun _ _ y => y)
  obtain ⟨p, st₁, R₁, hv, k₁, items, P, hit, hrun⟩ := hp
  refine hit v hid stk s₁ _ _ ok R₁ hv fun it Sk KP hs s₂ IT hS0 hK0 R₂ k₂ => ?_
  refine wpAny_newObj_type ?_ (by size_fits)
  -- the accumulator, then the block's own names
  have R₃ := R₂.newList (l := []) (vs := []) .nil
  refine wpAny_newFunctionEnv hcell (by intro y hy; simp at hy) (fun h₁ hns₁ hsb₁ => ?_) hkind
  dsimp only at hns₁ hsb₁ ⊢
  generalize hs₃e : ({ s₂ with heap := s₂.heap.push { cls := .type "list", dict := none, data := .seq ([] : List Value).toArray, slots := #[] } } : Shared) = s₃ at R₃
  have ha3 : s₃.heap = s₂.heap.push { cls := .type "list", dict := none, data := .seq ([] : List Value).toArray, slots := #[] } := by rw [← hs₃e]
  have hkeep : ∀ b o, s₃.heap.get? b = some o → h₁.get? b = some o := fun b o e => by
    rw [ha3] at e
    exact hsb₁.extBut b o (Nat.ne_of_lt (Heap.lt_size e)) (Heap.get?_push_of_some _ e)
  have R₄ : Rep c.base c.os (hs ++ hid) ((s₃.heap.objs.size, []) :: (c.env.locals, st₁.1) :: stk) (st₁.2.set s₂.heap.objs.size (.list [])) { s₃ with heap := h₁ } := by
    have Rg := R₃.grow (s' := { s₃ with heap := h₁ }) hkeep rfl rfl
    refine ⟨Rg.stays, Rg.gens, Rg.os, fun q hq => ?_, fun f hf => ?_, ?_, Rg.hnd, Rg.heap, Rg.tk⟩
    · obtain ⟨a1, b1, c1, d1, e1⟩ := Rg.hid q hq
      exact ⟨a1, b1, c1, fun q' => by
        rw [List.map_cons, List.mem_cons] at q'
        rcases q' with q' | q'
        · exact R₃.fresh_hid q hq q'
        · exact d1 q', e1⟩
    · rcases List.mem_cons.mp hf with rfl | hf
      · exact ⟨⟨R₃.fresh_base, _, by rw [ha3]; exact hns₁, fun x p e => by cases e⟩, R₃.fresh_σ⟩
      · exact Rg.frames f hf
    · rw [List.map_cons, List.nodup_cons]
      exact ⟨fun q => by obtain ⟨f, hf, e⟩ := List.mem_map.mp q; exact R₃.fresh_stk f hf e, Rg.nodup⟩
  have k₃ : Keeps s₂.heap h₁ := fun b vs ⟨n, e⟩ => ⟨n, hkeep _ _ (by rw [ha3]; exact Heap.get?_push_of_some _ e)⟩
  have kall : Keeps s₀.heap h₁ := (k₁.trans k₂).trans k₃
  obtain ⟨I, h0, hP, turn, fin⟩ := hrun.run ⟨c.toGx, c.lv, c.A, compEnvC scope cl s₃.heap.objs.size c.env⟩ s₂.heap.objs.size rfl rfl rfl rfl R₂.fresh_σ
  have hok' : COk c.lv c.A (compEnvC scope cl s₃.heap.objs.size c.env) (((c.env.locals, st₁.1) :: stk).map (·.1)) := ok.inner rfl hkind rfl rfl
  have hloop : ∀ s₄ : Shared, s₄ = { s₃ with heap := h₁ } → codeAny c.M c.A (.compLoop (.ListComp elt [⟨target, iter, ifs, 0⟩] scope pos) 0 (.ref it) (.ref s₂.heap.objs.size) (compEnvC scope cl s₃.heap.objs.size c.env)) (compPost c.M c.A (PostX c X hid stk) use QV (.ref s₂.heap.objs.size) s₃.heap.objs.size) s₄ := by
    rintro s₄ rfl
    refine codeAny_mono (comp_loop1 (c := ⟨c.toGx, c.lv, c.A, compEnvC scope cl s₃.heap.objs.size c.env⟩) (X := fun e st => X e (st₁.1, st.2)) hcalm IT I hP turn (stk := (c.env.locals, st₁.1) :: stk) hok' (Nat.zero_le _) hS0 (IT.mono _ _ k₃ hK0) h0 R₄ kall) fun r s' hr => ?_
    cases r with
    | ok f =>
      obtain ⟨rfl, st', R', k', q⟩ := hr
      exact fin st' q _ _ s' R' k'
    | error e =>
      obtain ⟨x, cls, st', rfl, R', hx, q⟩ := hr
      have key : ∃ m, s'.heap.Ns s₃.heap.objs.size m ∧ ∀ h', Heap.SameBut s₃.heap.objs.size s'.heap h' → ∀ cenv : Env, cenv.locals = s₃.heap.objs.size → wpAny c.M c.A (PySem.passOn "comprehension.variables-let-go" (.ref x) cenv : Sem Value) (fun _ _ => False) (PostX c X hid stk) { s' with heap := h' } := by
        obtain ⟨⟨hnew, m, hn, _⟩, hσC⟩ := R'.frames _ (List.mem_cons_self ..)
        refine ⟨m, hn, fun h' hsb cenv _ => ?_⟩
        obtain ⟨R'', kk⟩ := R'.popChange (tk := s'.toks) hsb
        -- the exception is not the block
        obtain ⟨ha, ob, vs, T, oT, ts, x1, x2, x3, x4, k1, y2, y3, y4, y5, y6, y7⟩ := hx
        have hxC : x ≠ s₃.heap.objs.size := fun q => stk_not_fields R' x1 x4 _ (List.mem_cons_self ..) q.symm
        have hTC : T ≠ s₃.heap.objs.size := fun q => stk_not_fields R' y2 y4 _ (List.mem_cons_self ..) q.symm
        have hx' : ExcNoted c.base hid st'.2 h' x cls := ⟨ha, ob, vs, T, oT, ts, (hsb.2 x hxC).trans x1, x2, x3, x4, k1, (hsb.2 T hTC).trans y2, y3, y4, y5, y6, y7⟩
        unfold PySem.passOn
        refine wpAny_bind (wpAny_field ((hsb.2 x hxC).trans x1) x4 k1 ?_)
        rw [if_neg (by simp)]
        exact wpAny_bind (wp_flight (s := { s' with heap := h' }) R'' hx' fun s'' R3 n3 => wpAny_throw ⟨x, cls, (st₁.1, st'.2), rfl, R3, n3.at, q⟩)
      cases use <;> exact key
  have henv : ({ newEnv scope s₃.heap.objs.size c.env.globals cl c.env.qual none .none (some c.env) c.env.builtins with scope := relabel scope c.env } : Env) = compEnvC scope cl s₃.heap.objs.size c.env := rfl
  have hsz : (s₂.heap.push { cls := .type "list", dict := none, data := .seq ([] : List Value).toArray }).objs.size = s₃.heap.objs.size := by rw [ha3]
  rw [hsz]
  have hst : ({ s₂ with heap := h₁, toks := s₂.toks + ([] : List (Str × Value)).length } : Shared) = { s₃ with heap := h₁ } := by rw [← hs₃e]; rfl
  show codeAny c.M c.A (.compStart (.ListComp elt [⟨target, iter, ifs, 0⟩] scope pos) 0 (.ref it) (.ref s₂.heap.objs.size) (compEnvC scope cl s₃.heap.objs.size c.env)) _ _
  rw [hst]
  refine codeAny_compStart_list (hloop _ rfl) ?_
  exact IT.self 0 _ _ _ _ _ _ _ _ hS0 R₄ (hloop _ rfl)

theorem E_ListComp {elt target iter : Expr} {ifs : List Expr} {scope : Scope} {pos : Pos} {cl : List (Str × Addr)} {Q : PV → St → Prop} (hcalm : c.lv.calm = true)
    (hclos : closureFor scope c.env = pure cl) (hcell : ∀ y ∈ scope.names, y.2 ≠ .cell) (hkind : scope.kind = .function) (hnames : ∀ x ∈ scope.names, x.2 = .local → scope.names.lookup x.1 = some .local) (hf : ∀ x, foldedSetIterable iter c.env x = pure x)
    (h : WE c iter X (fun p st₁ => ∃ items P, ItOk c target p st₁ items P ∧ CompOk c scope cl elt target ifs items P X st₁.1 st₁.2 (fun a σ' => Q (.ref a) (st₁.1, σ'))) st) :
    WE c (.ListComp elt [⟨target, iter, ifs, 0⟩] scope pos) X Q st := fun hid stk s ok R => by
  rw [eval_ListComp]
  refine wp_comp (use := none) hcalm hclos hcell hkind hnames hf ok R (WT.mono h (fun p st₁ ⟨items, P, hit, hr⟩ => ⟨items, P, hit, ⟨fun c' a h1 h2 h3 h4 h5 => ?_⟩⟩) fun _ _ y => y)
  obtain ⟨I, h0, hP, turn, fin⟩ := hr.run c' a h1 h2 h3 h4 h5
  refine ⟨I, h0, hP, turn, fun st' hI C ν s' R' k' => ?_⟩
  obtain ⟨⟨_, m, hn, _⟩, _⟩ := R'.frames _ (List.mem_cons_self ..)
  refine ⟨m, hn, fun h' hsb => ?_⟩
  obtain ⟨R'', kk⟩ := R'.popChange (tk := s'.toks) hsb
  exact ⟨.ref a, (st₁.1, st'.2), R'', rfl, k'.trans kk, fin st' hI⟩

/-- a comprehension whose value goes to a local name at once -/
theorem S_AssignComp {x : Str} {pos' spos : Pos} {elt target iter : Expr} {ifs : List Expr} {scope : Scope} {pos : Pos} {cl : List (Str × Addr)} {Q : AFlow → St → Prop} (hcalm : c.lv.calm = true)
    (hsw : swapsWith (.ListComp elt [⟨target, iter, ifs, 0⟩] scope pos) (some (.Name x pos')) spos.line c.env = pure true) (hl : c.env.scope.names.lookup x = some .local)
    (hclos : closureFor scope c.env = pure cl) (hcell : ∀ y ∈ scope.names, y.2 ≠ .cell) (hkind : scope.kind = .function) (hnames : ∀ x ∈ scope.names, x.2 = .local → scope.names.lookup x.1 = some .local) (hf : ∀ x, foldedSetIterable iter c.env x = pure x)
    (h : WE c iter X (fun p st₁ => ∃ items P, ItOk c target p st₁ items P ∧ CompOk c scope cl elt target ifs items P X st₁.1 st₁.2 (fun a σ' => Q .next (setL x (.ref a) st₁.1, σ'))) st) :
    WX c (.Assign [.Name x pos'] (.ListComp elt [⟨target, iter, ifs, 0⟩] scope pos) spos) X Q st := fun hid stk s ok R => by
  rw [exec_Assign_Name_used x pos' _ spos hsw]
  refine wpAny_bind (wpAny_standAt (wpAny_bind ?_))
  show wpAny _ _ (do let _ ← comprehension (.ListComp elt [⟨target, iter, ifs, 0⟩] scope pos) scope c.env _ (newList []) false (eval iter c.env) (some (assign (.Name x pos') c.env))) _ _ s
  refine wpAny_bind (wp_comp (use := some (assign (.Name x pos') c.env)) hcalm hclos hcell hkind hnames hf ok R (WT.mono h (fun p st₁ ⟨items, P, hit, hr⟩ => ⟨items, P, hit, ⟨fun c' a h1 h2 h3 h4 h5 => ?_⟩⟩) fun _ _ y => y))
  obtain ⟨I, h0, hP, turn, fin⟩ := hr.run c' a h1 h2 h3 h4 h5
  refine ⟨I, h0, hP, turn, fun st' hI C ν s' R' k' => ?_⟩
  have := Asg_local (c := c) (X := X) (x := x) (pos := pos') (p := .ref a) (μ := st₁.1) (σ := st'.2) (Q := fun st => Q .next st) hl (fin st' hI) (.ref a) hid ((C, ν) :: stk) s' (ok.more C) R'.swap rfl
  refine wpAny_mono this (fun _ s'' hq => ?_) fun e s'' hx => ?_
  · obtain ⟨_, st₂, R₂, _, k₂, q⟩ := hq
    have R₂' := R₂.swap
    obtain ⟨⟨_, m, hn, _⟩, _⟩ := R₂'.frames _ (List.mem_cons_self ..)
    refine ⟨m, hn, fun h' hsb => ?_⟩
    obtain ⟨R₃, kk⟩ := R₂'.popChange (tk := s''.toks) hsb
    exact wpAny_pure (wpAny_pure ⟨.next, st₂, R₃, rfl, (k'.trans k₂).trans kk, q⟩)
  · obtain ⟨x, cls, st₂, rfl, R₂, hx, q⟩ := hx
    exact ⟨x, cls, st₂, rfl, R₂.swap.pop, hx, q⟩
end
end Mine
end
section
open PySem PySem.W PyProof.Rows
set_option Elab.async false
set_option linter.unusedVariables false
set_option maxRecDepth 10000
namespace Mine

/-- clauses of a try -/
def WH (c : Cx) (hs : List ExceptHandler) (cls : String) (X : String → St → Prop) (Q : AFlow → St → Prop) (st : St) : Prop :=
  ∀ hid stk s x, COk c.lv c.A c.env (stk.map (·.1)) → Rep c.base c.os hid ((c.env.locals, st.1) :: stk) st.2 s → ExcNoted c.base hid st.2 s.heap x cls → wpAny c.M c.A (handleBy (.ref x) c.env hs) (fun f s' => ∃ fl st', Rep c.base c.os hid ((c.env.locals, st'.1) :: stk) st'.2 s' ∧ FlowRep s'.heap fl f ∧ Q fl st') (PostX c X hid stk) s

theorem ExcNoted.typeIs {base hid σ x cls} {s : Shared} (h : ExcNoted base hid σ s.heap x cls) : s.TypeIs (.ref x) cls := by
  obtain ⟨_, ob, _, _, _, _, h1, h2, _⟩ := h; exact ⟨ob, h1, h2⟩

structure ExcSub (X T : String) (b : Bool) : Prop where
  exc : isSubtype (.type T) (.type "BaseException") = pure true
  nt : isSubtype (.type ((Manifest.find? T).elim "type" fun x => x.metatype)) (.type "tuple") = pure false
  sub : isSubtype (.type X) (.type T) = pure b
theorem sub_TT : ExcSub "TypeError" "TypeError" true := ⟨by rw [isSubtype_type]; kernel_rfl, by rw [show ((Manifest.find? "TypeError").elim "type" fun x => x.metatype) = "type" from by kernel_rfl, isSubtype_type]; kernel_rfl, by rw [isSubtype_type]; kernel_rfl⟩
theorem sub_IT : ExcSub "IndexError" "TypeError" false := ⟨by rw [isSubtype_type]; kernel_rfl, by rw [show ((Manifest.find? "TypeError").elim "type" fun x => x.metatype) = "type" from by kernel_rfl, isSubtype_type]; kernel_rfl, by rw [isSubtype_type]; kernel_rfl⟩
theorem sub_II : ExcSub "IndexError" "IndexError" true := ⟨by rw [isSubtype_type]; kernel_rfl, by rw [show ((Manifest.find? "IndexError").elim "type" fun x => x.metatype) = "type" from by kernel_rfl, isSubtype_type]; kernel_rfl, by rw [isSubtype_type]; kernel_rfl⟩
theorem COk.mark {lv A env ls} (ok : COk lv A env ls) (e : Option Value) : COk ⟨lv.d, false⟩ (A.mark e) env ls := by
  obtain ⟨e₀, rest, h, he⟩ := ok.ok
  exact ⟨⟨e₀, rest, ⟨h.frames, h.frs, (fun x => by cases x), h.depth, h.units⟩, he⟩, ok.kind, ok.globals, ok.builtins⟩


theorem Rep.notTU {base os₀ hid stk σ} {s : Shared} (R : Rep base os₀ hid stk σ s) {a vs} (h : TU s.heap a vs) : σ a = none ∧ a ∉ stk.map (·.1) := by
  obtain ⟨n, h⟩ := h
  constructor
  · cases q : σ a with
    | none => rfl
    | some o =>
      exfalso
      have := R.heap _ _ q
      cases o with
      | list l => obtain ⟨_, vs, ⟨n, h1⟩, _⟩ := this; rw [h] at h1; simp at h1
      | rlist l => obtain ⟨vs, ⟨n, h1⟩, _⟩ := this; rw [h] at h1; simp at h1
      | cell v => obtain ⟨_, x, ⟨ob, h1, h2⟩, _⟩ := this; rw [h] at h1; cases h1; cases h2
      | range x y z => obtain ⟨_, t, u, v, h1⟩ := this; unfold IsRange at h1; rw [h] at h1; simp at h1
      | raw o => obtain ⟨_, h1, h2⟩ := this; rw [h] at h1; cases h1; exact h2 rfl
  · intro q
    obtain ⟨f, hf, rfl⟩ := List.mem_map.mp q
    obtain ⟨⟨_, m, ⟨o, es, ep, h2, h3, _⟩, _⟩, _⟩ := R.frames f hf
    rw [h] at h2; cases h2; cases h3

/-- all tuples, told as hidden things -/
theorem Rep.tups {base os₀ hid stk σ} {s : Shared} (R : Rep base os₀ hid stk σ s) :
    ∃ T, Rep base os₀ (T ++ hid) stk σ s ∧ ∀ stk' σ' (s' : Shared), Rep base os₀ (T ++ hid) stk' σ' s' → Keeps s.heap s'.heap := by
  classical
  let P : Addr → Bool := fun a => decide ((∃ vs, TU s.heap a vs) ∧ base.get? a = none ∧ a ∉ hid.map (·.1))
  let L := (List.range s.heap.objs.size).filter P
  let T : List (Addr × Obj) := L.map fun a => (a, (s.heap.get? a).getD default)
  have hT : ∀ p ∈ T, (∃ vs, TU s.heap p.1 vs) ∧ base.get? p.1 = none ∧ p.1 ∉ hid.map (·.1) ∧ s.heap.get? p.1 = some p.2 := fun p hp => by
    obtain ⟨a, ha, rfl⟩ := List.mem_map.mp hp
    have := of_decide_eq_true (List.mem_filter.mp ha).2
    refine ⟨this.1, this.2.1, this.2.2, ?_⟩
    obtain ⟨vs, n, h⟩ := this.1
    simp [h]
  have hm : T.map (·.1) = L := by simp [T, Function.comp_def]
  refine ⟨T, ⟨R.stays, R.gens, R.os, fun p hp => ?_, R.frames, R.nodup, ?_, R.heap, R.tk⟩, fun stk' σ' s' R' a vs ht => ?_⟩
  · rcases List.mem_append.mp hp with hp | hp
    · obtain ⟨⟨vs, h1⟩, h2, h3, h4⟩ := hT p hp
      exact ⟨h4, h2, (R.notTU h1).1, (R.notTU h1).2, trivial⟩
    · exact R.hid p hp
  · rw [List.map_append, hm, List.nodup_append]
    refine ⟨List.Pairwise.filter _ (by exact List.nodup_range), R.hnd, fun a ha b hb e => ?_⟩
    have := of_decide_eq_true (List.mem_filter.mp ha).2
    exact this.2.2 (e ▸ hb)
  · obtain ⟨n, h⟩ := id ht
    refine ⟨n, ?_⟩
    cases hb : base.get? a with
    | some ob =>
      have e1 := R.stays a ob hb
      rw [h] at e1; cases e1
      exact R'.stays a _ hb
    | none =>
      by_cases hh : a ∈ hid.map (·.1)
      · obtain ⟨p, hp, rfl⟩ := List.mem_map.mp hh
        have e1 := (R.hid p hp).1
        rw [h] at e1
        exact ((R'.hid p (List.mem_append_right _ hp)).1).trans e1.symm
      · have hL : a ∈ L := List.mem_filter.mpr ⟨List.mem_range.mpr (Heap.lt_size h), decide_eq_true ⟨⟨vs, ht⟩, hb, hh⟩⟩
        have := (R'.hid (a, (s.heap.get? a).getD default) (List.mem_append_left _ (List.mem_map_of_mem hL))).1
        simpa [h] using this

section
variable {c : Cx} {X : String → St → Prop} {st : St} {μ : Locals} {σ : AHeap}

theorem S_Try {body h₀ hs pos} {Q : AFlow → St → Prop} (h : WS c body (fun cls st => WH c (h₀ :: hs) cls X Q st) Q st) : WX c (.Try body (h₀ :: hs) [] [] pos) X Q st := fun hid stk s ok R => by
  obtain ⟨e₀, rest, a, he⟩ := ok.ok
  obtain ⟨T, RT, kT⟩ := R.tups
  refine wpAny_Try_except (wpAny_mono (h (T ++ hid) stk s ok RT) (fun f s₁ hp => ?_) fun e s₁ hx => ?_)
  · obtain ⟨fl, st₁, R₁, hf, k₁, q⟩ := hp
    cases fl with
    | next => cases hf; exact wpAny_execs_nil ⟨.next, st₁, R₁.hidDrop, rfl, k₁, q⟩
    | brk => cases hf; exact ⟨.brk, st₁, R₁.hidDrop, rfl, k₁, q⟩
    | cont => cases hf; exact ⟨.cont, st₁, R₁.hidDrop, rfl, k₁, q⟩
    | ret p => obtain ⟨u, rfl, hu⟩ := hf; exact ⟨.ret p, st₁, R₁.hidDrop, ⟨u, rfl, hu⟩, k₁, q⟩
  · obtain ⟨x, cls, st₁, rfl, R₁, hx, q⟩ := hx
    refine wp_note a.frames (by simpa using a.frs) R₁ rfl he hx fun s₂ R₂ n₂ => wp_flight R₂ n₂ fun s₃ R₃ n₃ => ?_
    refine wpAny_mono (q (T ++ hid) stk s₃ x ok R₃ n₃) (fun f s₄ hp => ?_) fun _ _ y => y.hidDrop
    obtain ⟨fl, st₄, R₄, hf, q⟩ := hp
    exact ⟨fl, st₄, R₄.hidDrop, hf, kT _ _ _ R₄, q⟩

/-- a clause whose class is a builtin one, and hits -/
theorem H_hit {cls T : String} {x : Str} {pos' b₀ suite pos rest} {Q : AFlow → St → Prop} (hs : ExcSub cls T true) (hG : Gd c.toGx)
    (hl : c.env.scope.names.lookup x = some .globalImplicit) (hm : c.mg x = none) (hn : x ≠ "__name__") (hv : bootBuiltins x = some (.type T))
    (h : ∀ c' : Cx, c'.toGx = c.toGx → c'.env = c.env → c'.lv.d = c.lv.d → WS c' (b₀ :: suite) X Q st)
    (hd : (x == ("__debug__" : Str)) = false) : WH c (.ExceptHandler (some (.Name x pos')) none (b₀ :: suite) pos :: rest) cls X Q st := fun hid stk s a ok R hx => by
  refine wpAny_handleBy_builtin hs.exc hs.nt hs.sub (Calls.Name_function_global ok.kind hl (Calls.loadGlobal_builtin (by rw [ok.globals]; exact hG.g.keeps R.stays) hm (by rw [ok.builtins]; exact hG.b.keeps R.stays) ((hG.builtins x hn).trans hv) ⟨rfl, hx.typeIs, ?_⟩) hd)
  rw [if_pos rfl]
  have ok' := ok.mark (some (.ref a))
  refine wp_flight R hx fun s₂ R₂ n₂ => ?_
  refine wpAny_mono (h { c with A := c.A.mark (some (.ref a)), lv := ⟨c.lv.d, false⟩ } rfl rfl rfl hid stk s₂ ok' R₂) (fun f s' ⟨fl, st', R', hf, _, q⟩ => ⟨fl, st', R', hf, q⟩) fun e s' y => ?_
  refine PostX.noted (c := { c with A := c.A.mark (some (.ref a)), lv := ⟨c.lv.d, false⟩ }) ok' y fun x cls st' s' R' n' q => ?_
  exact wp_cameBack R' n' fun s'' R'' n'' => ⟨x, cls, st', rfl, R'', n''.at, q⟩
theorem H_miss {cls T : String} {x : Str} {pos' b₀ suite pos rest} {Q : AFlow → St → Prop} (hs : ExcSub cls T false) (hG : Gd c.toGx)
    (hl : c.env.scope.names.lookup x = some .globalImplicit) (hm : c.mg x = none) (hn : x ≠ "__name__") (hv : bootBuiltins x = some (.type T))
    (h : WH c rest cls X Q st)
    (hd : (x == ("__debug__" : Str)) = false) : WH c (.ExceptHandler (some (.Name x pos')) none (b₀ :: suite) pos :: rest) cls X Q st := fun hid stk s a ok R hx => by
  refine wpAny_handleBy_builtin hs.exc hs.nt hs.sub (Calls.Name_function_global ok.kind hl (Calls.loadGlobal_builtin (by rw [ok.globals]; exact hG.g.keeps R.stays) hm (by rw [ok.builtins]; exact hG.b.keeps R.stays) ((hG.builtins x hn).trans hv) ⟨rfl, hx.typeIs, ?_⟩) hd)
  rw [if_neg (by decide)]
  exact h hid stk s a ok R hx
end
end Mine
end
section
open PySem PySem.W PyProof.Rows
set_option Elab.async false
set_option linter.unusedVariables false
set_option maxRecDepth 10000
namespace Mine

section
variable {M : Model} {A : Around} {E : Value → Shared → Prop} {s : Shared}
theorem lt_raises {a b : Value} {Ta Tb ida idb : String} {Q : Value → Shared → Prop} (hh : A.handled = none) (ha : s.TypeIs a Ta) (hb : s.TypeIs b Tb)
    (hne : (Value.type Ta != Value.type Tb) = true) (hsub : isSubtype (.type Tb) (.type Ta) = pure false) (h1 : Slot Ta (cmpInfo .Lt).2.1 ida) (h2 : Slot Tb (cmpInfo .Lt).2.2 idb)
    (hna : (Value.type Ta == Value.type "builtin_function_or_method") = false) (hnb : (Value.type Tb == Value.type "builtin_function_or_method") = false)
    (hca : ∀ Q' : Value → Shared → Prop, Q' .notImplemented s → wpAny M A (call (.builtin ida) [a, b]) Q' E s)
    (hcb : ∀ Q' : Value → Shared → Prop, Q' .notImplemented s → wpAny M A (call (.builtin idb) [b, a]) Q' E s)
    (hu : A.units < cLine) (hTa : (shownName Ta).length ≤ 1000) (hTb : (shownName Tb).length ≤ 1000)
    (h : ∀ h' tk e, Heap.NewExc s.heap h' e "TypeError" → E (.ref e) { s with heap := h', toks := tk }) :
    wpAny M A (compareOp .Lt a b) Q E s := by
  show wpAny _ _ (richCompare .Lt a b) Q E s
  simp only [richCompare, cmpInfo, ha.oneThing_none] at h1 h2 ⊢
  refine wpAny_holding ?_
  refine wpAny_bind (wpAny_cRoomFor_or (.inr hu) ?_)
  refine wpAny_bind (wpAny_typeOf ha (wpAny_bind (wpAny_typeOf hb ?_)))
  simp only [hne, if_true]
  refine wpAny_bind (wpAny_of_eq hsub ?_)
  simp only [Bool.false_eq_true, if_false, Bool.not_false, if_true]
  refine wpAny_bind (m := tryCompare a _ b) (wpAny_tryCompare_declines ha h1 (hca _ ⟨rfl, ?_⟩))
  refine wpAny_bind (m := tryCompare b _ a) (wpAny_tryCompare_declines hb h2 (hcb _ ⟨rfl, ?_⟩))
  refine wpAny_bind (wpAny_rule (wpAny_bind (wpAny_typeNameOf' ha hna (wpAny_bind (wpAny_typeNameOf' hb hnb (wpAny_raiseTypeError hh h ?_))))))
  show (Str.ofString _).length ≤ sizeLine
  rw [PySem.ofString_length, sizeLine_eq]
  simp only [String.length_append, toString]
  have e1 : "'".length ≤ 100 := by decide
  have e2 : "<".length ≤ 100 := by decide
  have e3 : "' not supported between instances of '".length ≤ 100 := by decide
  have e4 : "' and '".length ≤ 100 := by decide
  omega
end

theorem sub_no_int : ∀ T ∈ ["str", "NoneType", "list"], isSubtype (.type T) (.type "int") = pure false ∧ isSubtype (.type "int") (.type T) = pure false := by
  intro T hT
  simp only [List.mem_cons, List.not_mem_nil, or_false] at hT
  rcases hT with rfl | rfl | rfl <;> exact ⟨by rw [isSubtype_type]; kernel_rfl, by rw [isSubtype_type]; kernel_rfl⟩
theorem shown_small : (shownName "int").length ≤ 1000 ∧ (shownName "str").length ≤ 1000 ∧ (shownName "NoneType").length ≤ 1000 ∧ (shownName "list").length ≤ 1000 := by
  refine ⟨?_, ?_, ?_, ?_⟩ <;> decide +kernel

section
variable {prog : Program} {w : World} {A : Around} {E : Value → Shared → Prop} {s : Shared} {i : Int} {t : Tok} {Q : Value → Shared → Prop}
theorem int_lt_str {x : Str} {u : Tok} (h : Q .notImplemented s) : wpAny (model prog w) A (call (.builtin "int.__lt__") [.int i t, .str x u]) Q E s :=
  wpAny_call_entry slot_int_lt (typeIs_int s i t) entry_int_lt (show wpAny _ _ (do rule "int.binary.not-an-int"; ret .notImplemented) _ _ s from wpAny_bind (wpAny_rule (wpAny_pure ⟨_, rfl, h⟩))) (args_int_lt _ _)
theorem int_lt_none (h : Q .notImplemented s) : wpAny (model prog w) A (call (.builtin "int.__lt__") [.int i t, .none]) Q E s :=
  wpAny_call_entry slot_int_lt (typeIs_int s i t) entry_int_lt (show wpAny _ _ (do rule "int.binary.not-an-int"; ret .notImplemented) _ _ s from wpAny_bind (wpAny_rule (wpAny_pure ⟨_, rfl, h⟩))) (args_int_lt _ _)
theorem int_gt_str {x : Str} {u : Tok} (h : Q .notImplemented s) : wpAny (model prog w) A (call (.builtin "int.__gt__") [.int i t, .str x u]) Q E s :=
  wpAny_call_entry F.slot_int_gt (typeIs_int s i t) F.entry_int_gt (show wpAny _ _ (do rule "int.binary.not-an-int"; ret .notImplemented) _ _ s from wpAny_bind (wpAny_rule (wpAny_pure ⟨_, rfl, h⟩))) (F.args_int_gt_2 _ _)
theorem int_gt_none (h : Q .notImplemented s) : wpAny (model prog w) A (call (.builtin "int.__gt__") [.int i t, .none]) Q E s :=
  wpAny_call_entry F.slot_int_gt (typeIs_int s i t) F.entry_int_gt (show wpAny _ _ (do rule "int.binary.not-an-int"; ret .notImplemented) _ _ s from wpAny_bind (wpAny_rule (wpAny_pure ⟨_, rfl, h⟩))) (F.args_int_gt_2 _ _)
theorem str_lt_int {x : Str} {u : Tok} (h : Q .notImplemented s) : wpAny (model prog w) A (call (.builtin "str.__lt__") [.str x u, .int i t]) Q E s :=
  wpAny_call_entry F.slot_str_lt (typeIs_str s x u) F.entry_str_lt (show wpAny _ _ (do rule "str.__lt__.not-a-str"; ret .notImplemented) _ _ s from wpAny_bind (wpAny_rule (wpAny_pure ⟨_, rfl, h⟩))) (F.args_str_lt_2 _ _)
theorem str_gt_int {x : Str} {u : Tok} (h : Q .notImplemented s) : wpAny (model prog w) A (call (.builtin "str.__gt__") [.str x u, .int i t]) Q E s :=
  wpAny_call_entry F.slot_str_gt (typeIs_str s x u) F.entry_str_gt (show wpAny _ _ (do rule "str.__gt__.not-a-str"; ret .notImplemented) _ _ s from wpAny_bind (wpAny_rule (wpAny_pure ⟨_, rfl, h⟩))) (F.args_str_gt_2 _ _)
theorem none_lt_int (h : Q .notImplemented s) : wpAny (model prog w) A (call (.builtin "NoneType.__lt__") [.none, .int i t]) Q E s :=
  wpAny_call_entry F.slot_NoneType_lt (show s.TypeIs .none "NoneType" from rfl) F.entry_NoneType_lt (show wpAny _ _ (ret .notImplemented) _ _ s from (wpAny_pure ⟨_, rfl, h⟩)) (F.args_NoneType_lt_2 _ _)
theorem none_gt_int (h : Q .notImplemented s) : wpAny (model prog w) A (call (.builtin "NoneType.__gt__") [.none, .int i t]) Q E s :=
  wpAny_call_entry F.slot_NoneType_gt (show s.TypeIs .none "NoneType" from rfl) F.entry_NoneType_gt (show wpAny _ _ (ret .notImplemented) _ _ s from (wpAny_pure ⟨_, rfl, h⟩)) (F.args_NoneType_gt_2 _ _)
end
theorem m_int_lt (b : Int) (u : Tok) (l : Addr) (c : Value) (items : Array Value) (n : Nat) (dd : Option Addr) (sl : Array (Option Value)) :
    Meets (Builtin.«int.__lt__» ⟨[.int b u, .ref l], []⟩) (fun _ R s => s.heap.get? l = some { cls := c, dict := dd, data := .seq items n, slots := sl } ∧ R (.ok (.ret .notImplemented)) s) :=
  .of_wp fun prog w A R s h => by obtain ⟨hp, g, d, tk, os⟩ := s; obtain ⟨hl, h⟩ := h; wp_walk using AutoSeq1.wpAny_loadPart' hl, wpAny_load hl; exact ⟨_, rfl, h⟩
theorem m_int_gt (b : Int) (u : Tok) (l : Addr) (c : Value) (items : Array Value) (n : Nat) (dd : Option Addr) (sl : Array (Option Value)) :
    Meets (Builtin.«int.__gt__» ⟨[.int b u, .ref l], []⟩) (fun _ R s => s.heap.get? l = some { cls := c, dict := dd, data := .seq items n, slots := sl } ∧ R (.ok (.ret .notImplemented)) s) :=
  .of_wp fun prog w A R s h => by obtain ⟨hp, g, d, tk, os⟩ := s; obtain ⟨hl, h⟩ := h; wp_walk using AutoSeq1.wpAny_loadPart' hl, wpAny_load hl; exact ⟨_, rfl, h⟩
theorem m_list_lt (l : Addr) (items : Array Value) (n : Nat) (dd : Option Addr) (sl : Array (Option Value)) (b : Int) (u : Tok) :
    Meets (Builtin.«list.__lt__» ⟨[.ref l, .int b u], []⟩) (fun _ R s => s.heap.get? l = some { cls := .type "list", dict := dd, data := .seq items n, slots := sl } ∧ R (.ok (.ret .notImplemented)) s) :=
  .of_wp fun prog w A R s h => by obtain ⟨hp, g, d, tk, os⟩ := s; obtain ⟨hl, h⟩ := h; have f1 := F.sub_int_list; wp_walk using AutoSeq1.wpAny_loadPart' hl; exact ⟨_, rfl, h⟩
theorem m_list_gt (l : Addr) (items : Array Value) (n : Nat) (dd : Option Addr) (sl : Array (Option Value)) (b : Int) (u : Tok) :
    Meets (Builtin.«list.__gt__» ⟨[.ref l, .int b u], []⟩) (fun _ R s => s.heap.get? l = some { cls := .type "list", dict := dd, data := .seq items n, slots := sl } ∧ R (.ok (.ret .notImplemented)) s) :=
  .of_wp fun prog w A R s h => by obtain ⟨hp, g, d, tk, os⟩ := s; obtain ⟨hl, h⟩ := h; have f1 := F.sub_int_list; wp_walk using AutoSeq1.wpAny_loadPart' hl; exact ⟨_, rfl, h⟩

section
variable {prog : Program} {w : World} {A : Around} {E : Value → Shared → Prop} {s : Shared} {i : Int} {t : Tok} {Q : Value → Shared → Prop}
theorem int_lt_list {a : Addr} {vs : List Value} (hL : LI s.heap a vs) (h : Q .notImplemented s) : wpAny (model prog w) A (call (.builtin "int.__lt__") [.int i t, .ref a]) Q E s := by
  obtain ⟨n, e⟩ := hL
  exact call_meets F.slot_int_lt (typeIs_int s i t) F.entry_int_lt (F.args_int_lt_2 _ _) (m_int_lt i t a _ _ n _ _) ⟨e, h⟩
theorem int_gt_list {a : Addr} {vs : List Value} (hL : LI s.heap a vs) (h : Q .notImplemented s) : wpAny (model prog w) A (call (.builtin "int.__gt__") [.int i t, .ref a]) Q E s := by
  obtain ⟨n, e⟩ := hL
  exact call_meets F.slot_int_gt (typeIs_int s i t) F.entry_int_gt (F.args_int_gt_2 _ _) (m_int_gt i t a _ _ n _ _) ⟨e, h⟩
theorem list_lt_int {a : Addr} {vs : List Value} (hL : LI s.heap a vs) (h : Q .notImplemented s) : wpAny (model prog w) A (call (.builtin "list.__lt__") [.ref a, .int i t]) Q E s := by
  obtain ⟨n, e⟩ := id hL
  exact call_meets F.slot_list_lt hL.isList.typeIs F.entry_list_lt (F.args_list_lt_2 _ _) (m_list_lt a _ n _ _ i t) ⟨e, h⟩
theorem list_gt_int {a : Addr} {vs : List Value} (hL : LI s.heap a vs) (h : Q .notImplemented s) : wpAny (model prog w) A (call (.builtin "list.__gt__") [.ref a, .int i t]) Q E s := by
  obtain ⟨n, e⟩ := id hL
  exact call_meets F.slot_list_gt hL.isList.typeIs F.entry_list_gt (F.args_list_gt_2 _ _) (m_list_gt a _ n _ _ i t) ⟨e, h⟩
end

/-! comparing an int with a stranger -/
section
variable {c : Cx} {X : String → St → Prop} {st : St} {μ : Locals} {σ : AHeap}
/-- what is no int, but plain -/
inductive Strange (σ : AHeap) : PV → Prop
  | str (x : Str) (t : Tok) : Strange σ (.str x t)
  | none : Strange σ .none
  | list {a l} (h : seqAt σ a = some l) : Strange σ (.ref a)
theorem COk.room {lv A env ls} (ok : COk lv A env ls) : A.units < cLine := by
  obtain ⟨_, _, a, _⟩ := ok.ok
  have := a.units
  have e : cLine = 9900 := rfl
  omega
theorem lt_int_strange {i : Int} {p : PV} {Q : PV → St → Prop} (hcalm : c.lv.calm = true) (hp : Strange σ p) (h : X "TypeError" (μ, σ)) : W2 c VRep (.int i) p (compareOp .Lt) X Q (μ, σ) := fun v u hid stk s ok R hv hu => by
  obtain ⟨t, rfl⟩ := hv
  have fin : ∀ h' tk e, Heap.NewExc s.heap h' e "TypeError" → (∃ h'' tk' x, (Value.ref e) = .ref x ∧ ({ s with heap := h', toks := tk } : Shared) = { s with heap := h'', toks := tk' } ∧ Heap.NewExc s.heap h'' x "TypeError") := fun h' tk e hx => ⟨h', tk, e, rfl, rfl, hx⟩
  refine wp_new R (by decide) h ?_
  cases hp with
  | str x u' =>
    simp only [VRep] at hu; subst hu
    exact lt_raises (ok.handled hcalm) (typeIs_int s i t) (typeIs_str s x u') (by decide) (sub_no_int "str" (by simp)).1 F.slot_int_lt F.slot_str_gt_refl (by decide) (by decide) (fun _ => int_lt_str) (fun _ => str_gt_int) ok.room shown_small.1 shown_small.2.1 fin
  | none =>
    simp only [VRep] at hu; subst hu
    exact lt_raises (ok.handled hcalm) (typeIs_int s i t) (show s.TypeIs .none "NoneType" from rfl) (by decide) (sub_no_int "NoneType" (by simp)).1 F.slot_int_lt F.slot_NoneType_gt_refl (by decide) (by decide) (fun _ => int_lt_none) (fun _ => none_gt_int) ok.room shown_small.1 shown_small.2.2.1 fin
  | list hs =>
    simp only [VRep] at hu; subst hu
    obtain ⟨vs, hL, _⟩ := R.seq hs
    exact lt_raises (ok.handled hcalm) (typeIs_int s i t) hL.isList.typeIs (by decide) (sub_no_int "list" (by simp)).1 F.slot_int_lt F.slot_list_gt_refl (by decide) (by decide) (fun _ => int_lt_list hL) (fun _ => list_gt_int hL) ok.room shown_small.1 shown_small.2.2.2 fin
theorem lt_strange_int {i : Int} {p : PV} {Q : PV → St → Prop} (hcalm : c.lv.calm = true) (hp : Strange σ p) (h : X "TypeError" (μ, σ)) : W2 c VRep p (.int i) (compareOp .Lt) X Q (μ, σ) := fun u v hid stk s ok R hu hv => by
  obtain ⟨t, rfl⟩ := hv
  have fin : ∀ h' tk e, Heap.NewExc s.heap h' e "TypeError" → (∃ h'' tk' x, (Value.ref e) = .ref x ∧ ({ s with heap := h', toks := tk } : Shared) = { s with heap := h'', toks := tk' } ∧ Heap.NewExc s.heap h'' x "TypeError") := fun h' tk e hx => ⟨h', tk, e, rfl, rfl, hx⟩
  refine wp_new R (by decide) h ?_
  cases hp with
  | str x u' =>
    simp only [VRep] at hu; subst hu
    exact lt_raises (ok.handled hcalm) (typeIs_str s x u') (typeIs_int s i t) (by decide) (sub_no_int "str" (by simp)).2 F.slot_str_lt F.slot_int_gt_refl (by decide) (by decide) (fun _ => str_lt_int) (fun _ => int_gt_str) ok.room shown_small.2.1 shown_small.1 fin
  | none =>
    simp only [VRep] at hu; subst hu
    exact lt_raises (ok.handled hcalm) (show s.TypeIs .none "NoneType" from rfl) (typeIs_int s i t) (by decide) (sub_no_int "NoneType" (by simp)).2 F.slot_NoneType_lt F.slot_int_gt_refl (by decide) (by decide) (fun _ => none_lt_int) (fun _ => int_gt_none) ok.room shown_small.2.2.1 shown_small.1 fin
  | list hs =>
    simp only [VRep] at hu; subst hu
    obtain ⟨vs, hL, _⟩ := R.seq hs
    exact lt_raises (ok.handled hcalm) hL.isList.typeIs (typeIs_int s i t) (by decide) (sub_no_int "list" (by simp)).2 F.slot_list_lt F.slot_int_gt_refl (by decide) (by decide) (fun _ => list_lt_int hL) (fun _ => int_gt_list hL) ok.room shown_small.2.2.2 shown_small.1 fin
end
end Mine
end
section
open PySem PySem.W PyProof.Rows
set_option Elab.async false
set_option linter.unusedVariables false
set_option maxRecDepth 10000
namespace Mine

section
variable {c : Cx} {X : String → St → Prop} {st : St} {μ : Locals} {σ : AHeap}

theorem bin_floordiv {i j : Int} {Q : PV → St → Prop} (h0 : j ≠ 0) (hj : j.natAbs < 1073741824) (h : Q (.int (i.fdiv j)) st) : W2 c VRep (.int i) (.int j) (binaryOp .FloorDiv) X Q st :=
  W2_ints (fun q => PyProof.Rows.floordiv_int h0 q (.inl (PyProof.noPylong_small hj))) h

/-! or as a value -/
def orV (c : Cx) (l : List Expr) (pos : Pos) (p : PV) (X : String → St → Prop) (Q : PV → St → Prop) (b : Bool) (st : St) : Prop := if b then Q p st else WE c (.BoolOp .Or l pos) X Q st
theorem orV_dec {l pos p} {Q : PV → St → Prop} {b : Bool} (h1 : b = true → Q p st) (h2 : b = false → WE c (.BoolOp .Or l pos) X Q st) : orV c l pos p X Q b st := by
  cases b
  · exact h2 rfl
  · exact h1 rfl
theorem E_Or {e₁ e₂ rest pos} {Q : PV → St → Prop} (h : WE c e₁ X (fun p st₁ => W1 c BoolRep p truthy X (orV c (e₂ :: rest) pos p X Q) st₁) st) : WE c (.BoolOp .Or (e₁ :: e₂ :: rest) pos) X Q st := fun hid stk s ok R =>
  BoolOp_or (wpAny_mono (h hid stk s ok R) (fun v s₁ ⟨p, st₁, R₁, hv, k₁, h₁⟩ => wpAny_mono (h₁ v hid stk s₁ ok R₁ hv) (fun b s₂ ⟨b', st₂, R₂, hb, k₂, h₂⟩ => by
    cases hb
    cases b
    · rw [if_neg (by decide)]
      exact wpAny_mono (h₂ hid stk s₂ ok R₂) (fun _ _ y => y.keeps (k₁.trans k₂)) fun _ _ y => y
    · rw [if_pos rfl]
      exact ⟨p, st₂, R₂, hv.mono k₂, k₁.trans k₂, h₂⟩) fun _ _ y => y) fun _ _ y => y)
theorem E_Or1 {e pos} {Q : PV → St → Prop} (h : WE c e X Q st) : WE c (.BoolOp .Or [e] pos) X Q st := fun hid stk s ok R => BoolOp_one (h hid stk s ok R)
/-! slices of lists -/
abbrev WPart (c : Cx) (x : Option Expr) (X : String → St → Prop) (Q : PV → St → Prop) (st : St) : Prop := WT c VRep (evalPart x c.env) X Q st
theorem Part_none {Q : PV → St → Prop} (h : Q .none st) : WPart c none X Q st := fun hid stk s ok R => wpAny_pure (a := Value.none) ⟨.none, st, R, rfl, .refl _, h⟩
theorem Part_some {e} {Q : PV → St → Prop} (h : WE c e X Q st) : WPart c (some e) X Q st := fun hid stk s ok R => h hid stk s ok R
def SliceI (c : Cx) (p lo hi : PV) (X : String → St → Prop) (Q : PV → St → Prop) (st : St) : Prop :=
  ∀ v l u hid stk s, COk c.lv c.A c.env (stk.map (·.1)) → Rep c.base c.os hid ((c.env.locals, st.1) :: stk) st.2 s → VRep s.heap p v → VRep s.heap lo l → VRep s.heap hi u →
    (∃ T id, s.TypeIs v T ∧ typeLookup (.type T) "__getitem__" = pure (some (.builtin id))) ∧
    ∀ sl, s.heap.IsSliceOf sl l u .none → wpAny c.M c.A (getItem v (.ref sl)) (Post c VRep Q hid stk s.heap) (PostX c X hid stk) s
theorem E_Slice {value lower upper p pos} {Q : PV → St → Prop} (h : WE c value X (fun pv st₁ => WPart c lower X (fun lo st₂ => WPart c upper X (fun hi st₃ => SliceI c pv lo hi X Q st₃) st₂) st₁) st) :
    WE c (.Subscript value (.Slice lower upper none p) pos) X Q st := fun hid stk s ok R => by
  show wpAny _ _ (do
    let o ← eval value c.env
    let i ← holding [o] (eval (.Slice lower upper none p) c.env)
    standAt pos
    let r ← subscripted (.Slice lower upper none p) (← getitemInPython o) o i
    letTemporaryGo value o r
    pure r) _ _ s
  refine wpAny_bind (wpAny_mono (h hid stk s ok R) (fun v s₁ hp => ?_) fun _ _ y => y)
  obtain ⟨pv, st₁, R₁, hv, k₁, h₁⟩ := hp
  refine wpAny_bind (wpAny_holding (wpAny_Slice (wpAny_mono (h₁ hid stk s₁ ok R₁) (fun lo s₂ hq => ?_) fun _ _ y => y)))
  obtain ⟨plo, st₂, R₂, hlo, k₂, h₂⟩ := hq
  refine wpAny_mono (h₂ hid stk s₂ ok R₂) (fun hi s₃ hq => ?_) fun _ _ y => y
  obtain ⟨phi, st₃, R₃, hhi, k₃, h₃⟩ := hq
  refine wpAny_pure (a := Value.none) (wpAny_bind (wpAny_standAt ?_))
  have R₄ := R₃.grow (s' := { s₃ with heap := s₃.heap.push { cls := .type "slice", data := .fields #[lo, hi, .none] } }) (fun _ _ e => Heap.get?_push_of_some _ e) rfl rfl
  have k₄ := Keeps.push s₃.heap { cls := .type "slice", data := .fields #[lo, hi, .none] }
  obtain ⟨⟨T, id, hT, hl⟩, hg⟩ := h₃ v lo hi hid stk _ ok R₄ (hv.mono ((k₂.trans k₃).trans k₄)) (hlo.mono (k₃.trans k₄)) (hhi.mono k₄)
  exact tail_any (value := value) (slice := .Slice lower upper none p) (ops := [.ref s₃.heap.objs.size, v]) hT hl (wpAny_mono (hg _ (Heap.IsSliceOf.new s₃.heap lo hi .none)) (fun _ _ y => y.keeps (((k₁.trans k₂).trans k₃).trans k₄)) fun _ _ y => y) rfl

theorem slice_list {a : Addr} {l l' : List PV} {lo hi : PV} {lo' hi' : Option Int} {Q : PV → St → Prop} (hs : seqAt σ a = some l) (hz : l.length ≤ 16777216)
    (hlo : ∀ h v, VRep h lo v → IsPart v lo') (hhi : ∀ h v, VRep h hi v → IsPart v hi') (hp : ∀ h vs, VReps h l vs → ∃ ws : List Value, slicePick vs.toArray lo' hi' none = ws.toArray ∧ VReps h l' ws)
    (h : ∀ b, σ b = none → Q (.ref b) (μ, σ.set b (.list l'))) : SliceI c (.ref a) lo hi X Q (μ, σ) := fun v vl vu hid stk s ok R hv hl hu => by
  simp only [VRep] at hv; subst hv
  obtain ⟨vs, hL, hvs⟩ := R.seq hs
  have e1 := hvs.length
  obtain ⟨ws, hw, hws⟩ := hp _ _ hvs
  refine ⟨⟨"list", _, hL.isList.typeIs, slot_list_getitem.lookup⟩, fun sl hsl => ?_⟩
  refine wpAny_getItem_list_slice hL.isList hsl (hlo _ _ hl) (hhi _ _ hu) .none (by simp) ?_ (by rw [sizeLine_eq]; simp; omega)
  rw [hw]
  exact ⟨.ref s.heap.objs.size, (μ, σ.set s.heap.objs.size (.list l')), R.newList hws, rfl, Keeps.push _ _, h _ R.fresh_σ⟩
theorem isPart_none : ∀ (h : Heap) v, VRep h .none v → IsPart v none := fun h v e => by simp only [VRep] at e; subst e; exact .none
theorem isPart_int (i : Int) : ∀ (h : Heap) v, VRep h (.int i) v → IsPart v (some i) := fun h v e => by obtain ⟨t, rfl⟩ := e; exact .int _ _
theorem slice_from {a : Addr} {l : List PV} {n : Nat} {Q : PV → St → Prop} (hs : seqAt σ a = some l) (hz : l.length ≤ 16777216) (h : ∀ b, σ b = none → Q (.ref b) (μ, σ.set b (.list (l.drop n)))) : SliceI c (.ref a) (.int n) .none X Q (μ, σ) :=
  slice_list hs hz (isPart_int _) isPart_none (fun h vs hv => ⟨vs.drop n, by rw [slicePick_from'], hv.drop n⟩) h
theorem slice_upto {a : Addr} {l : List PV} {n : Nat} {Q : PV → St → Prop} (hs : seqAt σ a = some l) (hz : l.length ≤ 16777216) (h : ∀ b, σ b = none → Q (.ref b) (μ, σ.set b (.list (l.take n)))) : SliceI c (.ref a) .none (.int n) X Q (μ, σ) :=
  slice_list hs hz isPart_none (isPart_int _) (fun h vs hv => ⟨vs.take n, by rw [slicePick_upto'], hv.take n⟩) h
/-! is -/
theorem is_none {p : PV} {Q : PV → St → Prop} (hb : ∀ x, p ≠ .bi x) (h : Q (.bool (match p with | .none => true | _ => false)) st) : W2 c VRep p .none (compareOp .Is) X Q st := fun v u hid stk s ok R hv hu => by
  simp only [VRep] at hu; subst hu
  cases p with
  | none => simp only [VRep] at hv; subst hv; exact wpAny_is_self rfl ⟨.bool true, st, R, rfl, .refl _, h⟩
  | bool b => simp only [VRep] at hv; subst hv; exact wpAny_is_other rfl (by simp) ⟨.bool false, st, R, rfl, .refl _, h⟩
  | int i => obtain ⟨t, rfl⟩ := hv; exact wpAny_is_other rfl (by simp) ⟨.bool false, st, R, rfl, .refl _, h⟩
  | str x t => simp only [VRep] at hv; subst hv; exact wpAny_is_other rfl (by simp) ⟨.bool false, st, R, rfl, .refl _, h⟩
  | ref a => simp only [VRep] at hv; subst hv; exact wpAny_is_other rfl (by simp) ⟨.bool false, st, R, rfl, .refl _, h⟩
  | ty x => simp only [VRep] at hv; subst hv; exact wpAny_is_other rfl (by simp) ⟨.bool false, st, R, rfl, .refl _, h⟩
  | bi x => exact absurd rfl (hb x)
  | tup l => simp only [VRep] at hv; obtain ⟨a, vs, rfl, _⟩ := hv; exact wpAny_is_other rfl (by simp) ⟨.bool false, st, R, rfl, .refl _, h⟩
theorem is_self {a : Addr} {Q : PV → St → Prop} (h : Q (.bool true) st) : W2 c VRep (.ref a) (.ref a) (compareOp .Is) X Q st := fun v u hid stk s ok R hv hu => by
  simp only [VRep] at hv hu; subst hv hu
  exact wpAny_is_ref_self ⟨.bool true, st, R, rfl, .refl _, h⟩
theorem is_int_strange {i : Int} {p : PV} {Q : PV → St → Prop} (hp : Strange σ p) (h : Q (.bool false) (μ, σ)) : W2 c VRep (.int i) p (compareOp .Is) X Q (μ, σ) := fun v u hid stk s ok R hv hu => by
  obtain ⟨t, rfl⟩ := hv
  cases hp with
  | str x t' => simp only [VRep] at hu; subst hu; exact wpAny_is_other rfl (by simp) ⟨.bool false, _, R, rfl, .refl _, h⟩
  | none => simp only [VRep] at hu; subst hu; exact wpAny_is_other rfl (by simp) ⟨.bool false, _, R, rfl, .refl _, h⟩
  | list hs => simp only [VRep] at hu; subst hu; exact wpAny_is_other rfl (by simp) ⟨.bool false, _, R, rfl, .refl _, h⟩
end
end Mine
end
section
open PySem PySem.W PyProof.Rows
set_option Elab.async false
set_option linter.unusedVariables false
set_option maxRecDepth 10000
namespace Mine

section
variable {c : Cx} {X : String → St → Prop} {st : St} {μ : Locals} {σ : AHeap}

/-- the same where going through changes what is told of the state -/
def ItOk' (c : Cx) (target : Expr) (p : PV) (st st' : St) (items : List PV) (P : AHeap → Prop) : Prop :=
  ∀ v hid stk s E Q, COk c.lv c.A c.env (stk.map (·.1)) → Rep c.base c.os hid ((c.env.locals, st.1) :: stk) st.2 s → VRep s.heap p v →
    (∀ it Sk KP hs s', IterAt c.toGx target it Sk KP P items → Sk 0 hs → KP s'.heap → Rep c.base c.os (hs ++ hid) ((c.env.locals, st'.1) :: stk) st'.2 s' → Keeps s.heap s'.heap → Q (.ref it) s') → wpAny c.M c.A (pyIter v) Q E s
theorem WI_of' {target iter} {Q : List PV → (AHeap → Prop) → St → Prop} (h : WE c iter X (fun p st₁ => ∃ items P st₂, ItOk' c target p st₁ st₂ items P ∧ Q items P st₂) st) : WI c target iter X Q st := fun hid stk s ok R => by
  refine wpAny_mono (h hid stk s ok R) (fun v s₁ hp => ?_) fun _ _ y => y
  obtain ⟨p, st₁, R₁, hv, k₁, items, P, st₂, hit, q⟩ := hp
  exact hit v hid stk s₁ _ _ ok R₁ hv fun it Sk KP hs s₂ IT hS0 hK0 R₂ k₂ => ⟨it, Sk, KP, hs, items, P, st₂, rfl, IT, hS0, hK0, R₂, k₁.trans k₂, q⟩

def enumObj (it : Addr) (i : Int) (old : Value) : Obj := { cls := .type "enumerate", dict := none, data := .fields #[.none, .bool false, .ref it, rawInt i, .none, old], slots := #[] }
def enumOut (it : Addr) (i : Int) (item : Value) (a : Addr) : Obj := { cls := .type "enumerate", dict := none, data := .fields #[rawInt a, .bool false, .ref it, rawInt i, .none, item], slots := #[] }
/-- numbered items -/
def enumL (l : List PV) : List PV := (List.range l.length).map fun (k : Nat) => PV.tup [.int (k : Int), l.getD k .none]
theorem enumL_get {l : List PV} {k : Nat} {p : PV} (h : (enumL l)[k]? = some p) : ∃ q, l[k]? = some q ∧ p = .tup [.int (k : Int), q] := by
  simp only [enumL, List.getElem?_map] at h
  cases q : (List.range l.length)[k]? with
  | none => rw [q] at h; cases h
  | some j =>
    rw [q] at h
    obtain ⟨h1, h2⟩ := List.getElem?_eq_some_iff.mp q
    simp at h1 h2
    subst h2
    refine ⟨l[k], List.getElem?_eq_getElem h1, ?_⟩
    have := (Option.some.inj h).symm
    rw [this]; show PV.tup [PV.int ↑k, l.getD k PV.none] = _
    rw [List.getD_eq_getElem?_getD, List.getElem?_eq_getElem h1]; rfl
@[simp] theorem enumL_length (l : List PV) : (enumL l).length = l.length := by simp [enumL]

theorem iter_enum {G : Gx} {elts k pos} (e it a : Addr) (hne : e ≠ it) (l : List PV) : IterAt G (.Tuple elts k pos) e (fun k hs => ∃ old oi, hs = [(e, enumObj it k old), (it, oi)] ∧ IsLIt a k oi) (fun _ => True) (fun σ => seqAt σ a = some l) (enumL l) where
  mono := fun _ _ _ _ => trivial
  next := fun k p hp A hid stk σ s hs E Q hh hsk _ hσ R hQ => by
    obtain ⟨old, oi, rfl, hc, hd⟩ := hsk
    obtain ⟨q, hq, rfl⟩ := enumL_get hp
    obtain ⟨vs, hL, hvs⟩ := R.seq hσ
    obtain ⟨v, hv, hr⟩ := hvs.get _ _ hq
    have ho := (R.hid (e, enumObj it k old) (by simp)).1
    have hoi := (R.hid (it, oi) (by simp)).1
    refine wpAny_pyNext_enum_item ho ⟨_, hoi, hc, hd⟩ hL.isList (by simpa using hv) hne fun h' he' hi' ht' hsz hold => ?_
    obtain ⟨oi', hoi', hc', hd'⟩ := hi'
    have hcl : ∀ p ∈ [(e, enumObj it k old), (it, oi)], p.2.cls ≠ .type "tuple" := fun p hp => by
      simp at hp; rcases hp with rfl | rfl
      · show Value.type "enumerate" ≠ Value.type "tuple"; decide
      · show oi.cls ≠ _; rw [hc]; decide
    obtain ⟨R', kp⟩ := R.hidChange (hs := [(e, enumObj it k old), (it, oi)]) (hid := hid) (hs' := [(e, enumOut it ((k : Int) + 1) v s.heap.objs.size), (it, oi')]) (tk := s.toks + 1) (h' := h') rfl
      (fun q hq => by
        simp at hq; rcases hq with rfl | rfl
        · exact ⟨he', by show Value.type "enumerate" ≠ Value.type "tuple"; decide⟩
        · exact ⟨hoi', by show oi'.cls ≠ _; rw [hc']; decide⟩)
      (fun b ob hb e1 => hold b ob (fun q => hb (by simp [q])) (fun q => hb (by simp [q])) e1) hcl
    refine hQ (.ref s.heap.objs.size) _ (fun Q' E' A' hq => ?_) ?_ kp
    · refine wpAny_letOwnedTupleGo_enum he' fun h'' he'' hs'' => ?_
      have hcl' : ∀ p ∈ [(e, enumOut it ((k : Int) + 1) v s.heap.objs.size), (it, oi')], p.2.cls ≠ .type "tuple" := fun p hp => by
        simp at hp; rcases hp with rfl | rfl
        · show Value.type "enumerate" ≠ Value.type "tuple"; decide
        · show oi'.cls ≠ _; rw [hc']; decide
      obtain ⟨R'', kp'⟩ := R'.hidChange (hs := [(e, enumOut it ((k : Int) + 1) v s.heap.objs.size), (it, oi')]) (hid := hid) (hs' := [(e, enumObj it ((k : Int) + 1) v), (it, oi')]) (tk := s.toks + 1) (h' := h'') rfl
        (fun q hq => by
          simp at hq; rcases hq with rfl | rfl
          · exact ⟨he'', by show Value.type "enumerate" ≠ Value.type "tuple"; decide⟩
          · exact ⟨(hs''.2 it (Ne.symm hne)).trans hoi', by show oi'.cls ≠ _; rw [hc']; decide⟩)
        (fun b ob hb e1 => (hs''.2 b (fun q => hb (by simp [q]))).trans e1) hcl'
      exact hq _ _ ⟨v, oi', rfl, hc', by simpa using hd'⟩ R'' kp'
    · simp only [VRep]
      exact ⟨s.heap.objs.size, [.int k s.toks, v], rfl, ⟨_, ht'⟩, .cons (p := .int k) ⟨_, rfl⟩ (.cons (hr.mono kp) .nil)⟩
  stop := fun A hid stk σ s hs E Q hh hsk _ hσ R hQ => by
    obtain ⟨old, oi, rfl, hc, hd⟩ := hsk
    obtain ⟨vs, hL, hvs⟩ := R.seq hσ
    rw [enumL_length] at hd
    have ho := (R.hid (e, enumObj it (enumL l).length old) (by simp)).1
    rw [enumL_length] at ho
    have hoi := (R.hid (it, oi) (by simp)).1
    refine wpAny_pyNext_enum_end hh ho ⟨_, hoi, hc, hd⟩ hL.isList (by simp [hvs.length]) fun h' he => ?_
    obtain ⟨R', k⟩ := R.hidForget (tk := s.toks) (h' := h') (hs := [(e, enumObj it (enumL l).length old), (it, oi)]) (hid := hid) (fun b o hb e1 => he b o (fun q => hb (by simp [q])) e1) (fun p hp => by
      simp at hp; rcases hp with rfl | rfl
      · show Value.type "enumerate" ≠ Value.type "tuple"; decide
      · show oi.cls ≠ _; rw [hc]; decide)
    exact hQ _ R' k
  self := fun k A hid stk σ s hs E Q hsk R hQ => by
    obtain ⟨old, oi, rfl, hc, hd⟩ := hsk
    have ho := (R.hid (e, enumObj it k old) (by simp)).1
    exact wpAny_pyIter_enum ho hQ

theorem call_enum {a : Addr} {l : List PV} {Q : PV → St → Prop} (hs : seqAt σ a = some l) (h : ∀ e it oi, IsLIt a 0 oi → e ≠ it → a ≠ e → a ≠ it → σ e = none → σ it = none → Q (.ref e) (μ, (σ.set it (.raw oi)).set e (.raw (enumObj it 0 .none)))) :
    WN c VRep [.ref a] (fun vs => call (.type "enumerate") vs) X Q (μ, σ) := fun vs hid stk s ok R hv => by
  obtain ⟨v1, r1, rfl, h1, hv⟩ := hv.cons_inv
  rw [hv.nil_inv]
  simp only [VRep] at h1; subst h1
  obtain ⟨ws, hL, hws⟩ := R.seq hs
  refine call_enumerate_list hL.isList fun h' he hi hsz hold => ?_
  obtain ⟨oi, hoi, hc, hd⟩ := hi
  have hne : s.heap.objs.size + 1 ≠ s.heap.objs.size := Nat.succ_ne_self _
  have hlt : ∀ b ob, s.heap.get? b = some ob → b ≠ s.heap.objs.size + 1 := fun b ob q => Nat.ne_of_lt (Nat.lt_succ_of_lt (Heap.lt_size q))
  have hσ : σ (s.heap.objs.size + 1) = none := by
    cases q : σ (s.heap.objs.size + 1) with
    | none => rfl
    | some o => exact absurd (R.heap _ _ q).lt (Nat.not_lt.mpr (Nat.le_succ _))
  have hb : c.base.get? (s.heap.objs.size + 1) = none := by
    cases q : c.base.get? (s.heap.objs.size + 1) with
    | none => rfl
    | some o => exact absurd rfl (hlt _ _ (R.stays _ _ q))
  have k : Keeps s.heap h' := fun b vs ⟨n, e⟩ => ⟨n, hold _ _ e⟩
  have R1 : Rep c.base c.os hid ((c.env.locals, μ) :: stk) (σ.set s.heap.objs.size (.raw oi)) { s with heap := h' } :=
    R.put (s' := { s with heap := h' }) (fun b ob _ e => hold b ob e) (fun vs ⟨_, h1⟩ => absurd (Heap.lt_size h1) (Nat.lt_irrefl _)) R.fresh_base R.fresh_hid R.fresh_stk ⟨R.fresh_base, hoi, by rw [hc]; decide⟩ rfl rfl
  have R2 : Rep c.base c.os hid ((c.env.locals, μ) :: stk) ((σ.set s.heap.objs.size (.raw oi)).set (s.heap.objs.size + 1) (.raw (enumObj s.heap.objs.size 0 .none))) { s with heap := h' } :=
    R1.put (s' := { s with heap := h' }) (fun b ob _ e => e) (fun vs ⟨_, h1⟩ => by have := he.symm.trans h1; simp at this) hb (fun p hp => hlt _ _ (R.hid p hp).1) (fun f hf => Nat.ne_of_lt (Nat.lt_succ_of_lt (R.frames f hf).1.lt)) ⟨hb, he, by show Value.type "enumerate" ≠ Value.type "tuple"; decide⟩ rfl rfl
  obtain ⟨n, ha⟩ := hL
  exact ⟨.ref (s.heap.objs.size + 1), (μ, _), R2, rfl, k, h _ _ oi ⟨hc, hd⟩ hne (hlt _ _ ha) (Nat.ne_of_lt (Heap.lt_size ha)) hσ R.fresh_σ⟩

/-- what is told no more -/
def AHeap.less (σ : AHeap) (a b : Addr) : AHeap := fun x => if x = a ∨ x = b then none else σ x
theorem AHeap.less_sub (σ : AHeap) (a b : Addr) : (σ.less a b).Sub σ := fun x o e => by
  unfold AHeap.less at e
  split at e
  · cases e
  · exact e
theorem it_enum {elts k pos} {e it a : Addr} {oi : Obj} {l : List PV} (hoi : IsLIt a 0 oi) (hne : e ≠ it) (he : σ e = some (.raw (enumObj it 0 .none))) (hi : σ it = some (.raw oi)) :
    ItOk' c (.Tuple elts k pos) (.ref e) (μ, σ) (μ, σ.less e it) (enumL l) (fun σ => seqAt σ a = some l) := fun v hid stk s E Q ok R hv hQ => by
  simp only [VRep] at hv; subst hv
  obtain ⟨hb1, ho1, hc1⟩ := R.heap _ _ he
  obtain ⟨hb2, ho2, hc2⟩ := R.heap _ _ hi
  refine wpAny_pyIter_enum ho1 (hQ e _ _ [(e, enumObj it 0 .none), (it, oi)] s (iter_enum e it a hne l) ⟨.none, oi, rfl, hoi⟩ trivial ?_ (.refl _))
  have R' := R.weaken (AHeap.less_sub σ e it)
  refine ⟨R'.stays, R'.gens, R'.os, fun p hp => ?_, R'.frames, R'.nodup, ?_, R'.heap, R'.tk⟩
  · simp only [List.cons_append, List.nil_append, List.mem_cons] at hp
    rcases hp with rfl | rfl | hp
    · exact ⟨ho1, hb1, by simp [AHeap.less], fun q => by obtain ⟨f, hf, e'⟩ := List.mem_map.mp q; exact R.stk_ne he f hf e', trivial⟩
    · exact ⟨ho2, hb2, by simp [AHeap.less], fun q => by obtain ⟨f, hf, e'⟩ := List.mem_map.mp q; exact R.stk_ne hi f hf e', trivial⟩
    · exact R'.hid p hp
  · simp only [List.cons_append, List.nil_append, List.map_cons, List.nodup_cons, List.mem_cons, not_or]
    exact ⟨⟨hne, fun q => by obtain ⟨p, hp, e'⟩ := List.mem_map.mp q; exact R.hid_ne he p hp e'⟩, fun q => by obtain ⟨p, hp, e'⟩ := List.mem_map.mp q; exact R.hid_ne hi p hp e', R.hnd⟩

/-! is, over strs -/
theorem is_str {x : Str} {t : Tok} {Q : PV → St → Prop} (ht : t ≠ 0) (h : Q (.bool true) st) : W2 c VRep (.str x t) (.str x t) (compareOp .Is) X Q st := fun v u hid stk s ok R hv hu => by
  simp only [VRep] at hv hu; subst hv hu
  show wpAny _ _ (do return Value.bool (← isSame (.str x t) (.str x t))) _ _ s
  refine wpAny_bind ?_
  show wpAny _ _ (isSame.created (x == x) t t) _ _ s
  unfold isSame.created
  have h0 : (t == 0 || t == 0) = false := by simp [ht]
  rw [h0]
  simp only [Bool.false_eq_true, if_false, beq_self_eq_true, if_true]
  exact wpAny_pure (wpAny_pure ⟨.bool true, st, R, rfl, .refl _, h⟩)

/-! an item as a target -/
theorem Asg_Sub {o i pos} {p : PV} {Q : St → Prop} (h : WE c o X (fun po st₂ => WE c i X (fun pi st₃ => W3 c UnitRep po pi p (fun o i v => setItem o i v) X (fun _ st₄ => Q st₄) st₃) st₂) st) : WAsg c (.Subscript o i pos) p X Q st := fun v hid stk s ok R hv => by
  show wpAny _ _ (assign (.Subscript o i pos) c.env v) _ _ s
  rw [arm_assign_Subscript]
  refine wpAny_bind (wpAny_holding (wpAny_mono (h hid stk s ok R) (fun vo s₂ hp => ?_) fun _ _ y => y))
  obtain ⟨po, st₂, R₂, hvo, k₂, h₂⟩ := hp
  refine wpAny_bind (wpAny_holding (wpAny_mono (h₂ hid stk s₂ ok R₂) (fun vi s₃ hp => ?_) fun _ _ y => y))
  obtain ⟨pi, st₃, R₃, hvi, k₃, h₃⟩ := hp
  refine wpAny_bind (wpAny_standAt (wpAny_bind (wpAny_holding (wpAny_mono (h₃ vo vi v hid stk s₃ ok R₃ (hvo.mono k₃) hvi (hv.mono (k₂.trans k₃))) (fun _ s₄ hq => ?_) fun _ _ y => y))))
  obtain ⟨_, st₄, R₄, _, k₄, q⟩ := hq
  exact wpAny_release ⟨(), st₄, R₄, trivial, (k₂.trans k₃).trans k₄, q⟩
end
end Mine
open PySem.SeqAt in
theorem Mine.eq_int_strange {c : Mine.Cx} {X : String → Mine.St → Prop} {μ : Mine.Locals} {σ : Mine.AHeap} {i : Int} {p : Mine.PV} {Q : Mine.PV → Mine.St → Prop} (hp : Mine.Strange σ p) (h : Q (.bool false) (μ, σ)) : Mine.W2 c Mine.VRep (.int i) p (compareOp .Eq) X Q (μ, σ) := fun v u hid stk s ok R hv hu => by
  obtain ⟨t, rfl⟩ := hv
  cases hp with
  | str x t' => simp only [Mine.VRep] at hu; subst hu; exact RcAt.int_str (A := c.A) _ _ _ _ c.prog c.w _ _ ⟨.bool false, (μ, σ), R, rfl, .refl _, h⟩
  | none => simp only [Mine.VRep] at hu; subst hu; exact RcAt.int_none (A := c.A) _ _ c.prog c.w _ _ ⟨.bool false, (μ, σ), R, rfl, .refl _, h⟩
  | list hs =>
    simp only [Mine.VRep] at hu; subst hu
    obtain ⟨vs, hL, _⟩ := R.seq hs
    exact RcAt.int_list (A := c.A) _ _ hL.isList ok.room c.prog c.w _ _ ⟨.bool false, (μ, σ), R, rfl, .refl _, h⟩
end
section
set_option Elab.async false
set_option linter.unusedVariables false
namespace Mine

/-! heaps, plainly -/
section
variable {α β : Type}
def sdnB (lt : α → α → Bool) (d x : α) (pos : Nat) (l : List α) : List α :=
  if h : pos > 0 then
    if lt x (l.getD ((pos - 1) / 2) d) then sdnB lt d x ((pos - 1) / 2) (l.set pos (l.getD ((pos - 1) / 2) d)) else l.set pos x
  else l.set pos x
termination_by pos
decreasing_by omega

def supB (lt : α → α → Bool) (d : α) (pos : Nat) (l : List α) : Nat × List α :=
  if h : 2 * pos + 1 < l.length then
    if 2 * pos + 2 < l.length ∧ lt (l.getD (2 * pos + 1) d) (l.getD (2 * pos + 2) d) = false then supB lt d (2 * pos + 2) (l.set pos (l.getD (2 * pos + 2) d))
    else supB lt d (2 * pos + 1) (l.set pos (l.getD (2 * pos + 1) d))
  else (pos, l)
termination_by l.length - pos
decreasing_by all_goals simp only [List.length_set]; omega

/-- sifted up from the top, x being there -/
def topB (lt : α → α → Bool) (d x : α) (l : List α) : List α := let r := supB lt d 0 l; sdnB lt d x r.1 (r.2.set r.1 x)

structure LtTot (lt : α → α → Bool) : Prop where
  asym : ∀ a b, lt a b = true → lt b a = false
  ntrans : ∀ a b c, lt a b = false → lt b c = false → lt a c = false
theorem LtTot.left {lt : α → α → Bool} (h : LtTot lt) {a b c : α} (h1 : lt a b = true) (h2 : lt c b = false) : lt c a = false := by
  cases q : lt c a with
  | false => rfl
  | true =>
    -- c < a < b
    have := h.ntrans c b a h2 (h.asym _ _ h1)
    rw [q] at this; cases this
theorem ltI_tot : LtTot (fun a b : Int => decide (a < b)) := ⟨fun a b h => by simp at *; omega, fun a b c h1 h2 => by simp at *; omega⟩

def IsHeap (lt : α → α → Bool) (d : α) (l : List α) : Prop := ∀ k, 0 < k → k < l.length → lt (l.getD k d) (l.getD ((k - 1) / 2) d) = false

theorem getD_set_same {l : List α} {i : Nat} {x d : α} (h : i < l.length) : (l.set i x).getD i d = x := by simp [List.getD_eq_getElem?_getD, h]
theorem getD_set_ne {l : List α} {i j : Nat} {x d : α} (h : i ≠ j) : (l.set i x).getD j d = l.getD j d := by simp [List.getD_eq_getElem?_getD, List.getElem?_set_ne h]

@[simp] theorem supB_length (lt : α → α → Bool) (d : α) (pos : Nat) (l : List α) : (supB lt d pos l).2.length = l.length := by
  fun_induction supB lt d pos l <;> simp_all
theorem supB_lt {lt : α → α → Bool} {d : α} {pos : Nat} {l : List α} (h : pos < l.length) : (supB lt d pos l).1 < l.length := by
  fun_induction supB lt d pos l with
  | case1 pos l h1 h2 ih => have := ih (by simp; omega); simpa using this
  | case2 pos l h1 h2 ih => have := ih (by simp; omega); simpa using this
  | case3 pos l h1 => exact h
theorem supB_leaf {lt : α → α → Bool} {d : α} {pos : Nat} {l : List α} : l.length ≤ 2 * (supB lt d pos l).1 + 1 := by
  fun_induction supB lt d pos l with
  | case1 pos l h1 h2 ih => simpa using ih
  | case2 pos l h1 h2 ih => simpa using ih
  | case3 pos l h1 => simp; omega

/-- but for the hole at pos -/
structure Hole (lt : α → α → Bool) (d : α) (pos : Nat) (l : List α) : Prop where
  else_ : ∀ k, 0 < k → k < l.length → k ≠ pos → (k - 1) / 2 ≠ pos → lt (l.getD k d) (l.getD ((k - 1) / 2) d) = false
  over : 0 < pos → ∀ k, 0 < k → k < l.length → (k - 1) / 2 = pos → lt (l.getD k d) (l.getD ((pos - 1) / 2) d) = false

theorem sdnB_heap {lt : α → α → Bool} (ht : LtTot lt) {d x : α} {pos : Nat} {l : List α} (hp : pos < l.length) (H : Hole lt d pos l) (hx : ∀ k, 0 < k → k < l.length → (k - 1) / 2 = pos → lt (l.getD k d) x = false) :
    IsHeap lt d (sdnB lt d x pos l) := by
  fun_induction sdnB lt d x pos l with
  | case1 pos l h1 h2 ih =>
    have hq : (pos - 1) / 2 < pos := by omega
    refine ih (by simp; omega) ⟨fun k k0 kl kq kp => ?_, fun q0 k k0 kl kp => ?_⟩ fun k k0 kl kp => ?_
    · simp only [List.length_set] at kl
      by_cases e : (k - 1) / 2 = pos
      · have hk : pos ≠ k := by omega
        rw [getD_set_ne hk, e, getD_set_same hp]
        exact H.over h1 k k0 kl e
      · by_cases e2 : k = pos
        · subst e2; exact absurd rfl kp
        · rw [getD_set_ne (Ne.symm e2), getD_set_ne (Ne.symm e)]
          exact H.else_ k k0 kl e2 e
    · simp only [List.length_set] at kl
      have hg : ((pos - 1) / 2 - 1) / 2 ≠ pos := by omega
      rw [getD_set_ne (Ne.symm hg)]
      have up := H.else_ ((pos - 1) / 2) q0 (by omega) (by omega) hg
      by_cases e2 : k = pos
      · subst e2; rw [getD_set_same hp]; exact up
      · rw [getD_set_ne (Ne.symm e2)]
        refine ht.ntrans _ _ _ ?_ up
        have := H.else_ k k0 kl e2 (by omega)
        rwa [kp] at this
    · simp only [List.length_set] at kl
      by_cases e2 : k = pos
      · subst e2; rw [getD_set_same hp]; exact ht.asym _ _ h2
      · rw [getD_set_ne (Ne.symm e2)]
        have := H.else_ k k0 kl e2 (by omega)
        rw [kp] at this
        exact ht.left h2 this
  | case2 pos l h1 h2 =>
    intro k k0 kl
    simp only [List.length_set] at kl
    by_cases e : k = pos
    · subst e
      have : (k - 1) / 2 ≠ k := by omega
      rw [getD_set_same hp, getD_set_ne (Ne.symm this)]
      simpa using h2
    · rw [getD_set_ne (Ne.symm e)]
      by_cases e2 : (k - 1) / 2 = pos
      · rw [e2, getD_set_same hp]; exact hx k k0 kl e2
      · rw [getD_set_ne (Ne.symm e2)]; exact H.else_ k k0 kl e e2
  | case3 pos l h1 =>
    intro k k0 kl
    simp only [List.length_set] at kl
    have e : k ≠ pos := by omega
    rw [getD_set_ne (Ne.symm e)]
    by_cases e2 : (k - 1) / 2 = pos
    · rw [e2, getD_set_same hp]; exact hx k k0 kl e2
    · rw [getD_set_ne (Ne.symm e2)]; exact H.else_ k k0 kl e e2

theorem supB_hole {lt : α → α → Bool} (ht : LtTot lt) {d : α} {pos : Nat} {l : List α} (hp : pos < l.length) (H : Hole lt d pos l) : Hole lt d (supB lt d pos l).1 (supB lt d pos l).2 := by
  have step : ∀ (pos : Nat) (l : List α) (c : Nat), pos < l.length → Hole lt d pos l → (c = 2 * pos + 1 ∨ c = 2 * pos + 2) → c < l.length → (∀ k, 0 < k → k < l.length → (k - 1) / 2 = pos → k ≠ c → lt (l.getD k d) (l.getD c d) = false) → Hole lt d c (l.set pos (l.getD c d)) := by
    intro pos l c hp H hc hcl hmin
    refine ⟨fun k k0 kl kc kp => ?_, fun c0 k k0 kl kp => ?_⟩
    · simp only [List.length_set] at kl
      by_cases e : k = pos
      · subst e
        have : (k - 1) / 2 ≠ k := by omega
        rw [getD_set_same hp, getD_set_ne (Ne.symm this)]
        exact H.over k0 c (by omega) hcl (by omega)
      · rw [getD_set_ne (Ne.symm e)]
        by_cases e2 : (k - 1) / 2 = pos
        · rw [e2, getD_set_same hp]; exact hmin k k0 kl e2 kc
        · rw [getD_set_ne (Ne.symm e2)]; exact H.else_ k k0 kl e e2
    · simp only [List.length_set] at kl
      have hcp : (c - 1) / 2 = pos := by omega
      have e : k ≠ pos := by omega
      rw [hcp, getD_set_same hp, getD_set_ne (Ne.symm e)]
      have := H.else_ k k0 kl e (by omega)
      rwa [kp] at this
  fun_induction supB lt d pos l with
  | case1 pos l h1 h2 ih =>
    refine ih (by simp; omega) (step pos l _ hp H (.inr rfl) h2.1 fun k k0 kl kp kc => ?_)
    have : k = 2 * pos + 1 := by omega
    subst this; exact h2.2
  | case2 pos l h1 h2 ih =>
    refine ih (by simp; omega) (step pos l _ hp H (.inl rfl) h1 fun k k0 kl kp kc => ?_)
    have : k = 2 * pos + 2 := by omega
    subst this
    have : lt (l.getD (2 * pos + 1) d) (l.getD (2 * pos + 2) d) = true := by
      cases q : lt (l.getD (2 * pos + 1) d) (l.getD (2 * pos + 2) d) with
      | true => rfl
      | false => exact absurd ⟨kl, q⟩ h2
    exact ht.asym _ _ this
  | case3 pos l h1 => exact H

theorem IsHeap.hole0 {lt : α → α → Bool} {d : α} {l : List α} (h : IsHeap lt d l) : Hole lt d 0 l := ⟨fun k k0 kl _ _ => h k k0 kl, fun h => absurd h (Nat.lt_irrefl 0)⟩
theorem Hole.set {lt : α → α → Bool} {d x : α} {pos : Nat} {l : List α} (H : Hole lt d pos l) : Hole lt d pos (l.set pos x) := by
  refine ⟨fun k k0 kl kp kq => ?_, fun h k k0 kl kp => ?_⟩
  · simp only [List.length_set] at kl
    rw [getD_set_ne (Ne.symm kp), getD_set_ne (Ne.symm kq)]; exact H.else_ k k0 kl kp kq
  · simp only [List.length_set] at kl
    have e1 : pos ≠ k := by omega
    have e2 : pos ≠ (pos - 1) / 2 := by omega
    rw [getD_set_ne e1, getD_set_ne e2]; exact H.over h k k0 kl kp
theorem topB_heap {lt : α → α → Bool} (ht : LtTot lt) {d x : α} {l : List α} (hl : 0 < l.length) (H : Hole lt d 0 l) : IsHeap lt d (topB lt d x l) := by
  have h1 := supB_lt (lt := lt) (d := d) hl
  have h2 := supB_leaf (lt := lt) (d := d) (pos := 0) (l := l)
  refine sdnB_heap ht (by simpa using h1) (Hole.set (supB_hole ht hl H)) fun k k0 kl kp => ?_
  simp at kl; omega
/-- one more at the end -/
theorem push_heap {lt : α → α → Bool} (ht : LtTot lt) {d x : α} {l : List α} (h : IsHeap lt d l) : IsHeap lt d (sdnB lt d x l.length (l ++ [x])) := by
  refine sdnB_heap ht (by simp) ⟨fun k k0 kl kp kq => ?_, fun _ k k0 kl kp => ?_⟩ fun k k0 kl kp => ?_
  · simp at kl
    have hk : k < l.length := by omega
    have := h k k0 hk
    simpa [List.getD_eq_getElem?_getD, List.getElem?_append_left, hk, show (k - 1) / 2 < l.length by omega] using this
  · simp at kl; omega
  · simp at kl; omega
theorem IsHeap.min {lt : α → α → Bool} (ht : LtTot lt) {d : α} {l : List α} (h : IsHeap lt d l) (hirr : ∀ a, lt a a = false) : ∀ k, k < l.length → lt (l.getD k d) (l.getD 0 d) = false := by
  intro k
  induction k using Nat.strongRecOn with
  | _ k ih =>
    intro hk
    by_cases e : k = 0
    · subst e; exact hirr _
    · exact ht.ntrans _ _ _ (h k (by omega) hk) (ih ((k - 1) / 2) (by omega) (by omega))

variable [DecidableEq α]
theorem swap_perm {l : List α} {i j : Nat} {x d : α} (hi : i < l.length) (hj : j < l.length) (hij : i ≠ j) : ((l.set i (l.getD j d)).set j x).Perm (l.set i x) := by
  refine List.perm_iff_count.mpr fun a => ?_
  have e : l.getD j d = l[j] := by simp [List.getD_eq_getElem?_getD, hj]
  rw [e, List.count_set (by simpa using hj), List.count_set hi, List.count_set hi]
  have e2 : (l.set i l[j])[j]'(by simpa using hj) = l[j] := by simp [List.getElem_set_ne hij]
  rw [e2]
  have c1 : (if l[i] == a then 1 else 0) ≤ l.count a := by
    split
    · rename_i h; have : l[i] = a := by simpa using h
      exact List.count_pos_iff.mpr (this ▸ List.getElem_mem hi)
    · exact Nat.zero_le _
  split <;> split <;> split <;> simp_all <;> omega
theorem sdnB_perm {lt : α → α → Bool} {d x : α} {pos : Nat} {l : List α} (hp : pos < l.length) : (sdnB lt d x pos l).Perm (l.set pos x) := by
  fun_induction sdnB lt d x pos l with
  | case1 pos l h1 h2 ih => exact (ih (by simp; omega)).trans (swap_perm hp (by omega) (by omega))
  | case2 pos l h1 h2 => exact .refl _
  | case3 pos l h1 => exact .refl _
theorem supB_perm {lt : α → α → Bool} {d x : α} {pos : Nat} {l : List α} (hp : pos < l.length) : ((supB lt d pos l).2.set (supB lt d pos l).1 x).Perm (l.set pos x) := by
  fun_induction supB lt d pos l with
  | case1 pos l h1 h2 ih => exact (ih (by simp; omega)).trans (swap_perm hp (by omega) (by omega))
  | case2 pos l h1 h2 ih => exact (ih (by simp; omega)).trans (swap_perm hp (by omega) (by omega))
  | case3 pos l h1 => exact .refl _
theorem topB_perm {lt : α → α → Bool} {d x : α} {l : List α} (hl : 0 < l.length) : (topB lt d x l).Perm (l.set 0 x) := by
  have h1 := supB_lt (lt := lt) (d := d) hl
  refine (sdnB_perm (by simpa using h1)).trans ?_
  rw [List.set_set]
  exact supB_perm hl
theorem push_perm {lt : α → α → Bool} {d x : α} {l : List α} : (sdnB lt d x l.length (l ++ [x])).Perm (l ++ [x]) := by
  have := sdnB_perm (lt := lt) (d := d) (x := x) (pos := l.length) (l := l ++ [x]) (by simp)
  simpa using this
end

/-! the same over other names -/
section
variable {α β : Type} {f : α → β} {lt : α → α → Bool} {lt' : β → β → Bool} {d : α}
theorem getD_map' (l : List α) (i : Nat) : (l.map f).getD i (f d) = f (l.getD i d) := by
  simp only [List.getD_eq_getElem?_getD, List.getElem?_map]
  cases l[i]? <;> rfl
theorem sdnB_map (h : ∀ a b, lt' (f a) (f b) = lt a b) (x : α) (pos : Nat) (l : List α) : sdnB lt' (f d) (f x) pos (l.map f) = (sdnB lt d x pos l).map f := by
  fun_induction sdnB lt d x pos l with
  | case1 pos l h1 h2 ih => rw [sdnB, dif_pos h1, getD_map', h, if_pos h2, ← List.map_set, ih]
  | case2 pos l h1 h2 => rw [sdnB, dif_pos h1, getD_map', h, if_neg h2, ← List.map_set]
  | case3 pos l h1 => rw [sdnB, dif_neg h1, ← List.map_set]
theorem supB_map (h : ∀ a b, lt' (f a) (f b) = lt a b) (pos : Nat) (l : List α) : supB lt' (f d) pos (l.map f) = ((supB lt d pos l).1, (supB lt d pos l).2.map f) := by
  fun_induction supB lt d pos l with
  | case1 pos l h1 h2 ih =>
    rw [supB, dif_pos (by simpa using h1), getD_map', getD_map', h, if_pos (by simpa using h2), ← List.map_set, ih]
  | case2 pos l h1 h2 ih =>
    rw [supB, dif_pos (by simpa using h1), getD_map', getD_map', h, if_neg (by simpa using h2), ← List.map_set, ih]
  | case3 pos l h1 => rw [supB, dif_neg (by simpa using h1)]
theorem topB_map (h : ∀ a b, lt' (f a) (f b) = lt a b) (x : α) (l : List α) : topB lt' (f d) (f x) (l.map f) = (topB lt d x l).map f := by
  unfold topB
  simp only [supB_map h, ← List.map_set, sdnB_map h]
end
end Mine
end
section
open PySem PySem.W
set_option Elab.async false
set_option linter.unusedVariables false
namespace Mine

/-- x is sifted down, where it may not be comparable -/
def sdnP (ltx : PV → Option Bool) (d x : PV) (pos : Nat) (l : List PV) : Except (List PV) (List PV) :=
  if h : pos > 0 then
    match ltx (l.getD ((pos - 1) / 2) d) with
    | none => .error l
    | some true => sdnP ltx d x ((pos - 1) / 2) (l.set pos (l.getD ((pos - 1) / 2) d))
    | some false => .ok (l.set pos x)
  else .ok (l.set pos x)
termination_by pos
decreasing_by omega
theorem sdnP_ok {ltx : PV → Option Bool} {lt : PV → PV → Bool} {d x : PV} (D : PV → Prop) (h : ∀ q, D q → ltx q = some (lt x q)) : ∀ (pos : Nat) (l : List PV), pos < l.length → (∀ j q, j ≠ pos → l[j]? = some q → D q) → sdnP ltx d x pos l = .ok (sdnB lt d x pos l) := by
  intro pos
  induction pos using Nat.strongRecOn with
  | _ pos ih =>
    intro l hl hD
    rw [sdnP, sdnB]
    by_cases hp : pos > 0
    · rw [dif_pos hp, dif_pos hp]
      have hq : (pos - 1) / 2 < l.length := by omega
      have hdq : D (l.getD ((pos - 1) / 2) d) := hD ((pos - 1) / 2) _ (by omega) (by rw [List.getD_eq_getElem?_getD, List.getElem?_eq_getElem hq]; rfl)
      rw [h _ hdq]
      cases hc : lt x (l.getD ((pos - 1) / 2) d) with
      | true =>
        rw [if_pos rfl]
        refine ih _ (by omega) _ (by simpa using hq) fun j q hj e => ?_
        by_cases hjp : j = pos
        · subst hjp; rw [List.getElem?_set_self hl] at e; cases e; exact hdq
        · rw [List.getElem?_set_ne (Ne.symm hjp)] at e; exact hD j q hjp e
      | false => rw [if_neg (by decide)]
    · rw [dif_neg hp, dif_neg hp]
theorem sdnP_err {ltx : PV → Option Bool} {d x : PV} {pos : Nat} {l : List PV} (hp : pos > 0) (h : ltx (l.getD ((pos - 1) / 2) d) = none) : sdnP ltx d x pos l = .error l := by
  rw [sdnP, dif_pos hp, h]
theorem sdnP_zero {ltx : PV → Option Bool} {d x : PV} {l : List PV} : sdnP ltx d x 0 l = .ok (l.set 0 x) := by
  rw [sdnP, dif_neg (by omega)]

/-- p < q is known wherever the state is as S says -/
def LtAt (G : Gx) (S : AHeap → Prop) (r : Option Bool) (p q : PV) : Prop :=
  ∀ (c : Cx) μ σ (X : String → St → Prop) (Q : PV → St → Prop), c.toGx = G → c.lv.calm = true → S σ → (match r with | some b => Q (.bool b) (μ, σ) | none => X "TypeError" (μ, σ)) → W2 c VRep p q (compareOp .Lt) X Q (μ, σ)
theorem ltAt_int {G S} {i j : Int} : LtAt G S (some (decide (i < j))) (.int i) (.int j) := fun c μ σ X Q _ _ _ h => cmp_lt h
theorem ltAt_int_strange {G S} {i : Int} {p : PV} (hp : ∀ σ, S σ → Strange σ p) : LtAt G S none (.int i) p := fun c μ σ X Q _ hc hS h => lt_int_strange hc (hp σ hS) h
theorem ltAt_strange_int {G S} {i : Int} {p : PV} (hp : ∀ σ, S σ → Strange σ p) : LtAt G S none p (.int i) := fun c μ σ X Q _ hc hS h => lt_strange_int hc (hp σ hS) h
def Over (σ : AHeap) (a : Addr) : AHeap → Prop := fun σ' => ∃ l, σ' = σ.set a (.list l)
theorem LtAt.mono {G S S' r p q} (h : LtAt G S r p q) (hS : ∀ σ, S' σ → S σ) : LtAt G S' r p q := fun c μ σ X Q a b hs k => h c μ σ X Q a b (hS σ hs) k
theorem Over.set {σ : AHeap} {a : Addr} {l : List PV} : ∀ σ', Over (σ.set a (.list l)) a σ' → Over σ a σ' := fun σ' ⟨l', e⟩ => ⟨l', by rw [e, AHeap.set_set]⟩

section
variable {c : Cx} {X : String → St → Prop} {st : St}
/-- a def of the text, by its name -/
theorem E_CallG {x : Str} {pos' e rest pos} {Q : PV → St → Prop} {a : Addr} {o : Obj} {fd : FuncData} (hG : Gd c.toGx) (hl : c.env.scope.names.lookup x = some .globalImplicit) (hv : c.mg x = some (.ref a)) (ho : c.base.get? a = some o) (hf : o.data = .func fd)
    (h : WA c pos (e :: rest) X (fun ps st₂ => WN c VRep ps (fun vs => call (.ref a) vs) X Q st₂) st) (hd : (x == ("__debug__" : Str)) = false)
    (hev : eval (.Call (.Name x pos') (e :: rest) [] pos) c.env = (do callWith pos (← eval (.Name x pos') c.env) [] (backTo pos (starEach (e :: rest) c.env)) (backToKw pos (keywordEach [] c.env))))
    (he : starEach (e :: rest) c.env = (false, eval e c.env) :: starEach rest c.env)
    (hplain : (backTo pos (starEach rest c.env)).any (·.1) = false) : WE c (.Call (.Name x pos') (e :: rest) [] pos) X Q st :=
  E_Call (E_global hG hl hv rfl ⟨⟨o, fd, ho, hf⟩, h⟩ hd) hev he hplain
/-- a builtin function or type, by its name -/
theorem E_CallB {x : Str} {pos' e rest pos} {Q : PV → St → Prop} {id : String} (hG : Gd c.toGx) (hl : c.env.scope.names.lookup x = some .globalImplicit) (hm : c.mg x = none) (hn : x ≠ "__name__") (hv : bootBuiltins x = some (.builtin id))
    (h : WA c pos (e :: rest) X (fun ps st₂ => WN c VRep ps (fun vs => call (.builtin id) vs) X Q st₂) st) (hd : (x == ("__debug__" : Str)) = false)
    (hev : eval (.Call (.Name x pos') (e :: rest) [] pos) c.env = (do callWith pos (← eval (.Name x pos') c.env) [] (backTo pos (starEach (e :: rest) c.env)) (backToKw pos (keywordEach [] c.env))))
    (he : starEach (e :: rest) c.env = (false, eval e c.env) :: starEach rest c.env)
    (hplain : (backTo pos (starEach rest c.env)).any (·.1) = false) : WE c (.Call (.Name x pos') (e :: rest) [] pos) X Q st :=
  E_Call (E_builtin hG hl hm hn hv rfl ⟨trivial, h⟩ hd) hev he hplain
theorem E_CallT {x : Str} {pos' e rest pos} {Q : PV → St → Prop} {id : String} (hG : Gd c.toGx) (hl : c.env.scope.names.lookup x = some .globalImplicit) (hm : c.mg x = none) (hn : x ≠ "__name__") (hv : bootBuiltins x = some (.type id))
    (h : WA c pos (e :: rest) X (fun ps st₂ => WN c VRep ps (fun vs => call (.type id) vs) X Q st₂) st) (hd : (x == ("__debug__" : Str)) = false)
    (hev : eval (.Call (.Name x pos') (e :: rest) [] pos) c.env = (do callWith pos (← eval (.Name x pos') c.env) [] (backTo pos (starEach (e :: rest) c.env)) (backToKw pos (keywordEach [] c.env))))
    (he : starEach (e :: rest) c.env = (false, eval e c.env) :: starEach rest c.env)
    (hplain : (backTo pos (starEach rest c.env)).any (·.1) = false) : WE c (.Call (.Name x pos') (e :: rest) [] pos) X Q st :=
  E_Call (E_builtin hG hl hm hn hv rfl ⟨trivial, h⟩ hd) hev he hplain
end
theorem swapped_of {targets : List Expr} {value : Expr} {env : Env} {S : Scope} {r : Sem (Option (List Str))} (h : env.scope = S) (hr : swappedStores targets value { (default : Env) with scope := S } = r) : swappedStores targets value env = r := by
  rw [← hr]
  unfold swappedStores Env.kindOf Env.blockKind
  rw [h]
theorem closure_of {scope : Scope} {env : Env} {cs : List (Str × Addr)} {r : Sem (List (Str × Addr))} (h : env.cells = cs) (hr : closureFor scope { (default : Env) with cells := cs } = r) : closureFor scope env = r := by
  rw [← hr]
  unfold closureFor cellOf
  rw [h]
theorem relabel_of {scope S : Scope} {env : Env} (h : env.scope = S) : relabel scope env = relabel scope { (default : Env) with scope := S } := by
  unfold relabel Env.kindOf
  rw [h]
theorem at_set_fresh {σ : AHeap} {a b : Addr} {o o' : AObj} (h : σ a = none) (h2 : σ b = some o) : (σ.set a o') b = some o := AHeap.sub_set o' h _ _ h2
theorem ne_of_fresh {σ : AHeap} {a b : Addr} {o : AObj} (h : σ a = none) (h2 : σ b = some o) : b ≠ a := fun e => by rw [e, h] at h2; cases h2
/-- what is told more may be forgotten -/
theorem WT.forget {c : Cx} {X : String → St → Prop} {st : St} {α β : Type} {rep : Heap → β → α → Prop} {t : Sem α} {Q : β → St → Prop} (h : WT c rep t X (fun p st => ∃ st', Q p st' ∧ St.le st' st) st) : WT c rep t X Q st := fun hid stk s ok R =>
  wpAny_mono (h hid stk s ok R) (fun v s' ⟨p, st', R', hv, k, st'', q, hl⟩ => ⟨p, st'', (R'.weaken hl.2).locals hl.1, hv, k, q⟩) fun _ _ y => y
theorem AHeap.Sub.trans {σ τ υ : AHeap} (h : σ.Sub τ) (h2 : τ.Sub υ) : σ.Sub υ := fun a o e => h2 a o (h a o e)
theorem AHeap.Sub.fresh {σ τ : AHeap} {a : Addr} {o : AObj} (h : σ.Sub τ) (h2 : τ a = none) : σ.Sub (τ.set a o) := h.trans (AHeap.sub_set o h2)
theorem swaps_of {value : Expr} {target : Option Expr} {n : Nat} {env : Env} {S : Scope} {r : Sem Bool} (h : env.scope = S) (hr : swapsWith value target n { (default : Env) with scope := S } = r) : swapsWith value target n env = r := by
  rw [← hr]
  unfold swapsWith Env.kindOf Env.blockKind
  rw [h]
theorem mulOk2 {i : Int} : IntMulOk 2 i := IntMulOk.of_left (by decide)
end Mine
end
section
open PySem PySem.W
set_option Elab.async false
set_option maxRecDepth 100000
namespace Mine
def stAt (i : Nat) : Stmt := PySem.Challenge.rw_dn0048_01.row.prog.main.body.getD i (.Pass default)
/-- the record of a def of the text -/
def mkFd (i : Nat) (dfl kwd pm code : Value) : FuncData := match stAt i with
  | .FunctionDef name args body _ _ _ scope _ _ _ => { name := name, qualname := name, params := args, body := .stmts body, scope := scope, globals := 3, closure := [], defaults := dfl, kwdefaults := kwd, doc := .none, pyModule := pm, annotations := none, code := code, closureTuple := .none, builtins := 0 }
  | _ => default
def fdAt : Nat → FuncData
  | 21 => mkFd 1 (.none) (.none) (.str (Str.ofString "cpy313.heapq") 187) (.ref 20)
  | 28 => mkFd 2 (.none) (.none) (.str (Str.ofString "cpy313.heapq") 187) (.ref 27)
  | 35 => mkFd 3 (.none) (.none) (.str (Str.ofString "cpy313.heapq") 187) (.ref 34)
  | 42 => mkFd 4 (.none) (.none) (.str (Str.ofString "cpy313.heapq") 187) (.ref 41)
  | 49 => mkFd 5 (.none) (.none) (.str (Str.ofString "cpy313.heapq") 187) (.ref 48)
  | 56 => mkFd 6 (.none) (.none) (.str (Str.ofString "cpy313.heapq") 187) (.ref 55)
  | 63 => mkFd 8 (.none) (.none) (.str (Str.ofString "cpy313.operator") 248) (.ref 62)
  | 70 => mkFd 9 (.none) (.none) (.str (Str.ofString "cpy313.operator") 248) (.ref 69)
  | 77 => mkFd 10 (.none) (.none) (.str (Str.ofString "cpy313.operator") 248) (.ref 76)
  | 82 => mkFd 12 (.none) (.none) (.str (Str.ofString "law_dn0048_01") 277) (.ref 81)
  | 87 => mkFd 13 (.none) (.none) (.str (Str.ofString "law_dn0048_01") 277) (.ref 86)
  | _ => default
def obAt : Nat → Obj
  | a => { cls := .type "function", data := .func (fdAt a) }
def bdAt (a : Nat) : List Stmt := match (fdAt a).body with | .stmts l => l | _ => []
def esW (p : Params) : Array DictEntry := #[⟨PyData.keyHash p (Str.ofString "__name__"), .str (Str.ofString "__name__") 165, .str (Str.ofString "law_dn0048_01") 277⟩,
  ⟨PyData.keyHash p (Str.ofString "__doc__"), .str (Str.ofString "__doc__") 166, .none⟩,
  ⟨PyData.keyHash p (Str.ofString "__package__"), .str (Str.ofString "__package__") 167, .none⟩,
  ⟨PyData.keyHash p (Str.ofString "__loader__"), .str (Str.ofString "__loader__") 168, .builtin "__main__.__loader__#opaque"⟩,
  ⟨PyData.keyHash p (Str.ofString "__spec__"), .str (Str.ofString "__spec__") 169, .none⟩,
  ⟨PyData.keyHash p (Str.ofString "__annotations__"), .str (Str.ofString "__annotations__") 170, .ref 6⟩,
  ⟨PyData.keyHash p (Str.ofString "__builtins__"), .str (Str.ofString "__builtins__") 171, .ref 4⟩,
  ⟨PyData.keyHash p (Str.ofString "__file__"), .str (Str.ofString "__file__") 173, .str (Str.ofString "/claim/cut.py") 172⟩,
  ⟨PyData.keyHash p (Str.ofString "__cached__"), .str (Str.ofString "__cached__") 174, .none⟩,
  ⟨PyData.keyHash p (Str.ofString "heappush"), .str (Str.ofString "heappush") 196, .ref 21⟩,
  ⟨PyData.keyHash p (Str.ofString "heappop"), .str (Str.ofString "heappop") 205, .ref 28⟩,
  ⟨PyData.keyHash p (Str.ofString "heapreplace"), .str (Str.ofString "heapreplace") 214, .ref 35⟩,
  ⟨PyData.keyHash p (Str.ofString "heappushpop"), .str (Str.ofString "heappushpop") 222, .ref 42⟩,
  ⟨PyData.keyHash p (Str.ofString "_siftdown"), .str (Str.ofString "_siftdown") 234, .ref 49⟩,
  ⟨PyData.keyHash p (Str.ofString "_siftup"), .str (Str.ofString "_siftup") 247, .ref 56⟩,
  ⟨PyData.keyHash p (Str.ofString "delitem"), .str (Str.ofString "delitem") 257, .ref 63⟩,
  ⟨PyData.keyHash p (Str.ofString "indexOf"), .str (Str.ofString "indexOf") 267, .ref 70⟩,
  ⟨PyData.keyHash p (Str.ofString "setitem"), .str (Str.ofString "setitem") 276, .ref 77⟩,
  ⟨PyData.keyHash p (Str.ofString "_law_steps"), .str (Str.ofString "_law_steps") 284, .ref 82⟩,
  ⟨PyData.keyHash p (Str.ofString "law"), .str (Str.ofString "law") 290, .ref 87⟩]
def mgW (p : Params) (x : Str) : Option Value := nsFind (esW p) x
end Mine
end
section
open PySem PySem.W
set_option Elab.async false
set_option linter.unusedVariables false
set_option maxRecDepth 100000
namespace Mine

def G (w : World) (base : Heap) (os : OsState) (mb : Str → Option Value) : Gx := ⟨PySem.Challenge.rw_dn0048_01.row.prog, w, base, os, mgW w.params, mb⟩

/-- what is told of the defs -/
structure FnOk (base : Heap) (a : Nat) : Prop where
  get : base.get? a = some (obAt a)
  code : base.CodeRec (fdAt a).code (fdAt a).qualname
structure Bs (G : Gx) : Prop where
  gd : Gd G
  fn : ∀ a ∈ [21, 28, 35, 42, 49, 56, 63, 70, 77, 82, 87], FnOk G.base a

-- an object of the state
local macro_rules | `(tactic| walk_at "hp") => `(tactic| first | assumption | exact at_set_same | (refine at_set_ne ?_ ?_; (first | assumption | (apply Ne.symm; assumption)); walk_at "hp"))
set_option hygiene false in
local macro_rules | `(tactic| walk_at "kd") => `(tactic| (rw [hsc]; rfl))
set_option hygiene false in
local macro_rules | `(tactic| walk_at "s1") => `(tactic| with_reducible first
  | refine seqQ_next ?_
  | refine seqQ_brk ?_
  | refine seqQ_cont ?_
  | refine seqQ_ret ?_
  | refine loopQ_brk ?_
  | refine loopQ_ret ?_
  | refine forQ_brk ?_
  | refine forQ_ret ?_
  | refine S_last ?_
  | refine S_seq ?_
  | refine S_nil ?_
  | (refine S_Assign ?_ ?h1; (case h1 => with_unfolding_all exact rfl))
  | (refine S_AssignSub ?_ ?h1; (case h1 => with_unfolding_all exact rfl))
  | refine S_if ?_
  | refine S_Return ?_
  | refine S_Break ?_
  | refine S_Continue ?_
  | (refine S_Expr ?_ ?h1 ?h2; (case h1 => with_unfolding_all (unfold PySem.interactive; walk_at "kd")); (case h2 => with_unfolding_all exact rfl))
  | (refine' W1_store ?h1 ?_; (case h1 => with_unfolding_all walk_at "kd"))
  | (refine' E_local ?h1 ?h2 ?_ ?h3; (case h1 => with_unfolding_all walk_at "kd"); (case h2 => with_unfolding_all exact rfl); (case h3 => with_unfolding_all exact rfl))
  | refine E_int ?_
  | refine E_none ?_
  | refine E_BinOp ?_
  | (refine E_Subscript ?_ ?h1; (case h1 => with_unfolding_all exact rfl))
  | (refine C_Compare ?_ ?h1; (case h1 => with_unfolding_all exact rfl))
  | refine C_Not ?_
  | refine C_BoolOp ?_
  | refine truthy_b ?_
  | refine bin_add ?_
  | refine bin_sub ?_
  | (refine bin_shr ?h1 ?_; (case h1 => with_unfolding_all decide))
  | refine cmp_lt ?_
  | (refine bin_mul ?_ ?h1; (case h1 => exact mulOk2))
  | refine And_last ?_
  | refine And_step ?_
  | refine Or_last ?_
  | refine Or_step ?_
  | refine andQ_true ?_
  | refine andQ_false ?_
  | refine orQ_true ?_
  | refine orQ_false ?_
  | refine ifQ_true ?_
  | refine ifQ_false ?_
  | (refine' E_CallG B.gd ?h1 ?h2 ?h3 ?h4 ?_ ?h5 ?h6 ?h7 ?h8; (case h1 => with_unfolding_all walk_at "kd"); (case h2 => with_unfolding_all exact rfl); (case h3 => exact (B.fn _ (by simp)).get); (case h4 => with_unfolding_all exact rfl); (case h5 => with_unfolding_all exact rfl); (case h6 => with_unfolding_all exact rfl); (case h7 => with_unfolding_all exact rfl); (case h8 => with_unfolding_all exact rfl))
  | (refine' E_CallB B.gd ?h1 ?h2 ?h3 ?h4 ?_ ?h5 ?h6 ?h7 ?h8; (case h1 => with_unfolding_all walk_at "kd"); (case h2 => with_unfolding_all exact rfl); (case h3 => decide); (case h4 => with_unfolding_all exact rfl); (case h5 => with_unfolding_all exact rfl); (case h6 => with_unfolding_all exact rfl); (case h7 => with_unfolding_all exact rfl); (case h8 => with_unfolding_all exact rfl))
  | (refine' E_CallT B.gd ?h1 ?h2 ?h3 ?h4 ?_ ?h5 ?h6 ?h7 ?h8; (case h1 => with_unfolding_all walk_at "kd"); (case h2 => with_unfolding_all exact rfl); (case h3 => decide); (case h4 => with_unfolding_all exact rfl); (case h5 => with_unfolding_all exact rfl); (case h6 => with_unfolding_all exact rfl); (case h7 => with_unfolding_all exact rfl); (case h8 => with_unfolding_all exact rfl))
  | refine cmp_gt ?_
  | refine And.intro ⟨_, _, rfl, seq_of (by with_unfolding_all walk_at "hp")⟩ ?_
  | (refine' E_MethList (id := "list.append") F.slot_list_append F.type_list_append ?_ ?h1 ?h2 ?h3 ?h4 ?h5; (case h1 => with_unfolding_all exact rfl); (case h2 => with_unfolding_all exact rfl); (case h3 => with_unfolding_all exact rfl); (case h4 => with_unfolding_all exact rfl); (case h5 => with_unfolding_all exact rfl))
  | (refine' E_MethList0 (id := "list.pop") F.slot_list_pop F.type_list_pop ?_ ?h1 ?h2; (case h1 => with_unfolding_all exact rfl); (case h2 => with_unfolding_all exact rfl))
  | (refine C_value ?_ ?h1; (case h1 => with_unfolding_all exact rfl))
  | refine truthy_i ?_
  | (refine E_Tuple ?_)
  | (refine S_AssignTup ?_ ?h1 ?h2; (case h1 => with_unfolding_all exact rfl); (case h2 => with_unfolding_all exact swapped_of hsc rfl))
  | (refine Asg_Tuple rfl ?_ ?h1 ?h2 ?h3; (case h1 => with_unfolding_all exact rfl); (case h2 => with_unfolding_all exact rfl); (case h3 => with_unfolding_all exact rfl))
  | refine asgAll_cons ?_
  | refine asgAll_nil ?_
  | (refine' Asg_local ?h1 ?_; (case h1 => with_unfolding_all walk_at "kd"))
  | refine Asg_Sub ?_
  | refine A_nil ?_
  | (refine A_cons ?_ ?h1; (case h1 => with_unfolding_all exact rfl)))

variable {w : World} {base : Heap} {os : OsState} {mb : Str → Option Value}

theorem siftdown_call (B : Bs (G w base os mb)) {n : Nat} {a : Addr} {l : List PV} {pos : Nat} {σ : AHeap} {x d : PV} {ltx : PV → Option Bool} (D : PV → Prop)
    {X : String → AHeap → Prop} {Q : PV → AHeap → Prop} (hs : σ a = some (.list l)) (hp : l[pos]? = some x) (hz : l.length ≤ 1000000)
    (hD : ∀ j q, j ≠ pos → l[j]? = some q → D q) (hlt : ∀ q, D q → LtAt (G w base os mb) (Over σ a) (ltx q) x q)
    (hX : ∀ l', sdnP ltx d x pos l = .error l' → X "TypeError" (σ.set a (.list l')))
    (hQ : ∀ l', sdnP ltx d x pos l = .ok l' → Q .none (σ.set a (.list l'))) :
    CallS (G w base os mb) ⟨n + 1, true⟩ (.ref 49) [.ref a, .int 0, .int pos] X Q σ := by
  refine call_def (fd := fdAt 49) (body := bdAt 49) [Str.ofString "heap", Str.ofString "startpos", Str.ofString "pos"] B.gd (B.fn 49 (by simp)).get rfl rfl (B.fn 49 (by simp)).code rfl rfl rfl rfl rfl rfl (by decide) rfl (fun vs hv => ?_) (fun i => rfl) (fun i => rfl) ?_
  · match vs, hv with
    | [v1, v2, v3], _ => rfl
  intro c L hc hlv hsc hce hq hf
  obtain ⟨g, lv, A, env⟩ := c
  subst hc hlv
  show WS _ (bdAt 49) _ _ ([(Str.ofString "heap", .ref a), (Str.ofString "startpos", .int 0), (Str.ofString "pos", .int pos)], σ)
  refine S_seq ?_
  repeat walk_at "s1"
  refine get_list (seq_of (by walk_at "hp")) (by omega) (by simpa using hp) (by omega) ?_
  repeat walk_at "s1"
  refine S_while (fun n st => ∃ l', n < l'.length ∧ l'.length = l.length ∧ sdnP ltx d x n l' = sdnP ltx d x pos l ∧ (∀ j q, j ≠ n → l'[j]? = some q → D q) ∧
    st = ([(Str.ofString "heap", .ref a), (Str.ofString "startpos", .int 0), (Str.ofString "pos", .int n), (Str.ofString "newitem", x)], σ.set a (.list l'))) pos _ ⟨l, ?_, rfl, rfl, hD, rfl⟩ ?_ ?_
  · exact (List.getElem?_eq_some_iff.mp hp).1
  · rw [AHeap.set_self _ hs]; exact St.le_refl _
  · rintro n _ ⟨l', hn, hl', hsd, hD', rfl⟩
    repeat walk_at "s1"
    refine ⟨fun hb => ?_, fun hb => ?_⟩
    · have hgt : n > 0 := by simpa using hb
      rw [sdnP, dif_pos hgt] at hsd
      have hpp : ((n : Int) - 1).fdiv (2 ^ Int.toNat 1) = (((n - 1) / 2 : Nat) : Int) := by
        rw [show (2 : Int) ^ Int.toNat 1 = 2 from rfl, Int.fdiv_eq_ediv_of_nonneg _ (by omega)]; omega
      repeat walk_at "s1"
      rw [hpp]
      repeat walk_at "s1"
      have hlt2 : (n - 1) / 2 < l'.length := by omega
      have hget : l'[(n - 1) / 2]? = some (l'.getD ((n - 1) / 2) d) := by rw [List.getD_eq_getElem?_getD]; simp [hlt2]
      refine get_list (p := l'.getD ((n - 1) / 2) d) (seq_of (by walk_at "hp")) (by omega) (by rw [Int.toNat_natCast]; exact hget) (by omega) ?_
      repeat walk_at "s1"
      have hdq : D (l'.getD ((n - 1) / 2) d) := hD' _ _ (by omega) hget
      refine hlt _ hdq _ _ _ _ _ rfl rfl ⟨l', rfl⟩ ?_
      cases hc : ltx (l'.getD ((n - 1) / 2) d) with
      | none =>
        rw [hc] at hsd
        exact hX _ hsd.symm
      | some b =>
        rw [hc] at hsd
        dsimp only
        repeat walk_at "s1"
        refine ifQ_dec (fun hb => ?_) (fun hb => ?_)
        · subst hb
          repeat walk_at "s1"
          refine set_list (by walk_at "hp") (by omega) (by omega) (by omega) ?_
          repeat walk_at "s1"
          refine loopQ_cont ((n - 1) / 2) (by omega) ⟨l'.set n (l'.getD ((n - 1) / 2) d), by simpa using hlt2, by simpa using hl', hsd, fun j q hj e => ?_, rfl⟩ ?_
          · by_cases hjn : j = n
            · subst hjn; rw [List.getElem?_set_self hn] at e; cases e; exact hdq
            · rw [List.getElem?_set_ne (Ne.symm hjn)] at e; exact hD' j q hjn e
          · simp only [AHeap.set_set, Int.toNat_natCast]
            exact St.le_app (.refl _)
        · subst hb
          repeat walk_at "s1"
          refine set_list (by walk_at "hp") (by omega) (by omega) (by omega) ?_
          simp only [AHeap.set_set, Int.toNat_natCast]
          exact hQ _ hsd.symm
    · have hgt : ¬ n > 0 := by simpa using hb
      rw [sdnP, dif_neg hgt] at hsd
      repeat walk_at "s1"
      refine set_list (by walk_at "hp") (by omega) (by omega) (by omega) ?_
      simp only [AHeap.set_set, Int.toNat_natCast]
      exact hQ _ hsd.symm

theorem siftup_call (B : Bs (G w base os mb)) {n : Nat} {a : Addr} {l : List PV} {σ : AHeap} {x d : PV} {ltx : PV → Option Bool} {ltb : PV → PV → Bool} (D : PV → Prop)
    {X : String → AHeap → Prop} {Q : PV → AHeap → Prop} (hs : σ a = some (.list l)) (hp : l[0]? = some x) (hz : l.length ≤ 1000000)
    (hD : ∀ j q, j ≠ 0 → l[j]? = some q → D q) (hlt : ∀ q, D q → LtAt (G w base os mb) (Over σ a) (ltx q) x q) (hlt2 : ∀ p q, D p → D q → LtAt (G w base os mb) (Over σ a) (some (ltb p q)) p q)
    (hX : ∀ l', sdnP ltx d x (supB ltb d 0 l).1 ((supB ltb d 0 l).2.set (supB ltb d 0 l).1 x) = .error l' → X "TypeError" (σ.set a (.list l')))
    (hQ : ∀ l', sdnP ltx d x (supB ltb d 0 l).1 ((supB ltb d 0 l).2.set (supB ltb d 0 l).1 x) = .ok l' → Q .none (σ.set a (.list l'))) :
    CallS (G w base os mb) ⟨n + 2, true⟩ (.ref 56) [.ref a, .int 0] X Q σ := by
  have hl0 : 0 < l.length := (List.getElem?_eq_some_iff.mp hp).1
  refine call_def (fd := fdAt 56) (body := bdAt 56) [Str.ofString "heap", Str.ofString "pos"] B.gd (B.fn 56 (by simp)).get rfl rfl (B.fn 56 (by simp)).code rfl rfl rfl rfl rfl rfl (by decide) rfl (fun vs hv => ?_) (fun i => rfl) (fun i => rfl) ?_
  · match vs, hv with
    | [v1, v2], _ => rfl
  intro c L hc hlv hsc hce hq hf
  obtain ⟨g, lv, A, env⟩ := c
  subst hc hlv
  show WS _ (bdAt 56) _ _ ([(Str.ofString "heap", .ref a), (Str.ofString "pos", .int 0)], σ)
  refine S_seq ?_
  repeat walk_at "s1"
  refine len_seq (seq_of (by walk_at "hp")) (by omega) ?_
  repeat walk_at "s1"
  refine get_list (seq_of (by walk_at "hp")) (by omega) (by simpa using hp) (by omega) ?_
  repeat walk_at "s1"
  refine S_while (fun m st => ∃ (p : Nat) (pi : Int) (l' : List PV), pi = p ∧ p < l.length ∧ m + p = l.length ∧ l'.length = l.length ∧ supB ltb d p l' = supB ltb d 0 l ∧ (∀ j q, j ≠ p → l'[j]? = some q → D q) ∧
    st = ([(Str.ofString "heap", .ref a), (Str.ofString "pos", .int pi), (Str.ofString "endpos", .int l.length), (Str.ofString "startpos", .int 0), (Str.ofString "newitem", x), (Str.ofString "childpos", .int (2 * pi + 1))], σ.set a (.list l'))) l.length _ ⟨0, 0, l, rfl, hl0, rfl, rfl, rfl, hD, rfl⟩ ?_ ?_
  · rw [AHeap.set_self _ hs]; exact St.le_refl _
  · rintro m _ ⟨p, pi, l', hpi, hpl, hm, hl', hsu, hD', rfl⟩
    repeat walk_at "s1"
    have hget : ∀ (i : Int) (j : Nat), i = j → j < l'.length → l'[i.toNat]? = some (l'.getD j d) := fun i j e hj => by
      subst e; rw [Int.toNat_natCast, List.getD_eq_getElem?_getD]; simp [hj]
    have hDn : ∀ j, p < j → j < l'.length → D (l'.getD j d) := fun j h1 h2 => hD' j _ (by omega) (by rw [List.getD_eq_getElem?_getD]; simp [h2])
    have hDs : ∀ (cp : Nat), p < cp → cp < l'.length → ∀ j q, j ≠ cp → (l'.set p (l'.getD cp d))[j]? = some q → D q := fun cp h1 h2 j q hj e => by
      by_cases hjp : j = p
      · subst hjp; rw [List.getElem?_set_self (by omega)] at e; cases e; exact hDn cp h1 h2
      · rw [List.getElem?_set_ne (Ne.symm hjp)] at e; exact hD' j q hjp e
    refine ⟨fun hb => ?_, fun hb => ?_⟩
    · have hc1 : 2 * p + 1 < l'.length := by have h9 : 2 * pi + 1 < (l.length : Int) := (by simpa using hb); omega
      rw [supB, dif_pos hc1] at hsu
      repeat walk_at "s1"
      refine andQ_dec (fun hb2 => ?_) (fun hb2 => ?_)
      · have hc2 : 2 * p + 2 < l'.length := by have h9 : 2 * pi + 1 + 1 < (l.length : Int) := (by simpa using hb2); omega
        repeat walk_at "s1"
        refine get_list (seq_of (by walk_at "hp")) (by omega) (hget _ (2 * p + 1) (by omega) hc1) (by omega) ?_
        repeat walk_at "s1"
        refine get_list (seq_of (by walk_at "hp")) (by omega) (hget _ (2 * p + 2) (by omega) hc2) (by omega) ?_
        refine hlt2 _ _ (hDn _ (by omega) hc1) (hDn _ (by omega) hc2) _ _ _ _ _ rfl rfl ⟨l', rfl⟩ ?_
        dsimp only
        repeat walk_at "s1"
        refine ifQ_dec (fun hb3 => ?_) (fun hb3 => ?_)
        · have hl3 : ltb (l'.getD (2 * p + 1) d) (l'.getD (2 * p + 2) d) = false := by simpa using hb3
          rw [if_pos ⟨hc2, hl3⟩] at hsu
          repeat walk_at "s1"
          refine get_list (seq_of (by walk_at "hp")) (by omega) (hget _ (2 * p + 2) (by omega) hc2) (by omega) ?_
          repeat walk_at "s1"
          refine set_list (by walk_at "hp") (by omega) (by omega) (by omega) ?_
          repeat walk_at "s1"
          refine loopQ_next (l.length - (2 * p + 2)) (by omega) ⟨2 * p + 2, 2 * pi + 1 + 1, l'.set p (l'.getD (2 * p + 2) d), by omega, by omega, by omega, by simpa using hl', hsu, hDs _ (by omega) hc2, rfl⟩ ?_
          rw [show pi.toNat = p by omega, AHeap.set_set]
          exact St.le_app (.refl _)
        · have hl3 : ltb (l'.getD (2 * p + 1) d) (l'.getD (2 * p + 2) d) = true := by simpa using hb3
          rw [if_neg (fun q => by rw [hl3] at q; exact absurd q.2 (by decide))] at hsu
          repeat walk_at "s1"
          refine get_list (seq_of (by walk_at "hp")) (by omega) (hget _ (2 * p + 1) (by omega) hc1) (by omega) ?_
          repeat walk_at "s1"
          refine set_list (by walk_at "hp") (by omega) (by omega) (by omega) ?_
          repeat walk_at "s1"
          refine loopQ_next (l.length - (2 * p + 1)) (by omega) ⟨2 * p + 1, 2 * pi + 1, l'.set p (l'.getD (2 * p + 1) d), by omega, by omega, by omega, by simpa using hl', hsu, hDs _ (by omega) hc1, rfl⟩ ?_
          rw [show pi.toNat = p by omega, AHeap.set_set]
          exact St.le_app (.refl _)
      · have hc2 : ¬ 2 * p + 2 < l'.length := by have h9 : ¬ 2 * pi + 1 + 1 < (l.length : Int) := (by simpa using hb2); omega
        rw [if_neg (fun q => hc2 q.1)] at hsu
        repeat walk_at "s1"
        refine get_list (seq_of (by walk_at "hp")) (by omega) (hget _ (2 * p + 1) (by omega) hc1) (by omega) ?_
        repeat walk_at "s1"
        refine set_list (by walk_at "hp") (by omega) (by omega) (by omega) ?_
        repeat walk_at "s1"
        refine loopQ_next (l.length - (2 * p + 1)) (by omega) ⟨2 * p + 1, 2 * pi + 1, l'.set p (l'.getD (2 * p + 1) d), by omega, by omega, by omega, by simpa using hl', hsu, hDs _ (by omega) hc1, rfl⟩ ?_
        rw [show pi.toNat = p by omega, AHeap.set_set]
        exact St.le_app (.refl _)
    · have hc1 : ¬ 2 * p + 1 < l'.length := by have h9 : ¬ 2 * pi + 1 < (l.length : Int) := (by simpa using hb); omega
      rw [supB, dif_neg hc1] at hsu
      subst hpi
      repeat walk_at "s1"
      refine set_list (by walk_at "hp") (by omega) (by omega) (by omega) ?_
      rw [Int.toNat_natCast, AHeap.set_set]
      repeat walk_at "s1"
      rw [← hsu] at hX hQ
      refine WN_call ?_
      refine siftdown_call B (l := l'.set p x) (d := d) (ltx := ltx) D at_set_same (List.getElem?_set_self (by omega)) (by rw [List.length_set]; omega) (fun j q hj e => ?_) (fun q hq => (hlt q hq).mono Over.set) (fun l'' e => ?_) (fun l'' e => ?_)
      · rw [List.getElem?_set_ne (Ne.symm hj)] at e; exact hD' j q hj e
      · rw [AHeap.set_set]; exact hX _ e
      · rw [AHeap.set_set]
        repeat walk_at "s1"
        exact hQ _ e

theorem heappush_call (B : Bs (G w base os mb)) {n : Nat} {a : Addr} {l : List PV} {σ : AHeap} {x d : PV} {ltx : PV → Option Bool} (D : PV → Prop)
    {X : String → AHeap → Prop} {Q : PV → AHeap → Prop} (hs : σ a = some (.list l)) (hz : l.length ≤ 100000)
    (hD : ∀ q ∈ l, D q) (hlt : ∀ q, D q → LtAt (G w base os mb) (Over σ a) (ltx q) x q)
    (hX : ∀ l', sdnP ltx d x l.length (l ++ [x]) = .error l' → X "TypeError" (σ.set a (.list l')))
    (hQ : ∀ l', sdnP ltx d x l.length (l ++ [x]) = .ok l' → Q .none (σ.set a (.list l'))) :
    CallS (G w base os mb) ⟨n + 2, true⟩ (.ref 21) [.ref a, x] X Q σ := by
  refine call_def (fd := fdAt 21) (body := bdAt 21) [Str.ofString "heap", Str.ofString "item"] B.gd (B.fn 21 (by simp)).get rfl rfl (B.fn 21 (by simp)).code rfl rfl rfl rfl rfl rfl (by decide) rfl (fun vs hv => ?_) (fun i => rfl) (fun i => rfl) ?_
  · match vs, hv with
    | [v1, v2], _ => rfl
  intro c L hc hlv hsc hce hq hf
  obtain ⟨g, lv, A, env⟩ := c
  subst hc hlv
  show WS _ (bdAt 21) _ _ ([(Str.ofString "heap", .ref a), (Str.ofString "item", x)], σ)
  refine S_seq ?_
  repeat walk_at "s1"
  refine append_list (by walk_at "hp") (by omega) ?_
  repeat walk_at "s1"
  refine len_seq (seq_of (by walk_at "hp")) (by simp; omega) ?_
  repeat walk_at "s1"
  rw [show (((l ++ [x]).length : Nat) : Int) - 1 = (l.length : Nat) by simp]
  refine WN_call ?_
  refine siftdown_call B (l := l ++ [x]) (d := d) (ltx := ltx) D at_set_same (by simp) (by simp; omega) (fun j q hj e => ?_) (fun q hq => (hlt q hq).mono Over.set) (fun l'' e => ?_) (fun l'' e => ?_)
  · rcases Nat.lt_or_ge j l.length with h | h
    · rw [List.getElem?_append_left h] at e; exact hD q (List.mem_of_getElem? e)
    · rw [List.getElem?_append_right h] at e
      have : j - l.length ≠ 0 := by omega
      rw [List.getElem?_eq_none (by simp; omega)] at e; cases e
  · rw [AHeap.set_set]; exact hX _ e
  · rw [AHeap.set_set]
    repeat walk_at "s1"
    exact hQ _ e

theorem heapreplace_call (B : Bs (G w base os mb)) {n : Nat} {a : Addr} {l : List PV} {σ : AHeap} {x d : PV} {ltx : PV → Option Bool} {ltb : PV → PV → Bool} (D : PV → Prop)
    {X : String → AHeap → Prop} {Q : PV → AHeap → Prop} (hs : σ a = some (.list l)) (hz : l.length ≤ 100000)
    (hD : ∀ q ∈ l, D q) (hlt : ∀ q, D q → LtAt (G w base os mb) (Over σ a) (ltx q) x q) (hlt2 : ∀ p q, D p → D q → LtAt (G w base os mb) (Over σ a) (some (ltb p q)) p q)
    (h0 : l = [] → X "IndexError" σ)
    (hX : ∀ l', l ≠ [] → sdnP ltx d x (supB ltb d 0 (l.set 0 x)).1 ((supB ltb d 0 (l.set 0 x)).2.set (supB ltb d 0 (l.set 0 x)).1 x) = .error l' → X "TypeError" (σ.set a (.list l')))
    (hQ : ∀ l' r, l[0]? = some r → sdnP ltx d x (supB ltb d 0 (l.set 0 x)).1 ((supB ltb d 0 (l.set 0 x)).2.set (supB ltb d 0 (l.set 0 x)).1 x) = .ok l' → Q r (σ.set a (.list l'))) :
    CallS (G w base os mb) ⟨n + 3, true⟩ (.ref 35) [.ref a, x] X Q σ := by
  refine call_def (fd := fdAt 35) (body := bdAt 35) [Str.ofString "heap", Str.ofString "item"] B.gd (B.fn 35 (by simp)).get rfl rfl (B.fn 35 (by simp)).code rfl rfl rfl rfl rfl rfl (by decide) rfl (fun vs hv => ?_) (fun i => rfl) (fun i => rfl) ?_
  · match vs, hv with
    | [v1, v2], _ => rfl
  intro c L hc hlv hsc hce hq hf
  obtain ⟨g, lv, A, env⟩ := c
  subst hc hlv
  show WS _ (bdAt 35) _ _ ([(Str.ofString "heap", .ref a), (Str.ofString "item", x)], σ)
  refine S_seq ?_
  repeat walk_at "s1"
  cases l with
  | nil => exact get_list_out rfl (seq_of (by walk_at "hp")) (by simp) (by omega) (h0 rfl)
  | cons r l =>
    refine get_list (p := r) (seq_of (by walk_at "hp")) (by omega) rfl (by omega) ?_
    repeat walk_at "s1"
    refine set_list (by walk_at "hp") (by omega) (by simp <;> omega) (by omega) ?_
    repeat walk_at "s1"
    refine WN_call ?_
    refine siftup_call B (l := (r :: l).set 0 x) (d := d) (ltx := ltx) (ltb := ltb) D at_set_same rfl (by simp at hz ⊢; omega) (fun j q hj e => ?_) (fun q hq => (hlt q hq).mono Over.set) (fun p q hp hq => (hlt2 p q hp hq).mono Over.set) (fun l'' e => ?_) (fun l'' e => ?_)
    · rw [List.getElem?_set_ne (Ne.symm hj)] at e; exact hD q (List.mem_of_getElem? e)
    · rw [AHeap.set_set]; exact hX _ (by simp) e
    · rw [AHeap.set_set]
      repeat walk_at "s1"
      exact hQ _ r rfl e

theorem heappop_call (B : Bs (G w base os mb)) {n : Nat} {a : Addr} {l : List PV} {σ : AHeap} {d : PV} {ltb : PV → PV → Bool} (D : PV → Prop)
    {X : String → AHeap → Prop} {Q : PV → AHeap → Prop} (hs : σ a = some (.list l)) (hz : l.length ≤ 100000)
    (hD : ∀ q ∈ l, D q) (hlt2 : ∀ p q, D p → D q → LtAt (G w base os mb) (Over σ a) (some (ltb p q)) p q)
    (h0 : l = [] → X "IndexError" σ)
    (h1 : ∀ x, l = [x] → Q x (σ.set a (.list [])))
    (hQ : ∀ r m x, l = r :: m ++ [x] → Q r (σ.set a (.list (topB ltb d x ((r :: m).set 0 x))))) :
    CallS (G w base os mb) ⟨n + 3, true⟩ (.ref 28) [.ref a] X Q σ := by
  refine call_def (fd := fdAt 28) (body := bdAt 28) [Str.ofString "heap"] B.gd (B.fn 28 (by simp)).get rfl rfl (B.fn 28 (by simp)).code rfl rfl rfl rfl rfl rfl (by decide) rfl (fun vs hv => ?_) (fun i => rfl) (fun i => rfl) ?_
  · match vs, hv with
    | [v1], _ => rfl
  intro c L hc hlv hsc hce hq hf
  obtain ⟨g, lv, A, env⟩ := c
  subst hc hlv
  show WS _ (bdAt 28) _ _ ([(Str.ofString "heap", .ref a)], σ)
  refine S_seq ?_
  repeat walk_at "s1"
  rcases List.eq_nil_or_concat l with hl | ⟨m, x, hl⟩
  · subst hl
    exact pop_list_empty rfl (by walk_at "hp") (h0 rfl)
  · rw [List.concat_eq_append] at hl
    subst hl
    refine pop_list (l := m) (p := x) (by walk_at "hp") (by simp at hz; omega) ?_
    repeat walk_at "s1"
    refine truthy_l (seq_of (by walk_at "hp")) (by simp at hz; omega) ?_
    cases m with
    | nil =>
      refine ifQ_false ?_
      repeat walk_at "s1"
      exact h1 x rfl
    | cons r m =>
      refine ifQ_true ?_
      repeat walk_at "s1"
      refine get_list (p := r) (seq_of (by walk_at "hp")) (by omega) rfl (by simp at hz ⊢; omega) ?_
      repeat walk_at "s1"
      refine set_list (by walk_at "hp") (by omega) (by simp <;> omega) (by simp at hz ⊢; omega) ?_
      repeat walk_at "s1"
      have hDx : D x := hD x (by simp)
      have hDm : ∀ j q, ((r :: m).set 0 x)[j]? = some q → D q := fun j q e => by
        by_cases hj : j = 0
        · subst hj; rw [List.getElem?_set_self (by simp)] at e; cases e; exact hDx
        · rw [List.getElem?_set_ne (Ne.symm hj)] at e; exact hD q (List.mem_append_left _ (List.mem_of_getElem? e))
      have hfin : ∀ l'', sdnP (fun q => some (ltb x q)) d x (supB ltb d 0 ((r :: m).set 0 x)).1 ((supB ltb d 0 ((r :: m).set 0 x)).2.set (supB ltb d 0 ((r :: m).set 0 x)).1 x) = l'' → l'' = .ok (topB ltb d x ((r :: m).set 0 x)) := fun l'' e => by
        rw [← e]
        exact sdnP_ok (lt := ltb) (fun _ => True) (fun q _ => rfl) _ _ (by
          have := supB_lt (lt := ltb) (d := d) (pos := 0) (l := (r :: m).set 0 x) (by simp)
          simpa using this) (fun _ _ _ _ => trivial)
      refine WN_call ?_
      refine siftup_call B (l := (r :: m).set 0 x) (d := d) (ltx := fun q => some (ltb x q)) (ltb := ltb) D ?_ rfl (by simp at hz ⊢; omega) (fun j q hj e => hDm j q e) (fun q hq => (hlt2 x q hDx hq).mono ?_) (fun p q hp hq => (hlt2 p q hp hq).mono ?_) (fun l'' e => ?_) (fun l'' e => ?_)
      · exact at_set_same
      · intro σ' h; exact Over.set _ (Over.set _ h)
      · intro σ' h; exact Over.set _ (Over.set _ h)
      · have := hfin _ e; cases this
      · have := hfin _ e; cases this
        rw [AHeap.set_set, AHeap.set_set]
        repeat walk_at "s1"
        exact hQ r m x rfl
end Mine
end
section
open PySem PySem.W
set_option Elab.async false
set_option linter.unusedVariables false
set_option maxRecDepth 100000
namespace Mine
-- an object of the state
local macro_rules | `(tactic| walk_at "hp") => `(tactic| first | assumption | exact at_set_same | (refine at_set_ne ?_ ?_; (first | assumption | (apply Ne.symm; assumption)); walk_at "hp"))
set_option hygiene false in
local macro_rules | `(tactic| walk_at "kd") => `(tactic| (rw [hsc]; rfl))
set_option hygiene false in
local macro_rules | `(tactic| walk_at "s1") => `(tactic| with_reducible first
  | refine seqQ_next ?_
  | refine seqQ_brk ?_
  | refine seqQ_cont ?_
  | refine seqQ_ret ?_
  | refine loopQ_brk ?_
  | refine loopQ_ret ?_
  | refine forQ_brk ?_
  | refine forQ_ret ?_
  | refine S_last ?_
  | refine S_seq ?_
  | refine S_nil ?_
  | (refine S_Assign ?_ ?h1; (case h1 => with_unfolding_all exact rfl))
  | (refine S_AssignSub ?_ ?h1; (case h1 => with_unfolding_all exact rfl))
  | refine S_if ?_
  | refine S_Return ?_
  | refine S_Break ?_
  | refine S_Continue ?_
  | (refine S_Expr ?_ ?h1 ?h2; (case h1 => with_unfolding_all (unfold PySem.interactive; walk_at "kd")); (case h2 => with_unfolding_all exact rfl))
  | (refine' W1_store ?h1 ?_; (case h1 => with_unfolding_all walk_at "kd"))
  | (refine' E_local ?h1 ?h2 ?_ ?h3; (case h1 => with_unfolding_all walk_at "kd"); (case h2 => with_unfolding_all exact rfl); (case h3 => with_unfolding_all exact rfl))
  | refine E_int ?_
  | refine E_none ?_
  | refine E_BinOp ?_
  | (refine E_Subscript ?_ ?h1; (case h1 => with_unfolding_all exact rfl))
  | (refine C_Compare ?_ ?h1; (case h1 => with_unfolding_all exact rfl))
  | refine C_Not ?_
  | refine C_BoolOp ?_
  | refine truthy_b ?_
  | refine bin_add ?_
  | refine bin_sub ?_
  | (refine bin_shr ?h1 ?_; (case h1 => with_unfolding_all decide))
  | refine cmp_lt ?_
  | (refine bin_mul ?_ ?h1; (case h1 => exact mulOk2))
  | refine And_last ?_
  | refine And_step ?_
  | refine Or_last ?_
  | refine Or_step ?_
  | refine andQ_true ?_
  | refine andQ_false ?_
  | refine orQ_true ?_
  | refine orQ_false ?_
  | refine ifQ_true ?_
  | refine ifQ_false ?_
  | (refine' E_CallG B.gd ?h1 ?h2 ?h3 ?h4 ?_ ?h5 ?h6 ?h7 ?h8; (case h1 => with_unfolding_all walk_at "kd"); (case h2 => with_unfolding_all exact rfl); (case h3 => exact (B.fn _ (by simp)).get); (case h4 => with_unfolding_all exact rfl); (case h5 => with_unfolding_all exact rfl); (case h6 => with_unfolding_all exact rfl); (case h7 => with_unfolding_all exact rfl); (case h8 => with_unfolding_all exact rfl))
  | (refine' E_CallB B.gd ?h1 ?h2 ?h3 ?h4 ?_ ?h5 ?h6 ?h7 ?h8; (case h1 => with_unfolding_all walk_at "kd"); (case h2 => with_unfolding_all exact rfl); (case h3 => decide); (case h4 => with_unfolding_all exact rfl); (case h5 => with_unfolding_all exact rfl); (case h6 => with_unfolding_all exact rfl); (case h7 => with_unfolding_all exact rfl); (case h8 => with_unfolding_all exact rfl))
  | (refine' E_CallT B.gd ?h1 ?h2 ?h3 ?h4 ?_ ?h5 ?h6 ?h7 ?h8; (case h1 => with_unfolding_all walk_at "kd"); (case h2 => with_unfolding_all exact rfl); (case h3 => decide); (case h4 => with_unfolding_all exact rfl); (case h5 => with_unfolding_all exact rfl); (case h6 => with_unfolding_all exact rfl); (case h7 => with_unfolding_all exact rfl); (case h8 => with_unfolding_all exact rfl))
  | refine cmp_gt ?_
  | refine And.intro ⟨_, _, rfl, seq_of (by with_unfolding_all walk_at "hp")⟩ ?_
  | (refine' E_MethList (id := "list.append") F.slot_list_append F.type_list_append ?_ ?h1 ?h2 ?h3 ?h4 ?h5; (case h1 => with_unfolding_all exact rfl); (case h2 => with_unfolding_all exact rfl); (case h3 => with_unfolding_all exact rfl); (case h4 => with_unfolding_all exact rfl); (case h5 => with_unfolding_all exact rfl))
  | (refine' E_MethList0 (id := "list.pop") F.slot_list_pop F.type_list_pop ?_ ?h1 ?h2; (case h1 => with_unfolding_all exact rfl); (case h2 => with_unfolding_all exact rfl))
  | (refine C_value ?_ ?h1; (case h1 => with_unfolding_all exact rfl))
  | refine truthy_i ?_
  | (refine E_Tuple ?_)
  | (refine S_AssignTup ?_ ?h1 ?h2; (case h1 => with_unfolding_all exact rfl); (case h2 => with_unfolding_all exact swapped_of hsc rfl))
  | (refine Asg_Tuple rfl ?_ ?h1 ?h2 ?h3; (case h1 => with_unfolding_all exact rfl); (case h2 => with_unfolding_all exact rfl); (case h3 => with_unfolding_all exact rfl))
  | refine asgAll_cons ?_
  | refine asgAll_nil ?_
  | (refine' Asg_local ?h1 ?_; (case h1 => with_unfolding_all walk_at "kd"))
  | refine Asg_Sub ?_
  | refine A_nil ?_
  | (refine A_cons ?_ ?h1; (case h1 => with_unfolding_all exact rfl)))


variable {w : World} {base : Heap} {os : OsState} {mb : Str → Option Value}

theorem heappushpop_call (B : Bs (G w base os mb)) {n : Nat} {a : Addr} {l : List PV} {σ : AHeap} {x d : PV} {ltx ltr : PV → Option Bool} {ltb : PV → PV → Bool} (D : PV → Prop)
    {X : String → AHeap → Prop} {Q : PV → AHeap → Prop} (hs : σ a = some (.list l)) (hz : l.length ≤ 100000)
    (hD : ∀ q ∈ l, D q) (hlt : ∀ q, D q → LtAt (G w base os mb) (Over σ a) (ltx q) x q) (hltr : ∀ q, D q → LtAt (G w base os mb) (Over σ a) (ltr q) q x) (hlt2 : ∀ p q, D p → D q → LtAt (G w base os mb) (Over σ a) (some (ltb p q)) p q)
    (h0 : l = [] → Q x σ)
    (hX : ∀ r, l[0]? = some r → ltr r = none → X "TypeError" σ)
    (hF : ∀ r, l[0]? = some r → ltr r = some false → Q x σ)
    (hXT : ∀ l' r, l[0]? = some r → ltr r = some true → sdnP ltx d x (supB ltb d 0 (l.set 0 x)).1 ((supB ltb d 0 (l.set 0 x)).2.set (supB ltb d 0 (l.set 0 x)).1 x) = .error l' → X "TypeError" (σ.set a (.list l')))
    (hQ : ∀ l' r, l[0]? = some r → ltr r = some true → sdnP ltx d x (supB ltb d 0 (l.set 0 x)).1 ((supB ltb d 0 (l.set 0 x)).2.set (supB ltb d 0 (l.set 0 x)).1 x) = .ok l' → Q r (σ.set a (.list l'))) :
    CallS (G w base os mb) ⟨n + 3, true⟩ (.ref 42) [.ref a, x] X Q σ := by
  refine call_def (fd := fdAt 42) (body := bdAt 42) [Str.ofString "heap", Str.ofString "item"] B.gd (B.fn 42 (by simp)).get rfl rfl (B.fn 42 (by simp)).code rfl rfl rfl rfl rfl rfl (by decide) rfl (fun vs hv => ?_) (fun i => rfl) (fun i => rfl) ?_
  · match vs, hv with
    | [v1, v2], _ => rfl
  intro c L hc hlv hsc hce hq hf
  obtain ⟨g, lv, A, env⟩ := c
  subst hc hlv
  show WS _ (bdAt 42) _ _ ([(Str.ofString "heap", .ref a), (Str.ofString "item", x)], σ)
  refine S_seq ?_
  repeat walk_at "s1"
  refine truthy_l (seq_of (by walk_at "hp")) (by omega) ?_
  cases l with
  | nil =>
    refine andQ_false ?_
    repeat walk_at "s1"
    exact h0 rfl
  | cons r l =>
    refine andQ_true ?_
    repeat walk_at "s1"
    refine get_list (p := r) (seq_of (by walk_at "hp")) (by omega) rfl (by omega) ?_
    repeat walk_at "s1"
    have hr : D r := hD r (by simp)
    refine hltr _ hr _ _ _ _ _ rfl rfl ⟨r :: l, (AHeap.set_self _ hs).symm⟩ ?_
    cases hc : ltr r with
    | none => exact hX r rfl hc
    | some b =>
      dsimp only
      repeat walk_at "s1"
      cases b with
      | false =>
        repeat walk_at "s1"
        exact hF r rfl hc
      | true =>
        repeat walk_at "s1"
        refine get_list (p := r) (seq_of (by walk_at "hp")) (by omega) rfl (by omega) ?_
        repeat walk_at "s1"
        refine ⟨by simp, ?_⟩
        repeat walk_at "s1"
        refine set_list (by walk_at "hp") (by omega) (by simp <;> omega) (by omega) ?_
        repeat walk_at "s1"
        refine WN_call ?_
        refine siftup_call B (l := (r :: l).set 0 x) (d := d) (ltx := ltx) (ltb := ltb) D at_set_same rfl (by simp at hz ⊢; omega) (fun j q hj e => ?_) (fun q hq => (hlt q hq).mono Over.set) (fun p q hp hq => (hlt2 p q hp hq).mono Over.set) (fun l'' e => ?_) (fun l'' e => ?_)
        · rw [List.getElem?_set_ne (Ne.symm hj)] at e; exact hD q (List.mem_of_getElem? e)
        · rw [AHeap.set_set]; exact hXT _ r rfl hc e
        · rw [AHeap.set_set]
          repeat walk_at "s1"
          exact hQ _ r rfl hc e

theorem delitem_call (B : Bs (G w base os mb)) {n : Nat} {a : Addr} {l : List PV} {σ : AHeap} {i : Nat}
    {X : String → AHeap → Prop} {Q : PV → AHeap → Prop} (hs : σ a = some (.list l)) (hi : i < l.length) (hz : l.length ≤ 100000) (hQ : Q .none (σ.set a (.list (l.eraseIdx i)))) :
    CallS (G w base os mb) ⟨n + 1, true⟩ (.ref 63) [.ref a, .int i] X Q σ := by
  refine call_def (fd := fdAt 63) (body := bdAt 63) [Str.ofString "a", Str.ofString "b"] B.gd (B.fn 63 (by simp)).get rfl rfl (B.fn 63 (by simp)).code rfl rfl rfl rfl rfl rfl (by decide) rfl (fun vs hv => ?_) (fun i => rfl) (fun i => rfl) ?_
  · match vs, hv with
    | [v1, v2], _ => rfl
  intro c L hc hlv hsc hce hq hf
  obtain ⟨g, lv, A, env⟩ := c
  subst hc hlv
  show WS _ (bdAt 63) _ _ ([(Str.ofString "a", .ref a), (Str.ofString "b", .int i)], σ)
  refine S_last (S_DelSub ?_)
  repeat walk_at "s1"
  refine del_list (by walk_at "hp") (by omega) (by omega) (by omega) ?_
  exact hQ
theorem setitem_call (B : Bs (G w base os mb)) {n : Nat} {a : Addr} {l : List PV} {σ : AHeap} {i : Nat} {x : PV}
    {X : String → AHeap → Prop} {Q : PV → AHeap → Prop} (hs : σ a = some (.list l)) (hi : i < l.length) (hz : l.length ≤ 100000) (hQ : Q .none (σ.set a (.list (l.set i x)))) :
    CallS (G w base os mb) ⟨n + 1, true⟩ (.ref 77) [.ref a, .int i, x] X Q σ := by
  refine call_def (fd := fdAt 77) (body := bdAt 77) [Str.ofString "a", Str.ofString "b", Str.ofString "c"] B.gd (B.fn 77 (by simp)).get rfl rfl (B.fn 77 (by simp)).code rfl rfl rfl rfl rfl rfl (by decide) rfl (fun vs hv => ?_) (fun i => rfl) (fun i => rfl) ?_
  · match vs, hv with
    | [v1, v2, v3], _ => rfl
  intro c L hc hlv hsc hce hq hf
  obtain ⟨g, lv, A, env⟩ := c
  subst hc hlv
  show WS _ (bdAt 77) _ _ ([(Str.ofString "a", .ref a), (Str.ofString "b", .int i), (Str.ofString "c", x)], σ)
  refine S_last ?_
  repeat walk_at "s1"
  refine set_list (by walk_at "hp") (by omega) (by omega) (by omega) ?_
  exact hQ
end Mine
end
section
open PySem PySem.W
set_option Elab.async false
set_option linter.unusedVariables false
set_option maxRecDepth 100000
namespace Mine
-- an object of the state
local macro_rules | `(tactic| walk_at "hp") => `(tactic| first | assumption | exact at_set_same | (refine at_set_ne ?_ ?_; (first | assumption | (apply Ne.symm; assumption)); walk_at "hp"))
set_option hygiene false in
local macro_rules | `(tactic| walk_at "kd") => `(tactic| (rw [hsc]; rfl))
set_option hygiene false in
local macro_rules | `(tactic| walk_at "s1") => `(tactic| with_reducible first
  | refine seqQ_next ?_
  | refine seqQ_brk ?_
  | refine seqQ_cont ?_
  | refine seqQ_ret ?_
  | refine loopQ_brk ?_
  | refine loopQ_ret ?_
  | refine forQ_brk ?_
  | refine forQ_ret ?_
  | refine S_last ?_
  | refine S_seq ?_
  | refine S_nil ?_
  | (refine S_Assign ?_ ?h1; (case h1 => with_unfolding_all exact rfl))
  | (refine S_AssignSub ?_ ?h1; (case h1 => with_unfolding_all exact rfl))
  | refine S_if ?_
  | refine S_Return ?_
  | refine S_Break ?_
  | refine S_Continue ?_
  | (refine S_Expr ?_ ?h1 ?h2; (case h1 => with_unfolding_all (unfold PySem.interactive; walk_at "kd")); (case h2 => with_unfolding_all exact rfl))
  | (refine' W1_store ?h1 ?_; (case h1 => with_unfolding_all walk_at "kd"))
  | (refine' E_local ?h1 ?h2 ?_ ?h3; (case h1 => with_unfolding_all walk_at "kd"); (case h2 => with_unfolding_all exact rfl); (case h3 => with_unfolding_all exact rfl))
  | refine E_int ?_
  | refine E_none ?_
  | refine E_BinOp ?_
  | (refine E_Subscript ?_ ?h1; (case h1 => with_unfolding_all exact rfl))
  | (refine C_Compare ?_ ?h1; (case h1 => with_unfolding_all exact rfl))
  | refine C_Not ?_
  | refine C_BoolOp ?_
  | refine truthy_b ?_
  | refine bin_add ?_
  | refine bin_sub ?_
  | (refine bin_shr ?h1 ?_; (case h1 => with_unfolding_all decide))
  | refine cmp_lt ?_
  | (refine bin_mul ?_ ?h1; (case h1 => exact mulOk2))
  | refine And_last ?_
  | refine And_step ?_
  | refine Or_last ?_
  | refine Or_step ?_
  | refine andQ_true ?_
  | refine andQ_false ?_
  | refine orQ_true ?_
  | refine orQ_false ?_
  | refine ifQ_true ?_
  | refine ifQ_false ?_
  | (refine' E_CallG B.gd ?h1 ?h2 ?h3 ?h4 ?_ ?h5 ?h6 ?h7 ?h8; (case h1 => with_unfolding_all walk_at "kd"); (case h2 => with_unfolding_all exact rfl); (case h3 => exact (B.fn _ (by simp)).get); (case h4 => with_unfolding_all exact rfl); (case h5 => with_unfolding_all exact rfl); (case h6 => with_unfolding_all exact rfl); (case h7 => with_unfolding_all exact rfl); (case h8 => with_unfolding_all exact rfl))
  | (refine' E_CallB B.gd ?h1 ?h2 ?h3 ?h4 ?_ ?h5 ?h6 ?h7 ?h8; (case h1 => with_unfolding_all walk_at "kd"); (case h2 => with_unfolding_all exact rfl); (case h3 => decide); (case h4 => with_unfolding_all exact rfl); (case h5 => with_unfolding_all exact rfl); (case h6 => with_unfolding_all exact rfl); (case h7 => with_unfolding_all exact rfl); (case h8 => with_unfolding_all exact rfl))
  | (refine' E_CallT B.gd ?h1 ?h2 ?h3 ?h4 ?_ ?h5 ?h6 ?h7 ?h8; (case h1 => with_unfolding_all walk_at "kd"); (case h2 => with_unfolding_all exact rfl); (case h3 => decide); (case h4 => with_unfolding_all exact rfl); (case h5 => with_unfolding_all exact rfl); (case h6 => with_unfolding_all exact rfl); (case h7 => with_unfolding_all exact rfl); (case h8 => with_unfolding_all exact rfl))
  | refine cmp_gt ?_
  | refine And.intro ⟨_, _, rfl, seq_of (by with_unfolding_all walk_at "hp")⟩ ?_
  | (refine' E_MethList (id := "list.append") F.slot_list_append F.type_list_append ?_ ?h1 ?h2 ?h3 ?h4 ?h5; (case h1 => with_unfolding_all exact rfl); (case h2 => with_unfolding_all exact rfl); (case h3 => with_unfolding_all exact rfl); (case h4 => with_unfolding_all exact rfl); (case h5 => with_unfolding_all exact rfl))
  | (refine' E_MethList0 (id := "list.pop") F.slot_list_pop F.type_list_pop ?_ ?h1 ?h2; (case h1 => with_unfolding_all exact rfl); (case h2 => with_unfolding_all exact rfl))
  | (refine C_value ?_ ?h1; (case h1 => with_unfolding_all exact rfl))
  | refine truthy_i ?_
  | (refine E_Tuple ?_)
  | (refine S_AssignTup ?_ ?h1 ?h2; (case h1 => with_unfolding_all exact rfl); (case h2 => with_unfolding_all exact swapped_of hsc rfl))
  | (refine Asg_Tuple rfl ?_ ?h1 ?h2 ?h3; (case h1 => with_unfolding_all exact rfl); (case h2 => with_unfolding_all exact rfl); (case h3 => with_unfolding_all exact rfl))
  | refine asgAll_cons ?_
  | refine asgAll_nil ?_
  | (refine' Asg_local ?h1 ?_; (case h1 => with_unfolding_all walk_at "kd"))
  | refine Asg_Sub ?_
  | refine A_nil ?_
  | (refine A_cons ?_ ?h1; (case h1 => with_unfolding_all exact rfl)))


variable {w : World} {base : Heap} {os : OsState} {mb : Str → Option Value}

theorem less_set {σ : AHeap} {e it : Addr} {o o' : AObj} (h1 : σ e = none) (h2 : σ it = none) : ((σ.set it o).set e o').less e it = σ := by
  funext x
  unfold AHeap.less
  by_cases h : x = e ∨ x = it
  · rw [if_pos h]; rcases h with rfl | rfl
    · exact h1.symm
    · exact h2.symm
  · rw [if_neg h]
    have a : x ≠ e := fun q => h (.inl q)
    have b : x ≠ it := fun q => h (.inr q)
    rw [AHeap.set_ne _ _ a, AHeap.set_ne _ _ b]

theorem indexOf_call (B : Bs (G w base os mb)) {n : Nat} {a : Addr} {l : List PV} {m : Nat} {x : PV} {σ : AHeap} {X : String → AHeap → Prop} {Q : PV → AHeap → Prop} (hs : σ a = some (.list l))
    (hi : ∀ k, k < m → ∃ v, l[k]? = some (.int v)) (hm : l[m]? = some x) (hx : Strange σ x) (ht : ∀ y t, x = .str y t → t ≠ 0) (hz : l.length ≤ 100000)
    (hQ : Q (.int m) σ) : CallS (G w base os mb) ⟨n + 1, true⟩ (.ref 70) [.ref a, x] X Q σ := by
  refine call_def (fd := fdAt 70) (body := bdAt 70) [Str.ofString "a", Str.ofString "b"] B.gd (B.fn 70 (by simp)).get rfl rfl (B.fn 70 (by simp)).code rfl rfl rfl rfl rfl rfl (by decide) rfl (fun vs hv => ?_) (fun i => rfl) (fun i => rfl) ?_
  · match vs, hv with
    | [v1, v2], _ => rfl
  intro c L hc hlv hsc hce hq hf
  obtain ⟨g, lv, A, env⟩ := c
  subst hc hlv
  show WS _ (bdAt 70) _ _ ([(Str.ofString "a", .ref a), (Str.ofString "b", x)], σ)
  refine S_last ?_
  refine S_forI rfl (fun k st => k ≤ m ∧ st = ([(Str.ofString "a", .ref a), (Str.ofString "b", x)], σ)) (WI_of' ?_) (fun x => rfl)
  repeat walk_at "s1"
  refine call_enum (seq_of (by walk_at "hp")) fun e it oi hoi hne hae hai he hit => ?_
  refine ⟨enumL l, fun σ => seqAt σ a = some l, _, it_enum hoi hne (by walk_at "hp") (at_set_ne (Ne.symm hne) at_set_same), ?_⟩
  rw [less_set he hit]
  have hml : m < l.length := (List.getElem?_eq_some_iff.mp hm).1
  refine ⟨_, ⟨Nat.zero_le _, rfl⟩, St.le_refl _, ?_, ?_, ?_⟩
  · rintro k _ ⟨_, rfl⟩; exact seq_of hs
  · rintro k p _ hp ⟨hk, rfl⟩
    obtain ⟨q, hq', rfl⟩ := enumL_get hp
    repeat walk_at "s1"
    rcases Nat.lt_or_ge k m with hkm | hkm
    · obtain ⟨v, hv⟩ := hi k hkm
      rw [hv] at hq'; cases hq'
      refine is_int_strange hx ?_
      repeat walk_at "s1"
      refine eq_int_strange hx ?_
      repeat walk_at "s1"
      exact forQ_next ⟨hkm, rfl⟩ (St.le_app (.refl _))
    · have : k = m := Nat.le_antisymm hk hkm
      subst this
      rw [hm] at hq'; cases hq'
      have key : ∀ Q' : PV → St → Prop, Q' (.bool true) (setL (Str.ofString "j") x (setL (Str.ofString "i") (.int k) [(Str.ofString "a", .ref a), (Str.ofString "b", x)]), σ) → W2 (⟨G w base os mb, ⟨n, true⟩, A, env⟩ : Cx) VRep x x (compareOp .Is) (fun e st => X e st.2) Q' (setL (Str.ofString "j") x (setL (Str.ofString "i") (.int k) [(Str.ofString "a", .ref a), (Str.ofString "b", x)]), σ) := fun Q' hq => by
        cases hx with
        | str y t => exact is_str (ht y t rfl) hq
        | none => exact is_none (by intro x h; cases h) hq
        | list h => exact is_self hq
      refine key _ ?_
      repeat walk_at "s1"
      exact hQ
  · rintro _ ⟨hk, rfl⟩
    rw [enumL_length] at hk
    exact absurd hml (Nat.not_lt.mpr hk)
end Mine
end
section
open PySem PySem.W
set_option Elab.async false
set_option linter.unusedVariables false
set_option maxRecDepth 100000
namespace Mine
-- an object of the state
local macro_rules | `(tactic| walk_at "hp") => `(tactic| first | assumption | exact at_set_same | (refine at_set_ne ?_ ?_; (first | assumption | (apply Ne.symm; assumption)); walk_at "hp") | (refine at_set_fresh (by assumption) ?_; walk_at "hp"))
set_option hygiene false in
local macro_rules | `(tactic| walk_at "kd") => `(tactic| first | (rw [hsc]; rfl) | (rw [hsc', relabel_of hsc]; rfl))
set_option hygiene false in
local macro_rules | `(tactic| walk_at "ce") => `(tactic| first | (rw [hce]; rfl) | (rw [hce']; rfl))
set_option hygiene false in
local macro_rules | `(tactic| walk_at "s1") => `(tactic| with_reducible first
  | refine seqQ_next ?_
  | refine seqQ_brk ?_
  | refine seqQ_cont ?_
  | refine seqQ_ret ?_
  | refine loopQ_brk ?_
  | refine loopQ_ret ?_
  | refine forQ_brk ?_
  | refine forQ_ret ?_
  | refine S_last ?_
  | refine S_seq ?_
  | refine S_nil ?_
  | (refine S_Assign ?_ ?h1; (case h1 => with_unfolding_all exact rfl))
  | (refine S_AssignSub ?_ ?h1; (case h1 => with_unfolding_all exact rfl))
  | refine S_if ?_
  | refine S_Return ?_
  | refine S_Break ?_
  | refine S_Continue ?_
  | (refine S_Expr ?_ ?h1 ?h2; (case h1 => with_unfolding_all (unfold PySem.interactive; walk_at "kd")); (case h2 => with_unfolding_all exact rfl))
  | (refine' W1_store ?h1 ?_; (case h1 => with_unfolding_all walk_at "kd"))
  | (refine' E_local ?h1 ?h2 ?_ ?h3; (case h1 => with_unfolding_all walk_at "kd"); (case h2 => with_unfolding_all exact rfl); (case h3 => with_unfolding_all exact rfl))
  | (refine' E_cell ?h1 ?h2 ?h3 ?_ ?h4; (case h1 => with_unfolding_all walk_at "kd"); (case h2 => with_unfolding_all walk_at "ce"); (case h3 => walk_at "hp"); (case h4 => with_unfolding_all exact rfl))
  | refine E_int ?_
  | refine E_none ?_
  | refine E_BinOp ?_
  | (refine E_Subscript ?_ ?h1; (case h1 => with_unfolding_all exact rfl))
  | (refine C_Compare ?_ ?h1; (case h1 => with_unfolding_all exact rfl))
  | refine C_Not ?_
  | refine C_BoolOp ?_
  | refine truthy_b ?_
  | refine bin_add ?_
  | refine bin_sub ?_
  | (refine bin_shr ?h1 ?_; (case h1 => with_unfolding_all decide))
  | refine cmp_lt ?_
  | (refine bin_mul ?_ ?h1; (case h1 => exact mulOk2))
  | refine And_last ?_
  | refine And_step ?_
  | refine Or_last ?_
  | refine Or_step ?_
  | refine andQ_true ?_
  | refine andQ_false ?_
  | refine orQ_true ?_
  | refine orQ_false ?_
  | refine ifQ_true ?_
  | refine ifQ_false ?_
  | (refine' E_CallG B.gd ?h1 ?h2 ?h3 ?h4 ?_ ?h5 ?h6 ?h7 ?h8; (case h1 => with_unfolding_all walk_at "kd"); (case h2 => with_unfolding_all exact rfl); (case h3 => exact (B.fn _ (by simp)).get); (case h4 => with_unfolding_all exact rfl); (case h5 => with_unfolding_all exact rfl); (case h6 => with_unfolding_all exact rfl); (case h7 => with_unfolding_all exact rfl); (case h8 => with_unfolding_all exact rfl))
  | (refine' E_CallB B.gd ?h1 ?h2 ?h3 ?h4 ?_ ?h5 ?h6 ?h7 ?h8; (case h1 => with_unfolding_all walk_at "kd"); (case h2 => with_unfolding_all exact rfl); (case h3 => decide); (case h4 => with_unfolding_all exact rfl); (case h5 => with_unfolding_all exact rfl); (case h6 => with_unfolding_all exact rfl); (case h7 => with_unfolding_all exact rfl); (case h8 => with_unfolding_all exact rfl))
  | (refine' E_CallT B.gd ?h1 ?h2 ?h3 ?h4 ?_ ?h5 ?h6 ?h7 ?h8; (case h1 => with_unfolding_all walk_at "kd"); (case h2 => with_unfolding_all exact rfl); (case h3 => decide); (case h4 => with_unfolding_all exact rfl); (case h5 => with_unfolding_all exact rfl); (case h6 => with_unfolding_all exact rfl); (case h7 => with_unfolding_all exact rfl); (case h8 => with_unfolding_all exact rfl))
  | refine cmp_gt ?_
  | refine Ifs_one ?_
  | refine Ifs_nil ?_
  | refine cmp_ne ?_
  | refine cmp_eq ?_
  | (refine bin_floordiv ?h1 ?h2 ?_; (case h1 => with_unfolding_all decide); (case h2 => with_unfolding_all decide))
  | refine E_List ?_
  | refine And.intro ⟨_, _, rfl, seq_of (by with_unfolding_all walk_at "hp")⟩ ?_
  | (refine' E_MethList (id := "list.append") F.slot_list_append F.type_list_append ?_ ?h1 ?h2 ?h3 ?h4 ?h5; (case h1 => with_unfolding_all exact rfl); (case h2 => with_unfolding_all exact rfl); (case h3 => with_unfolding_all exact rfl); (case h4 => with_unfolding_all exact rfl); (case h5 => with_unfolding_all exact rfl))
  | (refine' E_MethList0 (id := "list.pop") F.slot_list_pop F.type_list_pop ?_ ?h1 ?h2; (case h1 => with_unfolding_all exact rfl); (case h2 => with_unfolding_all exact rfl))
  | (refine C_value ?_ ?h1; (case h1 => with_unfolding_all exact rfl))
  | refine truthy_i ?_
  | (refine E_Tuple ?_)
  | (refine S_AssignTup ?_ ?h1 ?h2; (case h1 => with_unfolding_all exact rfl); (case h2 => with_unfolding_all exact swapped_of hsc rfl))
  | (refine Asg_Tuple rfl ?_ ?h1 ?h2 ?h3; (case h1 => with_unfolding_all exact rfl); (case h2 => with_unfolding_all exact rfl); (case h3 => with_unfolding_all exact rfl))
  | refine asgAll_cons ?_
  | refine asgAll_nil ?_
  | (refine' Asg_local ?h1 ?_; (case h1 => with_unfolding_all walk_at "kd"))
  | refine Asg_Sub ?_
  | refine A_nil ?_
  | (refine A_cons ?_ ?h1; (case h1 => with_unfolding_all exact rfl)))


variable {w : World} {base : Heap} {os : OsState} {mb : Str → Option Value}

def pairsOf (wo : Int) (n : Nat) : List PV := ((List.range n).filter fun (j : Nat) => decide (1 + (j : Int) * 1 ≠ wo)).map fun (j : Nat) => PV.tup [.int (1 + (j : Int) * 1), .int ((1 + (j : Int) * 1 - 1).fdiv 2)]
theorem pairsOf_succ (wo : Int) (n : Nat) : pairsOf wo (n + 1) = pairsOf wo n ++ if 1 + (n : Int) * 1 ≠ wo then [PV.tup [.int (1 + (n : Int) * 1), .int ((1 + (n : Int) * 1 - 1).fdiv 2)]] else [] := by
  unfold pairsOf
  rw [List.range_succ, List.filter_append, List.map_append]
  congr 1
  by_cases h : 1 + (n : Int) * 1 ≠ wo
  · rw [if_pos h, List.filter_cons_of_pos (by simpa using h)]; rfl
  · rw [if_neg h, List.filter_cons_of_neg (by simpa using h)]; rfl
theorem pairsOf_len (wo : Int) (n : Nat) : (pairsOf wo n).length ≤ n := by
  unfold pairsOf
  rw [List.length_map]
  exact Nat.le_trans (List.length_filter_le _ _) (by simp)
theorem pairsOf_mem {wo : Int} {n : Nat} {p : PV} (h : p ∈ pairsOf wo n) : ∃ j : Nat, j < n ∧ 1 + (j : Int) ≠ wo ∧ p = .tup [.int (1 + (j : Int)), .int (((j / 2 : Nat) : Int))] := by
  unfold pairsOf at h
  obtain ⟨j, hj, rfl⟩ := List.mem_map.mp h
  obtain ⟨h1, h2⟩ := List.mem_filter.mp hj
  simp at h1 h2
  refine ⟨j, h1, h2, ?_⟩
  have : (1 + (j : Int) * 1 - 1).fdiv 2 = ((j / 2 : Nat) : Int) := by rw [Int.fdiv_eq_ediv_of_nonneg _ (by omega)]; omega
  rw [this, Int.mul_one]

theorem steps_call (B : Bs (G w base os mb)) {n : Nat} {a : Addr} {l : List PV} {wo : Int} {σ : AHeap} {X : String → AHeap → Prop} {Q : PV → AHeap → Prop} (hs : σ a = some (.list l)) (hz : l.length ≤ 100000)
    (hst : ∀ k : Nat, 0 < k → k < l.length → (k : Int) ≠ wo → ∃ i j, l[k]? = some (.int i) ∧ l[(k - 1) / 2]? = some (.int j) ∧ j ≤ i)
    (hQ : Q (.bool true) σ) : CallS (G w base os mb) ⟨n + 1, true⟩ (.ref 82) [.ref a, .int wo] X Q σ := by
  refine call_def (fd := fdAt 82) (body := bdAt 82) [Str.ofString "heap", Str.ofString "without"] B.gd (B.fn 82 (by simp)).get rfl rfl (B.fn 82 (by simp)).code rfl rfl rfl rfl rfl rfl (by decide) rfl (fun vs hv => ?_) (fun i => rfl) (fun i => ?_) ?_
  · match vs, hv with
    | [v1, v2], _ => rfl
  · show ((true && (some (i + 1) == some (i + 1))) && ((true && (some i == some i)) && true)) = true
    simp
  intro c L hc hlv hsc hce hq hf
  obtain ⟨g, lv, A, env⟩ := c
  subst hc hlv
  have hn1 : σ (L + 1) = none := hf _ (Nat.le_succ _)
  have hn2 : (σ.set (L + 1) (.cell (some (.ref a)))) (L + 1 + 1) = none := by rw [AHeap.set_ne _ _ (Nat.ne_of_gt (Nat.lt_succ_self _))]; exact hf _ (Nat.le_of_lt (Nat.lt_succ_of_lt (Nat.lt_succ_self _)))
  refine WT.forget ?_
  show WS _ (bdAt 82) _ _ ([], (σ.set (L + 1) (.cell (some (.ref a)))).set (L + 1 + 1) (.cell (some (.int wo))))
  generalize hτ : (σ.set (L + 1) (.cell (some (.ref a)))).set (L + 1 + 1) (.cell (some (.int wo))) = τ
  have t1 : τ (L + 1) = some (.cell (some (.ref a))) := by rw [← hτ]; exact at_set_fresh hn2 at_set_same
  have t2 : τ (L + 1 + 1) = some (.cell (some (.int wo))) := by rw [← hτ]; exact at_set_same
  have t3 : τ a = some (.list l) := by rw [← hτ]; exact at_set_fresh hn2 (at_set_fresh hn1 hs)
  have tS : σ.Sub τ := by rw [← hτ]; exact ((AHeap.Sub.refl σ).fresh hn1).fresh hn2
  clear hτ
  refine S_seq ?_
  refine S_AssignComp (cl := [(Str.ofString "without", L + 1 + 1)]) rfl (swaps_of hsc rfl) (by walk_at "kd") (closure_of hce rfl) (by decide) rfl (by decide) (fun x => rfl) ?_
  repeat walk_at "s1"
  refine len_seq (seq_of (by walk_at "hp")) (by omega) ?_
  repeat walk_at "s1"
  refine call_range2 fun r hr => ⟨_, _, it_range at_set_same (by omega) (by omega) (by omega) (by omega), ⟨fun c' b hcx hlx hsc' hce' hb => ?_⟩⟩
  obtain ⟨g', lv', A', env'⟩ := c'
  cases hcx; cases hlx
  generalize hN : ((l.length : Int) - 1).toNat = N
  refine ⟨fun k st => st = ([], (τ.set r (.range 1 l.length 1)).set b (.list (pairsOf wo k))), rfl, fun _ _ _ => trivial, ?_, ?_⟩
  · rintro k p _ hp rfl
    obtain ⟨hk, rfl⟩ := rangeL_get hp
    repeat walk_at "s1"
    refine ⟨fun hb1 => ?_, fun hb1 => ?_⟩
    · repeat walk_at "s1"
      refine ⟨by simp, ?_⟩
      refine ⟨_, at_set_same, Nat.le_trans (pairsOf_len _ _) (by omega), _, rfl, ?_⟩
      rw [AHeap.set_set, pairsOf_succ, if_pos (by simpa using hb1)]
      exact St.le_app (.refl _)
    · refine ⟨_, rfl, ?_⟩
      rw [pairsOf_succ, if_neg (by simpa using hb1), List.append_nil]
      exact St.le_app (.refl _)
  · rintro _ rfl
    simp only [rangeL_length]
    generalize hυ : (τ.set r (.range 1 l.length 1)).set b (.list (pairsOf wo N)) = υ
    have u1 : υ (L + 1) = some (.cell (some (.ref a))) := by rw [← hυ]; exact at_set_fresh hb (at_set_fresh hr t1)
    have u3 : υ a = some (.list l) := by rw [← hυ]; exact at_set_fresh hb (at_set_fresh hr t3)
    have u4 : υ b = some (.list (pairsOf wo N)) := by rw [← hυ]; exact at_set_same
    have uS : σ.Sub υ := by rw [← hυ]; exact (tS.fresh hr).fresh hb
    clear hυ hsc' hce'
    repeat walk_at "s1"
    refine E_Compare ?_ rfl
    refine E_ListComp (cl := [(Str.ofString "heap", L + 1)]) rfl (closure_of hce rfl) (by decide) rfl (by decide) (fun x => rfl) ?_
    repeat walk_at "s1"
    refine ⟨_, _, it_list (seq_of u4), ⟨fun c' d hcx hlx hsc' hce' hd => ?_⟩⟩
    obtain ⟨g', lv', A', env'⟩ := c'
    cases hcx; cases hlx
    refine ⟨fun k st => st = ([], υ.set d (.list [])), rfl, ?_, ?_, ?_⟩
    · rintro k _ rfl; exact seq_of (at_set_fresh hd u4)
    · rintro k p _ hp rfl
      obtain ⟨j, hj, hjw, rfl⟩ := pairsOf_mem (List.mem_of_getElem? hp)
      obtain ⟨x, y, hx, hy, hxy⟩ := hst (j + 1) (by omega) (by omega) (by omega)
      repeat walk_at "s1"
      refine get_list (p := .int x) (seq_of (by walk_at "hp")) (by omega) (by rw [show (1 + (j : Int)).toNat = j + 1 by omega]; exact hx) (by omega) ?_
      repeat walk_at "s1"
      refine get_list (p := .int y) (seq_of (by walk_at "hp")) (by omega) (by rw [Int.toNat_natCast]; simpa using hy) (by omega) ?_
      repeat walk_at "s1"
      refine ⟨fun hb1 => ?_, fun hb1 => ?_⟩
      · simp at hb1; omega
      · exact ⟨_, rfl, St.le_app (.refl _)⟩
    · rintro _ rfl
      clear hsc' hce'
      repeat walk_at "s1"
      refine ⟨by simp, fun e he => ?_⟩
      refine cmp_list_eq (n := 0) (f := fun _ _ => true) (seq_of (at_set_fresh he at_set_same)) (seq_of at_set_same) (by simp) (by omega) ?_
      repeat walk_at "s1"
      exact ⟨([], σ), hQ, ⟨fun x p h => by simp at h, (uS.fresh hd).fresh he⟩⟩
end Mine
end
section
set_option Elab.async false
set_option linter.unusedVariables false
namespace Mine

/-! the way up from a leaf -/
section
variable {α : Type}
def upTo (stop p : Nat) (f : Nat → α) (M : List α) : List α :=
  if h : p > stop then upTo stop ((p - 1) / 2) f (M.set ((p - 1) / 2) (f p)) else M
termination_by p
decreasing_by omega
inductive Anc (c : Nat) : Nat → Prop
  | self : Anc c c
  | up {p} (h : p > c) (a : Anc c ((p - 1) / 2)) : Anc c p
theorem Anc.ge {c p : Nat} (h : Anc c p) : c ≤ p := by cases h <;> omega
theorem Anc.over {c p q : Nat} (h : Anc c p) (hq : (c - 1) / 2 = q) (hc : q < c) : Anc q p := by
  induction h with
  | self => exact .up hc (hq ▸ .self)
  | up h a ih => exact .up (by omega) ih
theorem upTo_congr {stop : Nat} {f g : Nat → α} (h : ∀ i, stop < i → f i = g i) (p : Nat) (M : List α) : upTo stop p f M = upTo stop p g M := by
  fun_induction upTo stop p f M with
  | case1 p M hp ih => rw [ih]; conv => rhs; rw [upTo, dif_pos hp, ← h p hp]
  | case2 p M hp => rw [upTo, dif_neg hp]
theorem upTo_comm {c pos : Nat} (hc : pos < c) {f : Nat → α} {v : α} : ∀ {p : Nat} {M : List α}, Anc c p → upTo c p f (M.set pos v) = (upTo c p f M).set pos v := by
  intro p M h
  induction h generalizing M with
  | self => rw [upTo, dif_neg (by omega)]; conv => rhs; rw [upTo, dif_neg (by omega)]
  | @up p hp a ih =>
    rw [upTo, dif_pos hp]
    conv => rhs; rw [upTo, dif_pos hp]
    have := a.ge
    rw [← ih, List.set_comm _ _ (by omega)]
theorem upTo_split {c pos : Nat} (hc : pos < c) (hp0 : (c - 1) / 2 = pos) {f : Nat → α} : ∀ {p : Nat} {M : List α}, Anc c p → upTo pos p f M = (upTo c p f M).set pos (f c) := by
  intro p M h
  induction h generalizing M with
  | self =>
    rw [upTo, dif_pos hc, hp0, upTo, dif_neg (by omega)]
    conv => rhs; rw [upTo, dif_neg (by omega)]
  | @up p hp a ih =>
    rw [upTo, dif_pos (by omega), ih]
    conv => rhs; rw [upTo, dif_pos hp]
theorem supB_anc {lt : α → α → Bool} {d : α} {pos : Nat} {l : List α} : Anc pos (supB lt d pos l).1 := by
  fun_induction supB lt d pos l with
  | case1 pos l h1 h2 ih => exact ih.over (by omega) (by omega)
  | case2 pos l h1 h2 ih => exact ih.over (by omega) (by omega)
  | case3 pos l h1 => exact .self
theorem supB_up {lt : α → α → Bool} {d q : α} {pos : Nat} {l : List α} (hp : pos < l.length) : upTo pos (supB lt d pos l).1 (fun i => l.getD i d) (l.set (supB lt d pos l).1 q) = (supB lt d pos l).2.set (supB lt d pos l).1 q := by
  have step : ∀ (pos : Nat) (l : List α) (c : Nat), (c - 1) / 2 = pos → pos < c →
      upTo c (supB lt d c (l.set pos (l.getD c d))).1 (fun i => (l.set pos (l.getD c d)).getD i d) ((l.set pos (l.getD c d)).set (supB lt d c (l.set pos (l.getD c d))).1 q) = (supB lt d c (l.set pos (l.getD c d))).2.set (supB lt d c (l.set pos (l.getD c d))).1 q →
      upTo pos (supB lt d c (l.set pos (l.getD c d))).1 (fun i => l.getD i d) (l.set (supB lt d c (l.set pos (l.getD c d))).1 q) = (supB lt d c (l.set pos (l.getD c d))).2.set (supB lt d c (l.set pos (l.getD c d))).1 q := by
    intro pos l c hcp hc ih
    have an : Anc c (supB lt d c (l.set pos (l.getD c d))).1 := supB_anc
    have := an.ge
    rw [← ih, upTo_split hc hcp an, List.set_comm _ _ (by omega), upTo_comm hc an]
    congr 1
    refine upTo_congr (fun i hi => ?_) _ _
    exact (getD_set_ne (by omega)).symm
  fun_induction supB lt d pos l with
  | case1 pos l h1 h2 ih => exact step pos l _ (by omega) (by omega) (ih (by simp; omega))
  | case2 pos l h1 h2 ih => exact step pos l _ (by omega) (by omega) (ih (by simp; omega))
  | case3 pos l h1 => rw [upTo, dif_neg (by omega)]
/-- what stands at the top does not matter -/
theorem supB_top {lt : α → α → Bool} {d q : α} {l : List α} (hl : 2 ≤ l.length) : supB lt d 0 (l.set 0 q) = supB lt d 0 l := by
  rw [supB, supB.eq_def lt d 0 l]
  have e1 : (l.set 0 q).getD (2 * 0 + 1) d = l.getD (2 * 0 + 1) d := getD_set_ne (by omega)
  have e2 : (l.set 0 q).getD (2 * 0 + 2) d = l.getD (2 * 0 + 2) d := getD_set_ne (by omega)
  rw [e1, e2]
  simp only [List.length_set, List.set_set]
  rw [dif_pos (by omega), dif_pos (by omega)]
end

/-! ints -/
abbrev lti : Int → Int → Bool := fun a b => decide (a < b)
theorem lti_irr (a : Int) : lti a a = false := by simp
abbrev IH (l : List Int) : Prop := IsHeap lti 0 l
theorem IH.le {l : List Int} (h : IH l) : ∀ x ∈ l, l.getD 0 0 ≤ x := fun x hx => by
  obtain ⟨k, hk, rfl⟩ := List.mem_iff_getElem.mp hx
  have := IsHeap.min ltI_tot h lti_irr k hk
  simp only [List.getD_eq_getElem?_getD, List.getElem?_eq_getElem hk, Option.getD_some] at this ⊢
  simpa using this
theorem IH.steps {l : List Int} (h : IH l) : ∀ k : Nat, 0 < k → k < l.length → ∃ i j, (intL l)[k]? = some (.int i) ∧ (intL l)[(k - 1) / 2]? = some (.int j) ∧ j ≤ i := fun k k0 kl => by
  have hq : (k - 1) / 2 < l.length := by omega
  refine ⟨l[k], l[(k - 1) / 2], by simp [intL, kl], by simp [intL, hq], ?_⟩
  have := h k k0 kl
  simp only [List.getD_eq_getElem?_getD, List.getElem?_eq_getElem kl, List.getElem?_eq_getElem hq, Option.getD_some] at this
  simpa using this
/-- a least item stands first -/
theorem sortI_cons {r : Int} {l m : List Int} (hp : (r :: l).Perm m) (hr : ∀ x ∈ l, r ≤ x) : sortI m = r :: sortI l := by
  refine (sortI_of ?_ ?_).symm
  · exact ((sortI_perm l).cons r).trans hp
  · rw [List.pairwise_cons]
    exact ⟨fun x hx => hr x ((sortI_perm l).mem_iff.mp hx), sortI_sorted l⟩
theorem sorted_head {bg hs : List Int} (hp : hs.Perm bg) (hsrt : bg.Pairwise (· ≤ ·)) (h : IH hs) {r : Int} {t : List Int} (hh : hs = r :: t) : ∃ m, bg = r :: m ∧ t.Perm m := by
  subst hh
  have e : bg = sortI (r :: t) := sortI_of hp.symm hsrt
  rw [sortI_cons (.refl _) (fun x hx => by have := h.le x (List.mem_cons_of_mem _ hx); simpa using this)] at e
  exact ⟨_, e, (sortI_perm t).symm⟩
theorem sortI_congr {l m : List Int} (h : l.Perm m) : sortI l = sortI m := sortI_of ((sortI_perm l).trans h) (sortI_sorted l)

/-- a stranger has been put in at the top and has come to the leaf p: the heap without it -/
theorem take_set_last {l : List Int} {n : Nat} {x : Int} (hl : l.length = n + 1) : l.set n x = l.take n ++ [x] := by
  rw [List.set_eq_take_append_cons_drop, if_pos (by omega), List.drop_of_length_le (by omega)]
theorem mend {hs : List Int} {n : Nat} (hl : hs.length = n + 1) (h : IH hs) {p : Nat} {R : List Int} (hr : supB lti 0 0 hs = (p, R)) :
    (p = n → IH (R.take n) ∧ (R.take n).Perm hs.tail) ∧
    (p < n → IH (sdnB lti 0 (R.getD n 0) p ((R.take n).set p (R.getD n 0))) ∧ (sdnB lti 0 (R.getD n 0) p ((R.take n).set p (R.getD n 0))).Perm hs.tail) := by
  have hH : Hole lti 0 p R := by have := supB_hole ltI_tot (d := (0 : Int)) (pos := 0) (l := hs) (by omega) h.hole0; rw [hr] at this; exact this
  have hRl : R.length = n + 1 := by have := supB_length lti (0 : Int) 0 hs; rw [hr] at this; exact this.trans hl
  have hleaf : R.length ≤ 2 * p + 1 := by have := supB_leaf (lt := lti) (d := (0 : Int)) (pos := 0) (l := hs); rw [hr] at this; simp only at this; omega
  have hperm : ∀ x, (R.set p x).Perm (x :: hs.tail) := fun x => by
    have := supB_perm (lt := lti) (d := (0 : Int)) (x := x) (pos := 0) (l := hs) (by omega)
    rw [hr] at this
    refine this.trans ?_
    cases hs with
    | nil => simp at hl
    | cons a t => exact .refl _
  have hget : ∀ k, k < n → (R.take n).getD k 0 = R.getD k 0 := fun k hk => by simp [List.getD_eq_getElem?_getD, List.getElem?_take, hk]
  have hTl : (R.take n).length = n := by simp; omega
  refine ⟨fun hp => ⟨fun k k0 kl => ?_, ?_⟩, fun hp => ⟨?_, ?_⟩⟩
  · rw [hTl] at kl
    rw [hget k kl, hget _ (by omega)]
    exact hH.else_ k k0 (by omega) (by omega) (by omega)
  · have := hperm 0
    rw [hp, take_set_last hRl] at this
    exact ((List.perm_append_comm (l₁ := [0]) (l₂ := R.take n)).trans this).cons_inv
  · refine sdnB_heap ltI_tot (by simp; omega) (Hole.set ⟨fun k k0 kl kp kq => ?_, fun _ k k0 kl kp => ?_⟩) fun k k0 kl kp => ?_
    · rw [hTl] at kl
      rw [hget k kl, hget _ (by omega)]
      exact hH.else_ k k0 (by omega) kp kq
    · rw [hTl] at kl; omega
    · simp at kl; omega
  · have e1 := sdnB_perm (lt := lti) (d := (0 : Int)) (x := R.getD n 0) (pos := p) (l := (R.take n).set p (R.getD n 0)) (by simp; omega)
    rw [List.set_set] at e1
    refine e1.trans ?_
    have e2 := (swap_perm (l := R) (i := p) (j := n) (x := 0) (d := 0) (by omega) (by omega) (by omega)).trans (hperm 0)
    rw [take_set_last (by simp; omega)] at e2
    have e3 : (R.set p (R.getD n 0)).take n = (R.take n).set p (R.getD n 0) := by rw [List.take_set]
    rw [e3] at e2
    exact ((List.perm_append_comm (l₁ := [0]) (l₂ := (R.take n).set p (R.getD n 0))).trans e2).cons_inv
/-- replaced -/
theorem repl {hs : List Int} {r n : Int} {t : List Int} (h : IH hs) (hh : hs = r :: t) : IH (topB lti 0 n (hs.set 0 n)) ∧ (topB lti 0 n (hs.set 0 n)).Perm (n :: t) := by
  subst hh
  refine ⟨topB_heap ltI_tot (by simp) (h.hole0.set), ?_⟩
  exact topB_perm (by simp)
theorem pushed {hs : List Int} {n : Int} (h : IH hs) : IH (sdnB lti 0 n hs.length (hs ++ [n])) ∧ (sdnB lti 0 n hs.length (hs ++ [n])).Perm (hs ++ [n]) := ⟨push_heap ltI_tot h, push_perm⟩
/-- taken off -/
theorem popped {hs : List Int} {r x : Int} {m : List Int} (h : IH hs) (hh : hs = r :: m ++ [x]) : IH (topB lti 0 x ((r :: m).set 0 x)) ∧ (topB lti 0 x ((r :: m).set 0 x)).Perm (m ++ [x]) := by
  subst hh
  refine ⟨topB_heap ltI_tot (by simp) (Hole.set ⟨fun k k0 kl _ _ => ?_, fun q => absurd q (Nat.lt_irrefl 0)⟩), ?_⟩
  · have := h k k0 (by simp at kl ⊢; omega)
    have hq : (k - 1) / 2 < (r :: m).length := by omega
    simpa only [List.getD_eq_getElem?_getD, List.getElem?_append_left kl, List.getElem?_append_left hq] using this
  · exact (topB_perm (by simp)).trans (List.perm_append_comm (l₁ := [x]) (l₂ := m))
end Mine
end
section
open PySem PySem.W
set_option Elab.async false
set_option linter.unusedVariables false
set_option maxRecDepth 100000
namespace Mine

def ltP : PV → PV → Bool
  | .int i, .int j => decide (i < j)
  | _, _ => false
theorem ltP_int (a b : Int) : ltP (.int a) (.int b) = lti a b := rfl
def IsI (p : PV) : Prop := ∃ i, p = .int i
theorem intL_isI {l : List Int} : ∀ q ∈ intL l, IsI q := fun q hq => by
  obtain ⟨i, _, rfl⟩ := List.mem_map.mp hq; exact ⟨i, rfl⟩
theorem intL_append (l m : List Int) : intL (l ++ m) = intL l ++ intL m := List.map_append
theorem intL_set (l : List Int) (i : Nat) (x : Int) : intL (l.set i x) = (intL l).set i (.int x) := List.map_set
@[simp] theorem intL_length (l : List Int) : (intL l).length = l.length := List.length_map ..
theorem sdnB_intL (x : Int) (pos : Nat) (l : List Int) : sdnB ltP (.int 0) (.int x) pos (intL l) = intL (sdnB lti 0 x pos l) := sdnB_map (f := PV.int) (lt := lti) (lt' := ltP) (d := 0) ltP_int x pos l
theorem supB_intL (pos : Nat) (l : List Int) : supB ltP (.int 0) pos (intL l) = ((supB lti 0 pos l).1, intL (supB lti 0 pos l).2) := supB_map (f := PV.int) (lt := lti) (lt' := ltP) (d := 0) ltP_int pos l
theorem topB_intL (x : Int) (l : List Int) : topB ltP (.int 0) (.int x) (intL l) = intL (topB lti 0 x l) := topB_map (f := PV.int) (lt := lti) (lt' := ltP) (d := 0) ltP_int x l

variable {w : World} {base : Heap} {os : OsState} {mb : Str → Option Value} {n : Nat} {a : Addr} {σ : AHeap} {X : String → AHeap → Prop} {Q : PV → AHeap → Prop} {hs : List Int}

theorem ltAt_ints {S : AHeap → Prop} : ∀ p q, IsI p → IsI q → LtAt (G w base os mb) S (some (ltP p q)) p q := by
  rintro _ _ ⟨i, rfl⟩ ⟨j, rfl⟩; exact ltAt_int
theorem sdnP_int {x : Int} {pos : Nat} {l : List Int} (h : pos < l.length) : sdnP (fun q => some (ltP (.int x) q)) (.int 0) (.int x) pos (intL l) = .ok (intL (sdnB lti 0 x pos l)) := by
  rw [sdnP_ok (lt := ltP) (fun _ => True) (fun q _ => rfl) _ _ (by simpa using h) (fun _ _ _ _ => trivial), sdnB_intL]
theorem topP_int {x : Int} {l : List Int} (h : 0 < l.length) :
    sdnP (fun q => some (ltP (.int x) q)) (.int 0) (.int x) (supB ltP (.int 0) 0 (intL l)).1 ((supB ltP (.int 0) 0 (intL l)).2.set (supB ltP (.int 0) 0 (intL l)).1 (.int x)) = .ok (intL (topB lti 0 x l)) := by
  rw [supB_intL]
  simp only [← intL_set]
  exact sdnP_int (by simpa using supB_lt h)

theorem pushI (B : Bs (G w base os mb)) {x : Int} (hh : σ a = some (.list (intL hs))) (hz : hs.length ≤ 1000) (hQ : Q .none (σ.set a (.list (intL (sdnB lti 0 x hs.length (hs ++ [x])))))) :
    CallS (G w base os mb) ⟨n + 2, true⟩ (.ref 21) [.ref a, .int x] X Q σ := by
  have e : sdnP (fun q => some (ltP (.int x) q)) (.int 0) (.int x) (intL hs).length (intL hs ++ [.int x]) = .ok (intL (sdnB lti 0 x hs.length (hs ++ [x]))) := by
    have := sdnP_int (x := x) (pos := hs.length) (l := hs ++ [x]) (by simp)
    rw [intL_append] at this
    rw [intL_length]; exact this
  refine heappush_call B (d := .int 0) (ltx := fun q => some (ltP (.int x) q)) IsI hh (by simp; omega) intL_isI (fun q hq => ltAt_ints _ _ ⟨x, rfl⟩ hq) (fun l' h => ?_) (fun l' h => ?_)
  · rw [e] at h; cases h
  · rw [e] at h; cases h; exact hQ
theorem replI (B : Bs (G w base os mb)) {x r : Int} {t : List Int} (he : hs = r :: t) (hh : σ a = some (.list (intL hs))) (hz : hs.length ≤ 1000) (hQ : Q (.int r) (σ.set a (.list (intL (topB lti 0 x (hs.set 0 x)))))) :
    CallS (G w base os mb) ⟨n + 3, true⟩ (.ref 35) [.ref a, .int x] X Q σ := by
  have e := topP_int (x := x) (l := hs.set 0 x) (by subst he; simp)
  rw [intL_set] at e
  refine heapreplace_call B (d := .int 0) (ltx := fun q => some (ltP (.int x) q)) (ltb := ltP) IsI hh (by simp; omega) intL_isI (fun q hq => ltAt_ints _ _ ⟨x, rfl⟩ hq) ltAt_ints (fun h => ?_) (fun l' _ h => ?_) (fun l' r' h0 h => ?_)
  · subst he; cases h
  · rw [e] at h; cases h
  · rw [e] at h; cases h
    subst he
    cases h0; exact hQ
theorem pushpopI (B : Bs (G w base os mb)) {x : Int} (hh : σ a = some (.list (intL hs))) (hz : hs.length ≤ 1000)
    (h0 : hs = [] → Q (.int x) σ) (h1 : ∀ r t, hs = r :: t → ¬ r < x → Q (.int x) σ) (h2 : ∀ r t, hs = r :: t → r < x → Q (.int r) (σ.set a (.list (intL (topB lti 0 x (hs.set 0 x)))))) :
    CallS (G w base os mb) ⟨n + 3, true⟩ (.ref 42) [.ref a, .int x] X Q σ := by
  refine heappushpop_call B (d := .int 0) (ltx := fun q => some (ltP (.int x) q)) (ltr := fun q => some (ltP q (.int x))) (ltb := ltP) IsI hh (by simp; omega) intL_isI (fun q hq => ltAt_ints _ _ ⟨x, rfl⟩ hq) (fun q hq => ltAt_ints _ _ hq ⟨x, rfl⟩) ltAt_ints (fun h => ?_) (fun r _ h => by cases h) (fun r hr h => ?_) (fun l' r hr _ h => ?_) (fun l' r hr hlt h => ?_)
  · cases hs with
    | nil => exact h0 rfl
    | cons r t => cases h
  · cases hs with
    | nil => cases hr
    | cons r' t => cases hr; exact h1 r' t rfl (by simpa [ltP] using h)
  · cases hs with
    | nil => cases hr
    | cons r' t =>
      have e := topP_int (x := x) (l := (r' :: t).set 0 x) (by simp)
      rw [intL_set] at e
      rw [e] at h; cases h
  · cases hs with
    | nil => cases hr
    | cons r' t =>
      have e := topP_int (x := x) (l := (r' :: t).set 0 x) (by simp)
      rw [intL_set] at e
      rw [e] at h; cases h
      cases hr
      exact h2 r' t rfl (by simpa [ltP] using hlt)
theorem popI (B : Bs (G w base os mb)) (hh : σ a = some (.list (intL hs))) (hz : hs.length ≤ 1000)
    (h0 : hs = [] → X "IndexError" σ) (h1 : ∀ x, hs = [x] → Q (.int x) (σ.set a (.list []))) (h2 : ∀ r m x, hs = r :: m ++ [x] → Q (.int r) (σ.set a (.list (intL (topB lti 0 x ((r :: m).set 0 x)))))) :
    CallS (G w base os mb) ⟨n + 3, true⟩ (.ref 28) [.ref a] X Q σ := by
  refine heappop_call B (d := .int 0) (ltb := ltP) IsI hh (by simp; omega) intL_isI ltAt_ints (fun h => ?_) (fun x h => ?_) (fun r m x h => ?_)
  · cases hs with
    | nil => exact h0 rfl
    | cons r t => cases h
  · match hs, h with
    | [y], h => cases h; exact h1 y rfl
  · rcases List.eq_nil_or_concat hs with e | ⟨hs', y, e⟩
    · subst e; cases h
    · rw [List.concat_eq_append] at e
      subst e
      rw [intL_append] at h
      obtain ⟨e1, e2⟩ := List.append_inj' h rfl
      cases e2
      cases hs' with
      | nil => cases e1
      | cons r' m' =>
        cases e1
        have := h2 r' m' y rfl
        rw [← topB_intL, intL_set] at this
        exact this

/-! strangers -/
section
variable {q : PV}
theorem pushS (B : Bs (G w base os mb)) (hq : ∀ σ', Over σ a σ' → Strange σ' q) (hh : σ a = some (.list (intL hs))) (hz : hs.length ≤ 1000)
    (h0 : hs = [] → Q .none (σ.set a (.list [q]))) (h1 : hs ≠ [] → X "TypeError" (σ.set a (.list (intL hs ++ [q])))) : CallS (G w base os mb) ⟨n + 2, true⟩ (.ref 21) [.ref a, q] X Q σ := by
  refine heappush_call B (d := .int 0) (ltx := fun _ => none) IsI hh (by simp; omega) intL_isI (fun p hp => ?_) (fun l' h => ?_) (fun l' h => ?_)
  · obtain ⟨i, rfl⟩ := hp; exact ltAt_strange_int hq
  · cases hs with
    | nil => rw [show (intL []).length = 0 from rfl, sdnP_zero] at h; cases h
    | cons r t => rw [sdnP_err (by simp) rfl] at h; cases h; exact h1 (by simp)
  · cases hs with
    | nil => rw [show (intL []).length = 0 from rfl, sdnP_zero] at h; cases h; exact h0 rfl
    | cons r t => rw [sdnP_err (by simp) rfl] at h; cases h
theorem pushpopS (B : Bs (G w base os mb)) (hq : ∀ σ', Over σ a σ' → Strange σ' q) (hh : σ a = some (.list (intL hs))) (hz : hs.length ≤ 1000)
    (h0 : hs = [] → Q q σ) (h1 : hs ≠ [] → X "TypeError" σ) : CallS (G w base os mb) ⟨n + 3, true⟩ (.ref 42) [.ref a, q] X Q σ := by
  refine heappushpop_call B (d := .int 0) (ltx := fun _ => none) (ltr := fun _ => none) (ltb := ltP) IsI hh (by simp; omega) intL_isI (fun p hp => ?_) (fun p hp => ?_) ltAt_ints (fun h => ?_) (fun r hr _ => ?_) (fun r _ h => by cases h) (fun l' r _ h => by cases h) (fun l' r _ h => by cases h)
  · obtain ⟨i, rfl⟩ := hp; exact ltAt_strange_int hq
  · obtain ⟨i, rfl⟩ := hp; exact ltAt_int_strange hq
  · cases hs with
    | nil => exact h0 rfl
    | cons r t => cases h
  · cases hs with
    | nil => cases hr
    | cons r t => exact h1 (by simp)
theorem replS (B : Bs (G w base os mb)) (hq : ∀ σ', Over σ a σ' → Strange σ' q) (hh : σ a = some (.list (intL hs))) (hz : hs.length ≤ 1000)
    (h0 : hs = [] → X "IndexError" σ) (h1 : ∀ r, hs = [r] → Q (.int r) (σ.set a (.list [q])))
    (h2 : 2 ≤ hs.length → X "TypeError" (σ.set a (.list ((intL (supB lti 0 0 hs).2).set (supB lti 0 0 hs).1 q)))) : CallS (G w base os mb) ⟨n + 3, true⟩ (.ref 35) [.ref a, q] X Q σ := by
  have e : 2 ≤ hs.length → supB ltP (.int 0) 0 ((intL hs).set 0 q) = ((supB lti 0 0 hs).1, intL (supB lti 0 0 hs).2) := fun h => by
    rw [supB_top (by simpa using h), supB_intL]
  have ep : 2 ≤ hs.length → 0 < (supB lti 0 0 hs).1 := fun h => by
    have := supB_leaf (lt := lti) (d := (0 : Int)) (pos := 0) (l := hs); omega
  refine heapreplace_call B (d := .int 0) (ltx := fun _ => none) (ltb := ltP) IsI hh (by simp; omega) intL_isI (fun p hp => ?_) ltAt_ints (fun h => ?_) (fun l' hne h => ?_) (fun l' r hr h => ?_)
  · obtain ⟨i, rfl⟩ := hp; exact ltAt_strange_int hq
  · cases hs with
    | nil => exact h0 rfl
    | cons r t => cases h
  · match hs, hne with
    | [r], _ =>
      rw [show supB ltP (.int 0) 0 ((intL [r]).set 0 q) = (0, [q]) from by rw [supB, dif_neg (by simp [intL])]; rfl] at h
      simp only at h
      rw [sdnP_zero] at h; cases h
    | r :: r' :: t, _ =>
      rw [e (by simp)] at h
      simp only at h
      rw [sdnP_err (ep (by simp)) rfl] at h; cases h; exact h2 (by simp)
  · match hs, hr with
    | [r'], hr =>
      cases hr
      rw [show supB ltP (.int 0) 0 ((intL [r']).set 0 q) = (0, [q]) from by rw [supB, dif_neg (by simp [intL])]; rfl] at h
      simp only at h
      rw [sdnP_zero] at h; cases h; exact h1 r' rfl
    | r' :: r'' :: t, hr =>
      rw [e (by simp)] at h
      simp only at h
      rw [sdnP_err (ep (by simp)) rfl] at h; cases h
end
end Mine
end
section
open PySem PySem.W
set_option Elab.async false
set_option linter.unusedVariables false
set_option maxRecDepth 100000
namespace Mine

/-- what the turns of the loop keep -/
structure TF (τ : AHeap) (C hA bA sA : Addr) (H : List PV) (bg sc : List Int) : Prop where
  cell : τ C = some (.cell (some (.ref hA)))
  heap : τ hA = some (.list H)
  bag : τ bA = some (.list (intL bg))
  scr : τ sA = some (.list (intL sc))
  n1 : C ≠ hA
  n2 : bA ≠ hA
  n3 : sA ≠ hA
theorem TF.fresh {τ C hA bA sA H bg sc} (T : TF τ C hA bA sA H bg sc) {a : Addr} {o : AObj} (h : τ a = none) : TF (τ.set a o) C hA bA sA H bg sc :=
  ⟨at_set_fresh h T.cell, at_set_fresh h T.heap, at_set_fresh h T.bag, at_set_fresh h T.scr, T.n1, T.n2, T.n3⟩
theorem TF.upd {τ C hA bA sA H bg sc} (T : TF τ C hA bA sA H bg sc) (H' : List PV) : TF (τ.set hA (.list H')) C hA bA sA H' bg sc :=
  ⟨at_set_ne T.n1 T.cell, at_set_same, at_set_ne T.n2 T.bag, at_set_ne T.n3 T.scr, T.n1, T.n2, T.n3⟩
theorem TF.other {τ C hA bA sA H bg sc} (T : TF τ C hA bA sA H bg sc) {a : Addr} {o : AObj} (h1 : C ≠ a) (h2 : hA ≠ a) (h3 : bA ≠ a) (h4 : sA ≠ a) : TF (τ.set a o) C hA bA sA H bg sc :=
  ⟨at_set_ne h1 T.cell, at_set_ne h2 T.heap, at_set_ne h3 T.bag, at_set_ne h4 T.scr, T.n1, T.n2, T.n3⟩
theorem TF.bag' {τ C hA bA sA H bg sc} (T : TF τ C hA bA sA H bg sc) {b : Addr} {bg' : List Int} (h : τ b = some (.list (intL bg'))) (hn : b ≠ hA) : TF τ C hA b sA H bg' sc :=
  ⟨T.cell, T.heap, h, T.scr, T.n1, hn, T.n3⟩

noncomputable def forB : List Stmt := match bdAt 87 with | _ :: _ :: _ :: .For _ _ b _ _ :: _ => b | _ => []
theorem ne_same {c : Cx} {X : String → St → Prop} {μ : Locals} {σ : AHeap} {a b l} {n : Nat} {Q : PV → St → Prop} (ha : seqAt σ a = some l) (hb : seqAt σ b = some l) (h : ∀ p ∈ l, EqR σ n p p true) (hn : n ≤ 100) (hQ : Q (.bool false) (μ, σ)) :
    W2 c VRep (.ref a) (.ref b) (compareOp .NotEq) X Q (μ, σ) := by
  refine cmp_lists_ne (e := fun _ => true) ha hb rfl (fun j p q hp hq => ?_) hn ?_
  · rw [hp] at hq; cases hq; exact h p (List.mem_of_getElem? hp)
  · have e : (List.range l.length).all (fun _ => true) = true := by simp
    rw [e]; exact hQ
theorem eq_same {c : Cx} {X : String → St → Prop} {μ : Locals} {σ : AHeap} {a b l} {n : Nat} {Q : PV → St → Prop} (ha : seqAt σ a = some l) (hb : seqAt σ b = some l) (h : ∀ p ∈ l, EqR σ n p p true) (hn : n ≤ 100) (hQ : Q (.bool true) (μ, σ)) :
    W2 c VRep (.ref a) (.ref b) (compareOp .Eq) X Q (μ, σ) := by
  refine cmp_lists_eq (e := fun _ => true) ha hb rfl (fun j p q hp hq => ?_) hn ?_
  · rw [hp] at hq; cases hq; exact h p (List.mem_of_getElem? hp)
  · have e : (List.range l.length).all (fun _ => true) = true := by simp
    rw [e]; exact hQ
theorem eqR_int {σ : AHeap} {n : Nat} (i : Int) : EqR σ n (.int i) (.int i) true := by have := EqR.int (σ := σ) (n := n) i i; simpa using this
theorem eqR_ints {σ : AHeap} {n : Nat} {l : List Int} : ∀ p ∈ intL l, EqR σ n p p true := fun p hp => by obtain ⟨i, rfl⟩ := intL_isI p hp; exact eqR_int i
-- an object of the state
set_option hygiene false in
local macro_rules | `(tactic| walk_at "hp") => `(tactic| first | assumption | exact T.cell | exact T.heap | exact T.bag | exact T.scr | exact at_set_same | (refine at_set_ne ?_ ?_; (first | assumption | (apply Ne.symm; assumption)); walk_at "hp") | (refine at_set_fresh (by assumption) ?_; walk_at "hp"))
set_option hygiene false in
local macro_rules | `(tactic| walk_at "kd") => `(tactic| first | (rw [hsc]; rfl) | (rw [hsc', relabel_of hsc]; rfl))
set_option hygiene false in
local macro_rules | `(tactic| walk_at "ce") => `(tactic| first | (rw [hce]; rfl) | (rw [hce']; rfl))
set_option hygiene false in
local macro_rules | `(tactic| walk_at "s1") => `(tactic| with_reducible first
  | refine seqQ_next ?_
  | refine seqQ_brk ?_
  | refine seqQ_cont ?_
  | refine seqQ_ret ?_
  | refine loopQ_brk ?_
  | refine loopQ_ret ?_
  | refine forQ_brk ?_
  | refine forQ_ret ?_
  | refine S_last ?_
  | refine S_seq ?_
  | refine S_nil ?_
  | (refine S_Assign ?_ ?h1; (case h1 => with_unfolding_all exact rfl))
  | (refine S_AssignSub ?_ ?h1; (case h1 => with_unfolding_all exact rfl))
  | refine S_if ?_
  | refine S_Return ?_
  | refine S_Break ?_
  | refine S_Continue ?_
  | (refine S_Expr ?_ ?h1 ?h2; (case h1 => with_unfolding_all (unfold PySem.interactive; walk_at "kd")); (case h2 => with_unfolding_all exact rfl))
  | (refine' W1_store ?h1 ?_; (case h1 => with_unfolding_all walk_at "kd"))
  | (refine' E_local ?h1 ?h2 ?_ ?h3; (case h1 => with_unfolding_all walk_at "kd"); (case h2 => with_unfolding_all exact rfl); (case h3 => with_unfolding_all exact rfl))
  | (refine' E_cell ?h1 ?h2 ?h3 ?_ ?h4; (case h1 => with_unfolding_all walk_at "kd"); (case h2 => with_unfolding_all walk_at "ce"); (case h3 => walk_at "hp"); (case h4 => with_unfolding_all exact rfl))
  | refine E_int ?_
  | refine E_none ?_
  | refine E_BinOp ?_
  | refine E_ifE ?_
  | refine ifE_true ?_
  | refine ifE_false ?_
  | refine storeAll_cons ?_
  | refine storeAll_nil ?_
  | refine E_Slice ?_
  | refine Part_none ?_
  | refine Part_some ?_
  | refine E_bool ?_
  | (refine E_Subscript ?_ ?h1; (case h1 => with_unfolding_all exact rfl))
  | (refine C_Compare ?_ ?h1; (case h1 => with_unfolding_all exact rfl))
  | refine C_Not ?_
  | refine C_BoolOp ?_
  | refine truthy_b ?_
  | refine bin_add ?_
  | refine bin_sub ?_
  | (refine bin_shr ?h1 ?_; (case h1 => with_unfolding_all decide))
  | refine cmp_lt ?_
  | (refine bin_mul ?_ ?h1; (case h1 => exact mulOk2))
  | refine And_last ?_
  | refine And_step ?_
  | refine Or_last ?_
  | refine Or_step ?_
  | refine andQ_true ?_
  | refine andQ_false ?_
  | refine orQ_true ?_
  | refine orQ_false ?_
  | refine ifQ_true ?_
  | refine ifQ_false ?_
  | (refine' E_CallG B.gd ?h1 ?h2 ?h3 ?h4 ?_ ?h5 ?h6 ?h7 ?h8; (case h1 => with_unfolding_all walk_at "kd"); (case h2 => with_unfolding_all exact rfl); (case h3 => exact (B.fn _ (by simp)).get); (case h4 => with_unfolding_all exact rfl); (case h5 => with_unfolding_all exact rfl); (case h6 => with_unfolding_all exact rfl); (case h7 => with_unfolding_all exact rfl); (case h8 => with_unfolding_all exact rfl))
  | (refine' E_CallB B.gd ?h1 ?h2 ?h3 ?h4 ?_ ?h5 ?h6 ?h7 ?h8; (case h1 => with_unfolding_all walk_at "kd"); (case h2 => with_unfolding_all exact rfl); (case h3 => decide); (case h4 => with_unfolding_all exact rfl); (case h5 => with_unfolding_all exact rfl); (case h6 => with_unfolding_all exact rfl); (case h7 => with_unfolding_all exact rfl); (case h8 => with_unfolding_all exact rfl))
  | (refine' E_CallT B.gd ?h1 ?h2 ?h3 ?h4 ?_ ?h5 ?h6 ?h7 ?h8; (case h1 => with_unfolding_all walk_at "kd"); (case h2 => with_unfolding_all exact rfl); (case h3 => decide); (case h4 => with_unfolding_all exact rfl); (case h5 => with_unfolding_all exact rfl); (case h6 => with_unfolding_all exact rfl); (case h7 => with_unfolding_all exact rfl); (case h8 => with_unfolding_all exact rfl))
  | refine cmp_gt ?_
  | refine Ifs_one ?_
  | refine Ifs_nil ?_
  | refine cmp_ne ?_
  | refine cmp_eq ?_
  | (refine bin_floordiv ?h1 ?h2 ?_; (case h1 => with_unfolding_all decide); (case h2 => with_unfolding_all decide))
  | refine E_List ?_
  | refine And.intro ⟨_, _, rfl, seq_of (by with_unfolding_all walk_at "hp")⟩ ?_
  | (refine' E_MethList (id := "list.append") F.slot_list_append F.type_list_append ?_ ?h1 ?h2 ?h3 ?h4 ?h5; (case h1 => with_unfolding_all exact rfl); (case h2 => with_unfolding_all exact rfl); (case h3 => with_unfolding_all exact rfl); (case h4 => with_unfolding_all exact rfl); (case h5 => with_unfolding_all exact rfl))
  | (refine' E_MethList0 (id := "list.pop") F.slot_list_pop F.type_list_pop ?_ ?h1 ?h2; (case h1 => with_unfolding_all exact rfl); (case h2 => with_unfolding_all exact rfl))
  | (refine C_value ?_ ?h1; (case h1 => with_unfolding_all exact rfl))
  | refine truthy_i ?_
  | (refine E_Tuple ?_)
  | (refine S_AssignTup ?_ ?h1 ?h2; (case h1 => with_unfolding_all exact rfl); (case h2 => with_unfolding_all exact swapped_of hsc rfl))
  | (refine Asg_Tuple rfl ?_ ?h1 ?h2 ?h3; (case h1 => with_unfolding_all exact rfl); (case h2 => with_unfolding_all exact rfl); (case h3 => with_unfolding_all exact rfl))
  | refine asgAll_cons ?_
  | refine asgAll_nil ?_
  | (refine' Asg_local ?h1 ?_; (case h1 => with_unfolding_all walk_at "kd"))
  | refine Asg_Sub ?_
  | refine A_nil ?_
  | (refine A_cons ?_ ?h1; (case h1 => with_unfolding_all exact rfl)))


variable {w : World} {base : Heap} {os : OsState} {mb : Str → Option Value}

theorem pushpopU (B : Bs (G w base os mb)) {n : Nat} {a : Addr} {σ : AHeap} {X : String → AHeap → Prop} {Q : PV → AHeap → Prop} {hs bg : List Int} {x : Int} (hh : σ a = some (.list (intL hs))) (hz : hs.length ≤ 1000) (hI : IH hs) (hp : hs.Perm bg)
    (h : ∀ r K, (r :: K).Perm (bg ++ [x]) → (∀ y ∈ K, r ≤ y) → IH K → K.length = hs.length → Q (.int r) (σ.set a (.list (intL K)))) : CallS (G w base os mb) ⟨n + 3, true⟩ (.ref 42) [.ref a, .int x] X Q σ := by
  have hcomm : (x :: bg).Perm (bg ++ [x]) := List.perm_append_comm (l₁ := [x]) (l₂ := bg)
  refine pushpopI B hh hz (fun e => ?_) (fun r t e hlt => ?_) (fun r t e hlt => ?_)
  · have := h x [] (by subst e; rw [hp.nil_eq.symm]; exact .refl _) (by simp) (by intro k k0 kl; simp at kl) (by rw [e])
    subst e
    rwa [AHeap.set_self _ hh] at this
  · have := h x hs ((hp.cons x).trans hcomm) (fun y hy => ?_) hI rfl
    · rwa [AHeap.set_self _ hh] at this
    · have h1 := hI.le y hy
      subst e
      simp at h1; omega
  · obtain ⟨h1, h2⟩ := repl (n := x) hI e
    refine h r _ ?_ (fun y hy => ?_) h1 (by rw [h2.length_eq, e]; simp)
    · refine (h2.cons r).trans ((List.Perm.swap x r t).trans ?_)
      rw [e] at hp
      exact (hp.cons x).trans hcomm
    · have := h2.mem_iff.mp hy
      rcases List.mem_cons.mp this with e' | e'
      · omega
      · have h1 := hI.le y (by rw [e]; exact List.mem_cons_of_mem _ e')
        rw [e] at h1; simpa using h1

set_option maxHeartbeats 2000000 in
theorem seg8 (B : Bs (G w base os mb)) {n : Nat} {A : Around} {env : Env} {L : Addr} (hsc : env.scope = (fdAt 87).scope) (hce : env.cells = cellsFrom (L + 1) (fdAt 87).scope.names [])
    {X : String → St → Prop} {Q : AFlow → St → Prop} {τ : AHeap} {hA bA sA bf : Addr} {hs bg sc : List Int} {bs x : Int} {q : PV} (T : TF τ (L + 1) hA bA sA (intL hs) bg sc) (hh : IH hs) (hp : hs.Perm bg) (hsrt : bg.Pairwise (· ≤ ·)) (hz : hs.length ≤ 50) (hbs : bs.natAbs < 100)
    (hQ : ∀ τ' bA' hs' bg' ν, TF τ' (L + 1) hA bA' sA (intL hs') bg' sc → IH hs' → hs'.Perm bg' → bg'.Pairwise (· ≤ ·) → hs'.length = hs.length + 1 → Q .next ([(Str.ofString "script", .ref sA), (Str.ofString "base", .int bs), (Str.ofString "bag", .ref bA')] ++ ν, τ')) :
    WS ⟨G w base os mb, ⟨n + 3, true⟩, A, env⟩ (forB.drop 8) X Q ([(Str.ofString "script", .ref sA), (Str.ofString "base", .int bs), (Str.ofString "bag", .ref bA), (Str.ofString "x", .int x), (Str.ofString "stranger", q), (Str.ofString "before", .ref bf)], τ) := by
  have hlen := hp.length_eq
  refine S_seq ?_
  have main : ∀ nn : Int, WS ⟨G w base os mb, ⟨n + 3, true⟩, A, env⟩ (forB.drop 9) X Q ([(Str.ofString "script", .ref sA), (Str.ofString "base", .int bs), (Str.ofString "bag", .ref bA), (Str.ofString "x", .int x), (Str.ofString "stranger", q), (Str.ofString "before", .ref bf), (Str.ofString "n", .int nn)], τ) := by
    intro nn
    refine S_seq ?_
    refine S_AssignSwap [Str.ofString "more", Str.ofString "kept", Str.ofString "swapped"] rfl ?_ rfl (swapped_of hsc rfl)
    repeat walk_at "s1"
    refine ⟨by simp, fun a1 ha1 => ?_⟩
    refine bin_addL (seq_of (at_set_fresh ha1 T.bag)) (seq_of at_set_same) (by simp; omega) fun a2 ha2 => ?_
    have ea : intL bg ++ [PV.int nn] = intL (bg ++ [nn]) := (intL_append bg [nn]).symm
    rw [ea]
    obtain ⟨M, hM⟩ : ∃ M, M = sortI (bg ++ [nn]) := ⟨_, rfl⟩
    repeat walk_at "s1"
    refine call_sorted (seq_of at_set_same) (by simp; omega) fun m1 hm1 => ?_
    rw [← hM]
    have T := (T.fresh (o := .list [PV.int nn]) ha1).fresh (o := .list (intL (bg ++ [nn]))) ha2
    have hmh := ne_of_fresh hm1 T.heap
    have T := T.fresh (o := .list (intL M)) hm1
    repeat walk_at "s1"
    refine call_listOf (seq_of (by walk_at "hp")) (by simp; omega) fun k1 hk1 => ?_
    have hmk := ne_of_fresh hk1 at_set_same
    have a1c := ne_of_fresh hk1 T.cell
    have a1h := ne_of_fresh hk1 T.heap
    have a1b := ne_of_fresh hk1 T.bag
    have a1s := ne_of_fresh hk1 T.scr
    have T := T.fresh (o := .list (intL hs)) hk1
    repeat walk_at "s1"
    refine call_listOf (seq_of (by walk_at "hp")) (by simp; omega) fun k2 hk2 => ?_
    have a2m := ne_of_fresh hk2 (at_set_fresh hk1 at_set_same)
    have a2k := ne_of_fresh hk2 at_set_same
    have a2c := ne_of_fresh hk2 T.cell
    have a2h := ne_of_fresh hk2 T.heap
    have a2b := ne_of_fresh hk2 T.bag
    have a2s := ne_of_fresh hk2 T.scr
    have T := T.fresh (o := .list (intL hs)) hk2
    repeat walk_at "s1"
    refine ⟨by simp, _, rfl, rfl, ?_⟩
    show storeAll _ X [Str.ofString "swapped", Str.ofString "kept", Str.ofString "more"] [.ref k2, .ref k1, .ref m1] _ _
    repeat walk_at "s1"
    generalize hτ : ((((AHeap.set τ a1 (.list [PV.int nn])).set a2 (.list (intL (bg ++ [nn])))).set m1 (.list (intL M))).set k1 (.list (intL hs))).set k2 (.list (intL hs)) = τ1 at T ⊢
    have f1 : τ1 m1 = some (.list (intL M)) := by rw [← hτ]; exact at_set_fresh hk2 (at_set_fresh hk1 at_set_same)
    have f2 : τ1 k1 = some (.list (intL hs)) := by rw [← hτ]; exact at_set_fresh hk2 at_set_same
    have f3 : τ1 k2 = some (.list (intL hs)) := by rw [← hτ]; exact at_set_same
    clear hτ hk2 hk1 hm1 ha2 ha1
    refine WN_call ?_
    refine pushpopU B f2 (by omega) hh hp fun r K hK hr hKI hKl => ?_
    have hMr : M = r :: sortI K := hM.trans (sortI_cons hK hr)
    have T := T.other (o := .list (intL K)) a1c a1h a1b a1s
    have f1 : (τ1.set k1 (.list (intL K))) m1 = some (.list (intL M)) := at_set_ne hmk f1
    have f3 : (τ1.set k1 (.list (intL K))) k2 = some (.list (intL hs)) := at_set_ne a2k.symm f3
    have f2 : (τ1.set k1 (.list (intL K))) k1 = some (.list (intL K)) := at_set_same
    generalize τ1.set k1 (.list (intL K)) = τ2 at T f1 f2 f3 ⊢
    repeat walk_at "s1"
    refine get_list (p := .int r) (seq_of f1) (by omega) (by rw [hMr]; rfl) (by simp [hMr, (sortI_perm K).length_eq]; omega) ?_
    repeat walk_at "s1"
    rw [show (r != r) = false by simp]
    repeat walk_at "s1"
    refine call_sorted (seq_of f2) (by omega) fun s1 hs1 => ?_
    repeat walk_at "s1"
    refine slice_from (n := 1) (seq_of (at_set_fresh hs1 f1)) (by simp [hMr, (sortI_perm K).length_eq]; omega) fun s2 hs2 => ?_
    repeat walk_at "s1"
    have ed : (intL M).drop 1 = intL (sortI K) := by rw [hMr]; rfl
    rw [ed]
    refine ne_same (n := 0) (seq_of (at_set_fresh hs2 at_set_same)) (seq_of at_set_same) eqR_ints (by omega) ?_
    have T := (T.fresh (o := .list (intL (sortI K))) hs1).fresh (o := .list (intL (sortI K))) hs2
    have f1 := at_set_fresh (o' := .list (intL (sortI K))) hs2 (at_set_fresh (o' := .list (intL (sortI K))) hs1 f1)
    have f2 := at_set_fresh (o' := .list (intL (sortI K))) hs2 (at_set_fresh (o' := .list (intL (sortI K))) hs1 f2)
    have f3 := at_set_fresh (o' := .list (intL (sortI K))) hs2 (at_set_fresh (o' := .list (intL (sortI K))) hs1 f3)
    generalize (τ2.set s1 (.list (intL (sortI K)))).set s2 (.list (intL (sortI K))) = τ3 at T f1 f2 f3 ⊢
    clear hs1 hs2
    repeat walk_at "s1"
    refine WN_call ?_
    refine steps_call B f2 (by simp; omega) (fun k k0 kl _ => hKI.steps k k0 (by simpa using kl)) ?_
    repeat walk_at "s1"
    refine ifQ_false ?_
    repeat walk_at "s1"
    have tail : ∀ τ', TF τ' (L + 1) hA bA sA (intL hs) bg sc → τ' m1 = some (.list (intL M)) → WS ⟨G w base os mb, ⟨n + 3, true⟩, A, env⟩ (forB.drop 12) X Q ([(Str.ofString "script", .ref sA), (Str.ofString "base", .int bs), (Str.ofString "bag", .ref bA), (Str.ofString "x", .int x), (Str.ofString "stranger", q), (Str.ofString "before", .ref bf), (Str.ofString "n", .int nn), (Str.ofString "swapped", .ref k2), (Str.ofString "kept", .ref k1), (Str.ofString "more", .ref m1)], τ') := by
      intro τ' T g1
      refine S_seq ?_
      repeat walk_at "s1"
      refine WN_call ?_
      obtain ⟨p1, p2⟩ := pushed (n := nn) hh
      generalize hH : sdnB lti 0 nn hs.length (hs ++ [nn]) = H' at p1 p2
      refine pushI B T.heap (by omega) ?_
      rw [hH]
      have T := T.upd (intL H')
      have g1 : (τ'.set hA (.list (intL H'))) m1 = some (.list (intL M)) := at_set_ne hmh.symm g1
      generalize τ'.set hA (.list (intL H')) = τ4 at T g1 ⊢
      have pl : H'.length = hs.length + 1 := by rw [p2.length_eq]; simp
      have eM : sortI H' = M := by rw [hM]; exact sortI_congr (p2.trans (hp.append_right [nn]))
      have T := T.bag' g1 hmh.symm
      repeat walk_at "s1"
      refine call_sorted (seq_of T.heap) (by omega) fun s3 hs3 => ?_
      rw [eM]
      have T := T.fresh (o := .list (intL M)) hs3
      repeat walk_at "s1"
      refine ne_same (n := 0) (seq_of at_set_same) (seq_of T.bag) eqR_ints (by omega) ?_
      generalize τ4.set s3 (.list (intL M)) = τ5 at T ⊢
      repeat walk_at "s1"
      refine WN_call ?_
      refine steps_call B T.heap (by simp; omega) (fun k k0 kl _ => p1.steps k k0 (by simpa using kl)) ?_
      repeat walk_at "s1"
      refine ifQ_false ?_
      repeat walk_at "s1"
      exact hQ τ5 m1 H' M _ T p1 (eM ▸ (sortI_perm H').symm) (hM ▸ sortI_sorted _) pl
    refine ⟨by simp, fun e1 he1 => ?_⟩
    have T' := T.fresh (o := .list []) he1
    have f1' := at_set_fresh (o' := .list []) he1 f1
    have f3' := at_set_fresh (o' := .list []) he1 f3
    have f3n := ne_of_fresh he1 f3
    cases hbg : bg with
    | nil =>
      subst hbg
      refine ne_same (n := 0) (l := []) (seq_of T'.bag) (seq_of at_set_same) (by simp) (by omega) ?_
      refine truthy_b (ifQ_false (S_nil (seqQ_next ?_)))
      exact tail _ T' f1'
    | cons b0 bt =>
      refine cmp_lens_ne (seq_of T'.bag) (seq_of at_set_same) (by rw [hbg]; simp [intL]) ?_
      generalize τ3.set e1 (.list []) = τ6 at T' f1' f3' ⊢
      repeat walk_at "s1"
      cases hhs : hs with
      | nil => rw [hhs, hbg] at hlen; simp at hlen
      | cons r0 t0 =>
        obtain ⟨m0, hm0, hpt⟩ := sorted_head hp hsrt hh hhs
        rw [hbg] at hm0; cases hm0
        refine WN_call ?_
        obtain ⟨p1, p2⟩ := repl (n := nn) hh hhs
        refine replI B hhs f3' (by omega) ?_
        generalize topB lti 0 nn (hs.set 0 nn) = S' at p1 p2 ⊢
        have T'' := T'.other (o := .list (intL S')) a2c a2h a2b a2s
        have f1'' : (τ6.set k2 (.list (intL S'))) m1 = some (.list (intL M)) := at_set_ne a2m f1'
        have f3'' : (τ6.set k2 (.list (intL S'))) k2 = some (.list (intL S')) := at_set_same
        generalize τ6.set k2 (.list (intL S')) = τ7 at T'' f1'' f3'' ⊢
        have T := T''
        repeat walk_at "s1"
        refine get_list (p := .int b0) (seq_of T.bag) (by omega) (by rw [hbg]; rfl) (by simp; omega) ?_
        repeat walk_at "s1"
        rw [show (b0 != b0) = false by simp]
        repeat walk_at "s1"
        have hSl : S'.length = hs.length := by rw [p2.length_eq, hhs]; simp
        refine call_sorted (seq_of f3'') (by omega) fun s4 hs4 => ?_
        have T := T.fresh (o := .list (intL (sortI S'))) hs4
        repeat walk_at "s1"
        refine slice_from (n := 1) (seq_of T.bag) (by simp; omega) fun s5 hs5 => ?_
        have ed : (intL bg).drop 1 = intL bt := by rw [hbg]; rfl
        rw [ed]
        have T := T.fresh (o := .list (intL bt)) hs5
        repeat walk_at "s1"
        refine ⟨by simp, fun s6 hs6 => ?_⟩
        have T := T.fresh (o := .list [PV.int nn]) hs6
        refine bin_addL (seq_of (at_set_fresh hs6 at_set_same)) (seq_of at_set_same) (by rw [hbg] at hlen; simp at hlen ⊢; omega) fun s7 hs7 => ?_
        have eb : intL bt ++ [PV.int nn] = intL (bt ++ [nn]) := (intL_append bt [nn]).symm
        rw [eb]
        have T := T.fresh (o := .list (intL (bt ++ [nn]))) hs7
        repeat walk_at "s1"
        refine call_sorted (seq_of at_set_same) (by rw [hbg] at hlen; simp at hlen ⊢; omega) fun s8 hs8 => ?_
        have es : sortI (bt ++ [nn]) = sortI S' := sortI_congr ((List.perm_append_comm.trans (hpt.symm.cons nn)).trans p2.symm)
        rw [es]
        have T := T.fresh (o := .list (intL (sortI S'))) hs8
        refine ne_same (n := 0) (l := intL (sortI S')) (seq_of (at_set_fresh hs8 (at_set_fresh hs7 (at_set_fresh hs6 (at_set_fresh hs5 at_set_same))))) (seq_of at_set_same) eqR_ints (by omega) ?_
        have g1 := at_set_fresh (o' := .list (intL (sortI S'))) hs8 (at_set_fresh (o' := .list (intL (bt ++ [nn]))) hs7 (at_set_fresh (o' := .list [PV.int nn]) hs6 (at_set_fresh (o' := .list (intL bt)) hs5 (at_set_fresh (o' := .list (intL (sortI S'))) hs4 f1''))))
        have g3 := at_set_fresh (o' := .list (intL (sortI S'))) hs8 (at_set_fresh (o' := .list (intL (bt ++ [nn]))) hs7 (at_set_fresh (o' := .list [PV.int nn]) hs6 (at_set_fresh (o' := .list (intL bt)) hs5 (at_set_fresh (o' := .list (intL (sortI S'))) hs4 f3''))))
        generalize ((((τ7.set s4 (.list (intL (sortI S')))).set s5 (.list (intL bt))).set s6 (.list [PV.int nn])).set s7 (.list (intL (bt ++ [nn])))).set s8 (.list (intL (sortI S'))) = τ8 at T g1 g3 ⊢
        clear hs4 hs5 hs6 hs7 hs8
        repeat walk_at "s1"
        refine WN_call ?_
        refine steps_call B g3 (by simp; omega) (fun k k0 kl _ => p1.steps k k0 (by simpa using kl)) ?_
        repeat walk_at "s1"
        refine ifQ_false (S_nil (seqQ_next ?_))
        exact tail _ T g1
  refine WT.mono (Q := fun f st => ∃ nn, f = .next ∧ st = ([(Str.ofString "script", .ref sA), (Str.ofString "base", .int bs), (Str.ofString "bag", .ref bA), (Str.ofString "x", .int x), (Str.ofString "stranger", q), (Str.ofString "before", .ref bf), (Str.ofString "n", .int nn)], τ)) ?_ (fun f st h => by obtain ⟨nn, rfl, rfl⟩ := h; exact main nn) (fun _ _ h => h)
  repeat walk_at "s1"
  refine ifE_dec (fun h => ?_) (fun h => ?_)
  · repeat walk_at "s1"
    refine bin_mod (by simpa using h) ?_
    repeat walk_at "s1"
    exact ⟨_, rfl, rfl⟩
  · repeat walk_at "s1"
    exact ⟨_, rfl, rfl⟩
end Mine
end
section
open PySem PySem.W
set_option Elab.async false
set_option linter.unusedVariables false
set_option maxRecDepth 100000
namespace Mine

/-- what no int is, and stays what it is -/
def Odd (τ : AHeap) (hA : Addr) (q : PV) : Prop := (∃ t, t ≠ 0 ∧ q = .str (Str.ofString "") t) ∨ q = .none ∨ ∃ b, q = .ref b ∧ τ b = some (.list []) ∧ b ≠ hA
theorem Odd.strange {τ hA q} (h : Odd τ hA q) : Strange τ q := by
  rcases h with ⟨t, _, rfl⟩ | rfl | ⟨b, rfl, h, _⟩
  · exact .str _ _
  · exact .none
  · exact .list (seq_of h)
theorem Odd.fresh {τ hA q} (h : Odd τ hA q) {a : Addr} {o : AObj} (ha : τ a = none) : Odd (τ.set a o) hA q := by
  rcases h with h | h | ⟨b, e, h, h2⟩
  · exact .inl h
  · exact .inr (.inl h)
  · exact .inr (.inr ⟨b, e, at_set_fresh ha h, h2⟩)
theorem Odd.upd {τ hA q} (h : Odd τ hA q) {o : AObj} : Odd (τ.set hA o) hA q := by
  rcases h with h | h | ⟨b, e, h, h2⟩
  · exact .inl h
  · exact .inr (.inl h)
  · exact .inr (.inr ⟨b, e, at_set_ne h2 h, h2⟩)
theorem Odd.other {τ hA q} (h : Odd τ hA q) {a : Addr} {o : AObj} (ha : ∀ b, q = .ref b → b ≠ a) : Odd (τ.set a o) hA q := by
  rcases h with h | h | ⟨b, e, h, h2⟩
  · exact .inl h
  · exact .inr (.inl h)
  · exact .inr (.inr ⟨b, e, at_set_ne (ha b e) h, h2⟩)
theorem Odd.tok {τ hA q} (h : Odd τ hA q) : ∀ y t, q = .str y t → t ≠ 0 := by
  rintro y t rfl
  rcases h with ⟨t', h, e⟩ | h | ⟨b, e, _⟩
  · cases e; exact h
  · cases h
  · cases e
theorem Odd.eqR {τ hA q} (h : Odd τ hA q) {σ : AHeap} {n : Nat} : EqR σ n q q true := by
  rcases h with ⟨t, _, rfl⟩ | rfl | ⟨b, rfl, _⟩
  · have := EqR.str (σ := σ) (n := n) (Str.ofString "") (Str.ofString "") t t; simpa using this
  · exact .none
  · exact .same b
theorem Odd.ne {τ hA q} (h : Odd τ hA q) {a : Addr} (ha : τ a = none) : ∀ b, q = .ref b → b ≠ a := by
  rintro b rfl
  rcases h with ⟨t, _, e⟩ | e | ⟨b, e, h, _⟩
  · cases e
  · cases e
  · cases e; exact ne_of_fresh ha h
-- an object of the state
set_option hygiene false in
local macro_rules | `(tactic| walk_at "hp") => `(tactic| first | assumption | exact T.cell | exact T.heap | exact T.bag | exact T.scr | exact at_set_same | (refine at_set_ne ?_ ?_; (first | assumption | (apply Ne.symm; assumption)); walk_at "hp") | (refine at_set_fresh (by assumption) ?_; walk_at "hp"))
set_option hygiene false in
local macro_rules | `(tactic| walk_at "kd") => `(tactic| first | (rw [hsc]; rfl) | (rw [hsc', relabel_of hsc]; rfl))
set_option hygiene false in
local macro_rules | `(tactic| walk_at "ce") => `(tactic| first | (rw [hce]; rfl) | (rw [hce']; rfl))
set_option hygiene false in
local macro_rules | `(tactic| walk_at "s1") => `(tactic| with_reducible first
  | refine seqQ_next ?_
  | refine seqQ_brk ?_
  | refine seqQ_cont ?_
  | refine seqQ_ret ?_
  | refine loopQ_brk ?_
  | refine loopQ_ret ?_
  | refine forQ_brk ?_
  | refine forQ_ret ?_
  | refine S_last ?_
  | refine S_seq ?_
  | refine S_nil ?_
  | (refine S_Assign ?_ ?h1; (case h1 => with_unfolding_all exact rfl))
  | (refine S_AssignSub ?_ ?h1; (case h1 => with_unfolding_all exact rfl))
  | refine S_if ?_
  | refine S_Return ?_
  | refine S_Break ?_
  | refine S_Continue ?_
  | (refine S_Expr ?_ ?h1 ?h2; (case h1 => with_unfolding_all (unfold PySem.interactive; walk_at "kd")); (case h2 => with_unfolding_all exact rfl))
  | (refine' W1_store ?h1 ?_; (case h1 => with_unfolding_all walk_at "kd"))
  | (refine' E_local ?h1 ?h2 ?_ ?h3; (case h1 => with_unfolding_all walk_at "kd"); (case h2 => with_unfolding_all exact rfl); (case h3 => with_unfolding_all exact rfl))
  | (refine' E_cell ?h1 ?h2 ?h3 ?_ ?h4; (case h1 => with_unfolding_all walk_at "kd"); (case h2 => with_unfolding_all walk_at "ce"); (case h3 => walk_at "hp"); (case h4 => with_unfolding_all exact rfl))
  | refine E_int ?_
  | refine E_none ?_
  | refine E_BinOp ?_
  | refine E_ifE ?_
  | refine ifE_true ?_
  | refine ifE_false ?_
  | refine storeAll_cons ?_
  | refine storeAll_nil ?_
  | refine E_Slice ?_
  | refine Part_none ?_
  | refine Part_some ?_
  | refine E_bool ?_
  | (refine E_Subscript ?_ ?h1; (case h1 => with_unfolding_all exact rfl))
  | (refine C_Compare ?_ ?h1; (case h1 => with_unfolding_all exact rfl))
  | refine C_Not ?_
  | refine C_BoolOp ?_
  | refine truthy_b ?_
  | refine bin_add ?_
  | refine bin_sub ?_
  | (refine bin_shr ?h1 ?_; (case h1 => with_unfolding_all decide))
  | refine cmp_lt ?_
  | (refine bin_mul ?_ ?h1; (case h1 => exact mulOk2))
  | refine And_last ?_
  | refine And_step ?_
  | refine Or_last ?_
  | refine Or_step ?_
  | refine andQ_true ?_
  | refine andQ_false ?_
  | refine orQ_true ?_
  | refine orQ_false ?_
  | refine ifQ_true ?_
  | refine ifQ_false ?_
  | (refine' E_CallG B.gd ?h1 ?h2 ?h3 ?h4 ?_ ?h5 ?h6 ?h7 ?h8; (case h1 => with_unfolding_all walk_at "kd"); (case h2 => with_unfolding_all exact rfl); (case h3 => exact (B.fn _ (by simp)).get); (case h4 => with_unfolding_all exact rfl); (case h5 => with_unfolding_all exact rfl); (case h6 => with_unfolding_all exact rfl); (case h7 => with_unfolding_all exact rfl); (case h8 => with_unfolding_all exact rfl))
  | (refine' E_CallB B.gd ?h1 ?h2 ?h3 ?h4 ?_ ?h5 ?h6 ?h7 ?h8; (case h1 => with_unfolding_all walk_at "kd"); (case h2 => with_unfolding_all exact rfl); (case h3 => decide); (case h4 => with_unfolding_all exact rfl); (case h5 => with_unfolding_all exact rfl); (case h6 => with_unfolding_all exact rfl); (case h7 => with_unfolding_all exact rfl); (case h8 => with_unfolding_all exact rfl))
  | (refine' E_CallT B.gd ?h1 ?h2 ?h3 ?h4 ?_ ?h5 ?h6 ?h7 ?h8; (case h1 => with_unfolding_all walk_at "kd"); (case h2 => with_unfolding_all exact rfl); (case h3 => decide); (case h4 => with_unfolding_all exact rfl); (case h5 => with_unfolding_all exact rfl); (case h6 => with_unfolding_all exact rfl); (case h7 => with_unfolding_all exact rfl); (case h8 => with_unfolding_all exact rfl))
  | refine cmp_gt ?_
  | refine Ifs_one ?_
  | refine Ifs_nil ?_
  | refine cmp_ne ?_
  | refine cmp_eq ?_
  | (refine bin_floordiv ?h1 ?h2 ?_; (case h1 => with_unfolding_all decide); (case h2 => with_unfolding_all decide))
  | refine E_List ?_
  | refine And.intro ⟨_, _, rfl, seq_of (by with_unfolding_all walk_at "hp")⟩ ?_
  | (refine' E_MethList (id := "list.append") F.slot_list_append F.type_list_append ?_ ?h1 ?h2 ?h3 ?h4 ?h5; (case h1 => with_unfolding_all exact rfl); (case h2 => with_unfolding_all exact rfl); (case h3 => with_unfolding_all exact rfl); (case h4 => with_unfolding_all exact rfl); (case h5 => with_unfolding_all exact rfl))
  | (refine' E_MethList0 (id := "list.pop") F.slot_list_pop F.type_list_pop ?_ ?h1 ?h2; (case h1 => with_unfolding_all exact rfl); (case h2 => with_unfolding_all exact rfl))
  | (refine C_value ?_ ?h1; (case h1 => with_unfolding_all exact rfl))
  | refine truthy_i ?_
  | (refine E_Tuple ?_)
  | (refine S_AssignTup ?_ ?h1 ?h2; (case h1 => with_unfolding_all exact rfl); (case h2 => with_unfolding_all exact swapped_of hsc rfl))
  | (refine Asg_Tuple rfl ?_ ?h1 ?h2 ?h3; (case h1 => with_unfolding_all exact rfl); (case h2 => with_unfolding_all exact rfl); (case h3 => with_unfolding_all exact rfl))
  | refine asgAll_cons ?_
  | refine asgAll_nil ?_
  | (refine' Asg_local ?h1 ?_; (case h1 => with_unfolding_all walk_at "kd"))
  | refine Asg_Sub ?_
  | refine A_nil ?_
  | (refine A_cons ?_ ?h1; (case h1 => with_unfolding_all exact rfl)))


variable {w : World} {base : Heap} {os : OsState} {mb : Str → Option Value}

theorem fmod3 (x : Int) : 0 ≤ x.fmod 3 ∧ x.fmod 3 < 3 := ⟨Int.fmod_nonneg_of_pos _ (by decide), Int.fmod_lt_of_pos _ (by decide)⟩

set_option maxHeartbeats 4000000 in
theorem seg7 (B : Bs (G w base os mb)) {n : Nat} {A : Around} {env : Env} {L : Addr} (hsc : env.scope = (fdAt 87).scope) (hce : env.cells = cellsFrom (L + 1) (fdAt 87).scope.names [])
    {X : String → St → Prop} {Q : AFlow → St → Prop} {τ : AHeap} {hA bA sA bf : Addr} {H : List PV} {hs bg sc : List Int} {bs x : Int} {q : PV} (T : TF τ (L + 1) hA bA sA H bg sc) (fB : τ bf = some (.list (intL hs))) (nB : bf ≠ hA) (O : Odd τ hA q)
    (hh : IH hs) (hp : hs.Perm bg) (hsrt : bg.Pairwise (· ≤ ·)) (hz : hs.length ≤ 50) (hbs : bs.natAbs < 100)
    (hcase : (x.fmod 3 = 2 ∧ hs ≠ [] ∧ H = (intL (supB lti 0 0 hs).2).set (supB lti 0 0 hs).1 q) ∨ (¬ (x.fmod 3 = 2 ∧ hs ≠ []) ∧ H = intL hs))
    (hQ : ∀ τ' bA' hs' bg' ν, TF τ' (L + 1) hA bA' sA (intL hs') bg' sc → IH hs' → hs'.Perm bg' → bg'.Pairwise (· ≤ ·) → hs'.length ≤ hs.length + 1 → Q .next ([(Str.ofString "script", .ref sA), (Str.ofString "base", .int bs), (Str.ofString "bag", .ref bA')] ++ ν, τ')) :
    WS ⟨G w base os mb, ⟨n + 3, true⟩, A, env⟩ (forB.drop 7) X Q ([(Str.ofString "script", .ref sA), (Str.ofString "base", .int bs), (Str.ofString "bag", .ref bA), (Str.ofString "x", .int x), (Str.ofString "stranger", q), (Str.ofString "before", .ref bf)], τ) := by
  have hlen := hp.length_eq
  have ne0 : ∀ (l : List Int), (intL l).length ≠ ([] : List PV).length ↔ l ≠ [] := fun l => by cases l <;> simp [intL]
  refine S_seq ?_
  refine WT.mono (Q := fun f st => f = .next ∧ ∃ τ' bA' hs' bg' ν, st = ([(Str.ofString "script", .ref sA), (Str.ofString "base", .int bs), (Str.ofString "bag", .ref bA'), (Str.ofString "x", .int x), (Str.ofString "stranger", q), (Str.ofString "before", .ref bf)] ++ ν, τ') ∧ TF τ' (L + 1) hA bA' sA (intL hs') bg' sc ∧ IH hs' ∧ hs'.Perm bg' ∧ bg'.Pairwise (· ≤ ·) ∧ hs'.length ≤ hs.length) ?_
    (fun f st h => by
      obtain ⟨rfl, τ', bA', hs', bg', ν, rfl, T', h1, h2, h3, h4⟩ := h
      refine WT.le (seg8 B hsc hce T' h1 h2 h3 (by omega) hbs fun τ'' bA'' hs'' bg'' ν' T'' k1 k2 k3 k4 => hQ τ'' bA'' hs'' bg'' ν' T'' k1 k2 k3 (by omega)) (St.le_app (.refl _))) (fun _ _ h => h)
  rcases hcase with ⟨c1, c2, hH⟩ | ⟨c1, hH⟩
  · repeat walk_at "s1"
    refine bin_mod (by decide) ?_
    repeat walk_at "s1"
    rw [show (x.fmod 3 == 2) = true by simp [c1]]
    repeat walk_at "s1"
    refine ⟨by simp, fun e1 he1 => ?_⟩
    have T := T.fresh (o := .list []) he1
    have O := O.fresh (o := .list []) he1
    have fB := at_set_fresh (o' := .list []) he1 fB
    refine cmp_lens_ne (seq_of fB) (seq_of at_set_same) ((ne0 hs).mpr c2) ?_
    generalize τ.set e1 (.list []) = τ1 at T O fB ⊢
    repeat walk_at "s1"
    obtain ⟨p, R, hr⟩ : ∃ p R, supB lti 0 0 hs = (p, R) := ⟨_, _, rfl⟩
    have hhl : 0 < hs.length := by cases hs with | nil => exact absurd rfl c2 | cons a t => simp
    have hpl : p < hs.length := by have := supB_lt (lt := lti) (d := (0 : Int)) hhl; rw [hr] at this; exact this
    have hRl : R.length = hs.length := by have := supB_length lti (0 : Int) 0 hs; rw [hr] at this; exact this
    have hleaf : hs.length ≤ 2 * p + 1 := by have := supB_leaf (lt := lti) (d := (0 : Int)) (pos := 0) (l := hs); rw [hr] at this; exact this
    have hHole : Hole lti 0 p R := by have := supB_hole ltI_tot (d := (0 : Int)) (pos := 0) (l := hs) hhl hh.hole0; rw [hr] at this; exact this
    rw [hr] at hH
    simp only at hH
    have hHp : H[p]? = some q := by rw [hH]; exact List.getElem?_set_self (by simp; omega)
    have hHk : ∀ k, k ≠ p → k < hs.length → H[k]? = some (.int (R.getD k 0)) := fun k hk hkl => by
      rw [hH, List.getElem?_set_ne (Ne.symm hk)]
      have : k < R.length := by omega
      simp [intL, List.getD_eq_getElem?_getD, this]
    have hHl : H.length = hs.length := by rw [hH]; simp [hRl]
    refine WN_call ?_
    refine indexOf_call B (m := p) T.heap (fun k hk => ⟨_, hHk k (by omega) (by omega)⟩) hHp O.strange O.tok (by omega) ?_
    repeat walk_at "s1"
    refine S_AssignSwap [Str.ofString "stands", Str.ofString "below"] rfl ?_ rfl (swapped_of hsc rfl)
    repeat walk_at "s1"
    refine call_listOf (seq_of fB) (by simp; omega) fun k1 hk1 => ?_
    have n1c := ne_of_fresh hk1 T.cell
    have n1h := ne_of_fresh hk1 T.heap
    have n1b := ne_of_fresh hk1 T.bag
    have n1s := ne_of_fresh hk1 T.scr
    have n1f := ne_of_fresh hk1 fB
    have O1 := O.ne hk1
    repeat walk_at "s1"
    refine ⟨by simp, _, rfl, rfl, ?_⟩
    show storeAll _ X [Str.ofString "below", Str.ofString "stands"] [.int p, .ref k1] _ _
    repeat walk_at "s1"
    refine set_list at_set_same (by omega) (by simp; omega) (by simp; omega) ?_
    rw [AHeap.set_set, Int.toNat_natCast]
    repeat walk_at "s1"
    have hfin : upTo 0 p (fun i => (intL hs).getD i (.int 0)) ((intL hs).set p q) = H := by
      have := supB_up (lt := ltP) (d := PV.int 0) (q := q) (pos := 0) (l := intL hs) (by simpa using hhl)
      rw [supB_intL, hr] at this
      simp only at this
      rw [this, hH]
    refine S_while (fun m st => ∃ (S : List PV), m < hs.length ∧ S.length = hs.length ∧ upTo 0 m (fun i => (intL hs).getD i (.int 0)) S = H ∧
      st = ([(Str.ofString "script", .ref sA), (Str.ofString "base", .int bs), (Str.ofString "bag", .ref bA), (Str.ofString "x", .int x), (Str.ofString "stranger", q), (Str.ofString "before", .ref bf), (Str.ofString "place", .int p), (Str.ofString "below", .int m), (Str.ofString "stands", .ref k1)], τ1.set k1 (.list S))) p _ ⟨(intL hs).set p q, hpl, by simp, hfin, rfl⟩ (St.le_refl _) ?_
    rintro m _ ⟨S, hm, hSl, hup, rfl⟩
    have fB' : (τ1.set k1 (.list S)) bf = some (.list (intL hs)) := at_set_ne n1f fB
    repeat walk_at "s1"
    refine ⟨fun hb => ?_, fun hb => ?_⟩
    · have hm0 : m > 0 := by simpa using hb
      rw [upTo, dif_pos hm0] at hup
      have hpp : ((m : Int) - 1).fdiv 2 = (((m - 1) / 2 : Nat) : Int) := by rw [Int.fdiv_eq_ediv_of_nonneg _ (by omega)]; omega
      have hget : (intL hs)[m]? = some ((intL hs).getD m (.int 0)) := by rw [List.getD_eq_getElem?_getD]; simp [intL, hm]
      repeat walk_at "s1"
      refine get_list (seq_of fB') (by omega) (by rw [Int.toNat_natCast]; exact hget) (by simp; omega) ?_
      repeat walk_at "s1"
      rw [hpp]
      refine set_list at_set_same (by omega) (by omega) (by omega) ?_
      rw [AHeap.set_set, Int.toNat_natCast]
      repeat walk_at "s1"
      rw [hpp]
      refine loopQ_next ((m - 1) / 2) (by omega) ⟨_, by omega, by simpa using hSl, hup, rfl⟩ (St.le_refl _)
    · have hm0 : ¬ m > 0 := by simpa using hb
      rw [upTo, dif_neg hm0] at hup
      subst hup
      have T := T.other (o := .list S) n1c n1h n1b n1s
      have fS : (τ1.set k1 (.list S)) k1 = some (.list S) := at_set_same
      have O := O.other (o := .list S) O1
      generalize τ1.set k1 (.list S) = τ2 at T fS O fB' ⊢
      repeat walk_at "s1"
      refine ne_same (n := 0) (seq_of T.heap) (seq_of fS) (fun y hy => ?_) (by omega) ?_
      · obtain ⟨k, hk⟩ := List.mem_iff_getElem?.mp hy
        by_cases hkp : k = p
        · subst hkp; rw [hHp] at hk; cases hk; exact O.eqR
        · have hkl : k < hs.length := by have := (List.getElem?_eq_some_iff.mp hk).1; omega
          rw [hHk k hkp hkl] at hk; cases hk; exact eqR_int _
      repeat walk_at "s1"
      refine len_seq (seq_of T.heap) (by omega) ?_
      repeat walk_at "s1"
      rw [show decide (2 * (p : Int) + 1 < (S.length : Int)) = false by simp; omega]
      repeat walk_at "s1"
      refine WN_call ?_
      refine steps_call B T.heap (by omega) (fun k k0 kl hkp => ?_) ?_
      · have hkp' : k ≠ p := fun e => hkp (by rw [e])
        refine ⟨_, _, hHk k hkp' (by omega), hHk ((k - 1) / 2) (by omega) (by omega), ?_⟩
        have := hHole.else_ k k0 (by omega) hkp' (by omega)
        simpa using this
      repeat walk_at "s1"
      refine ifQ_false ?_
      repeat walk_at "s1"
      obtain ⟨n0, hn0⟩ : ∃ n0, hs.length = n0 + 1 := ⟨hs.length - 1, by omega⟩
      obtain ⟨mA, mB⟩ := mend hn0 hh hr
      obtain ⟨r0, t0, hrt⟩ : ∃ r t, hs = r :: t := by cases hs with | nil => exact absurd rfl c2 | cons a t => exact ⟨a, t, rfl⟩
      obtain ⟨m0, hbm, hpt⟩ := sorted_head hp hsrt hh hrt
      have hn0S : n0 < S.length := by omega
      have hS2 : S = S.take n0 ++ [S[n0]] := by
        have := List.take_append_drop n0 S
        rw [List.drop_eq_getElem_cons hn0S, List.drop_of_length_le (by omega)] at this
        exact this.symm
      have hTl : (S.take n0).length = n0 := by simp; omega
      refine pop_list (l := S.take n0) (p := S[n0]) (by rw [← hS2]; exact T.heap) (by omega) ?_
      have T := T.upd (S.take n0)
      generalize τ2.set hA (.list (S.take n0)) = τ3 at T ⊢
      refine W1_store (by walk_at "kd") (seqQ_next (S_seq (WT.mono (Q := fun f st => f = .next ∧ ∃ τ' K, st = ([(Str.ofString "script", .ref sA), (Str.ofString "base", .int bs), (Str.ofString "bag", .ref bA), (Str.ofString "x", .int x), (Str.ofString "stranger", q), (Str.ofString "before", .ref bf), (Str.ofString "place", .int p), (Str.ofString "below", .int m), (Str.ofString "stands", .ref k1), (Str.ofString "last", S[n0])], τ') ∧ TF τ' (L + 1) hA bA sA (intL K) bg sc ∧ IH K ∧ K.Perm hs.tail) ?_ ?_ (fun _ _ h => h))))
      · repeat walk_at "s1"
        refine len_seq (seq_of T.heap) (by omega) ?_
        repeat walk_at "s1"
        refine ifQ_dec (fun hb => ?_) (fun hb => ?_)
        · have hpn : p < n0 := by rw [hTl] at hb; simpa using hb
          obtain ⟨q1, q2⟩ := mB hpn
          have hlast : S[n0] = .int (R.getD n0 0) := by
            have := hHk n0 (by omega) (by omega)
            rw [List.getElem?_eq_getElem hn0S] at this; exact Option.some.inj this
          have hset : (S.take n0).set p (.int (R.getD n0 0)) = intL ((R.take n0).set p (R.getD n0 0)) := by
            rw [hH, List.take_set, List.set_set, intL_set]; simp [intL, List.map_take]
          rw [hlast]
          repeat walk_at "s1"
          refine WN_call ?_
          refine setitem_call B (i := p) T.heap (by omega) (by omega) ?_
          rw [hset]
          have T := T.upd (intL ((R.take n0).set p (R.getD n0 0)))
          generalize τ3.set hA (.list (intL ((R.take n0).set p (R.getD n0 0)))) = τ4 at T ⊢
          repeat walk_at "s1"
          refine WN_call ?_
          have hRT : (R.take n0).length = n0 := by simp; omega
          have es := sdnP_int (x := R.getD n0 0) (pos := p) (l := (R.take n0).set p (R.getD n0 0)) (by simp; omega)
          refine siftdown_call B (d := .int 0) (x := .int (R.getD n0 0)) (ltx := fun q => some (ltP (.int (R.getD n0 0)) q)) IsI T.heap (by rw [intL_set]; exact List.getElem?_set_self (by simp; omega)) (by simp; omega) (fun j y _ hy => intL_isI _ (List.mem_of_getElem? hy)) (fun y hy => ltAt_ints _ _ ⟨_, rfl⟩ hy) (fun l' h => ?_) (fun l' h => ?_)
          · rw [es] at h; cases h
          · rw [es] at h; cases h
            repeat walk_at "s1"
            exact ⟨rfl, _, _, rfl, T.upd _, q1, q2⟩
        · have hpn : p = n0 := by
            have : ¬ p < n0 := by rw [hTl] at hb; simpa using hb
            omega
          obtain ⟨q1, q2⟩ := mA hpn
          have hset : S.take n0 = intL (R.take n0) := by
            rw [hH, List.take_set, hpn, List.set_eq_of_length_le (by simp; omega)]; simp [intL, List.map_take]
          rw [hset] at T
          repeat walk_at "s1"
          exact ⟨rfl, _, _, rfl, T, q1, q2⟩
      · rintro f st ⟨rfl, τ', K, rfl, T, q1, q2⟩
        refine seqQ_next ?_
        have hKl : K.length ≤ hs.length := by rw [q2.length_eq]; simp
        refine S_seq ?_
        repeat walk_at "s1"
        refine slice_from (n := 1) (seq_of T.bag) (by simp; omega) fun b2 hb2 => ?_
        have ed : (intL bg).drop 1 = intL m0 := by rw [hbm]; rfl
        rw [ed]
        have eK : sortI K = m0 := by
          refine (sortI_of ?_ ?_).symm
          · rw [hrt] at q2; exact (q2.trans hpt).symm
          · rw [hbm] at hsrt; exact (List.pairwise_cons.mp hsrt).2
        have nb2 := ne_of_fresh hb2 T.heap
        have T := (T.fresh (o := .list (intL m0)) hb2).bag' at_set_same nb2.symm
        generalize τ'.set b2 (.list (intL m0)) = τ5 at T ⊢
        repeat walk_at "s1"
        refine call_sorted (seq_of T.heap) (by omega) fun s3 hs3 => ?_
        rw [eK]
        have T := T.fresh (o := .list (intL m0)) hs3
        repeat walk_at "s1"
        refine ne_same (n := 0) (seq_of at_set_same) (seq_of T.bag) eqR_ints (by omega) ?_
        generalize τ5.set s3 (.list (intL m0)) = τ6 at T ⊢
        repeat walk_at "s1"
        refine WN_call ?_
        refine steps_call B T.heap (by simp; omega) (fun k k0 kl _ => q1.steps k k0 (by simpa using kl)) ?_
        repeat walk_at "s1"
        refine ifQ_false ?_
        repeat walk_at "s1"
        refine ⟨rfl, _, b2, K, m0, _, rfl, T, q1, ?_, ?_, hKl⟩
        · rw [← eK]; exact (sortI_perm K).symm
        · rw [← eK]; exact sortI_sorted K
  · subst hH
    have fin : ∀ τ', TF τ' (L + 1) hA bA sA (intL hs) bg sc → τ' bf = some (.list (intL hs)) → WS ⟨G w base os mb, ⟨n + 3, true⟩, A, env⟩ (match forB.drop 7 with | .If _ _ o _ :: _ => o | _ => []) X (fun f st => f = .next ∧ ∃ τ' bA' hs' bg' ν, st = ([(Str.ofString "script", .ref sA), (Str.ofString "base", .int bs), (Str.ofString "bag", .ref bA'), (Str.ofString "x", .int x), (Str.ofString "stranger", q), (Str.ofString "before", .ref bf)] ++ ν, τ') ∧ TF τ' (L + 1) hA bA' sA (intL hs') bg' sc ∧ IH hs' ∧ hs'.Perm bg' ∧ bg'.Pairwise (· ≤ ·) ∧ hs'.length ≤ hs.length) ([(Str.ofString "script", .ref sA), (Str.ofString "base", .int bs), (Str.ofString "bag", .ref bA), (Str.ofString "x", .int x), (Str.ofString "stranger", q), (Str.ofString "before", .ref bf)], τ') := by
      intro τ' T fB
      refine S_last ?_
      repeat walk_at "s1"
      refine ne_same (n := 0) (seq_of T.heap) (seq_of fB) eqR_ints (by omega) ?_
      repeat walk_at "s1"
      exact ⟨rfl, _, _, _, _, [], rfl, T, hh, hp, hsrt, Nat.le_refl _⟩
    repeat walk_at "s1"
    refine bin_mod (by decide) ?_
    repeat walk_at "s1"
    by_cases c2 : x.fmod 3 = 2
    · have c3 : hs = [] := Classical.byContradiction fun h => c1 ⟨c2, h⟩
      rw [show (x.fmod 3 == 2) = true by simp [c2]]
      repeat walk_at "s1"
      refine ⟨by simp, fun e1 he1 => ?_⟩
      have T := T.fresh (o := .list []) he1
      have fB := at_set_fresh (o' := .list []) he1 fB
      refine ne_same (n := 0) (l := []) (seq_of (by rw [fB, c3]; rfl)) (seq_of at_set_same) (by simp) (by omega) ?_
      refine truthy_b (ifQ_false ?_)
      exact fin _ T fB
    · rw [show (x.fmod 3 == 2) = false by simp [c2]]
      refine andQ_false (ifQ_false ?_)
      exact fin _ T fB
end Mine
end
section
open PySem PySem.W
set_option Elab.async false
set_option linter.unusedVariables false
set_option maxRecDepth 100000
namespace Mine
-- an object of the state
set_option hygiene false in
local macro_rules | `(tactic| walk_at "hp") => `(tactic| first | assumption | exact T.cell | exact T.heap | exact T.bag | exact T.scr | exact at_set_same | (refine at_set_ne ?_ ?_; (first | assumption | (apply Ne.symm; assumption)); walk_at "hp") | (refine at_set_fresh (by assumption) ?_; walk_at "hp"))
set_option hygiene false in
local macro_rules | `(tactic| walk_at "kd") => `(tactic| first | (rw [hsc]; rfl) | (rw [hsc', relabel_of hsc]; rfl))
set_option hygiene false in
local macro_rules | `(tactic| walk_at "ce") => `(tactic| first | (rw [hce]; rfl) | (rw [hce']; rfl))
set_option hygiene false in
local macro_rules | `(tactic| walk_at "s1") => `(tactic| with_reducible first
  | refine seqQ_next ?_
  | refine seqQ_brk ?_
  | refine seqQ_cont ?_
  | refine seqQ_ret ?_
  | refine loopQ_brk ?_
  | refine loopQ_ret ?_
  | refine forQ_brk ?_
  | refine forQ_ret ?_
  | refine S_last ?_
  | refine S_seq ?_
  | refine S_nil ?_
  | (refine S_Assign ?_ ?h1; (case h1 => with_unfolding_all exact rfl))
  | (refine S_AssignSub ?_ ?h1; (case h1 => with_unfolding_all exact rfl))
  | refine S_if ?_
  | refine S_Return ?_
  | refine S_Break ?_
  | refine S_Continue ?_
  | (refine S_Expr ?_ ?h1 ?h2; (case h1 => with_unfolding_all (unfold PySem.interactive; walk_at "kd")); (case h2 => with_unfolding_all exact rfl))
  | (refine' W1_store ?h1 ?_; (case h1 => with_unfolding_all walk_at "kd"))
  | (refine' E_local ?h1 ?h2 ?_ ?h3; (case h1 => with_unfolding_all walk_at "kd"); (case h2 => with_unfolding_all exact rfl); (case h3 => with_unfolding_all exact rfl))
  | (refine' E_cell ?h1 ?h2 ?h3 ?_ ?h4; (case h1 => with_unfolding_all walk_at "kd"); (case h2 => with_unfolding_all walk_at "ce"); (case h3 => walk_at "hp"); (case h4 => with_unfolding_all exact rfl))
  | refine E_int ?_
  | refine E_none ?_
  | refine E_BinOp ?_
  | refine E_ifE ?_
  | refine ifE_true ?_
  | refine ifE_false ?_
  | refine storeAll_cons ?_
  | refine storeAll_nil ?_
  | refine E_Slice ?_
  | refine Part_none ?_
  | refine Part_some ?_
  | refine E_bool ?_
  | (refine E_Subscript ?_ ?h1; (case h1 => with_unfolding_all exact rfl))
  | (refine C_Compare ?_ ?h1; (case h1 => with_unfolding_all exact rfl))
  | refine C_Not ?_
  | refine C_BoolOp ?_
  | refine truthy_b ?_
  | refine bin_add ?_
  | refine bin_sub ?_
  | (refine bin_shr ?h1 ?_; (case h1 => with_unfolding_all decide))
  | refine cmp_lt ?_
  | (refine bin_mul ?_ ?h1; (case h1 => exact mulOk2))
  | refine And_last ?_
  | refine And_step ?_
  | refine Or_last ?_
  | refine Or_step ?_
  | refine andQ_true ?_
  | refine andQ_false ?_
  | refine orQ_true ?_
  | refine orQ_false ?_
  | refine ifQ_true ?_
  | refine ifQ_false ?_
  | (refine' E_CallG B.gd ?h1 ?h2 ?h3 ?h4 ?_ ?h5 ?h6 ?h7 ?h8; (case h1 => with_unfolding_all walk_at "kd"); (case h2 => with_unfolding_all exact rfl); (case h3 => exact (B.fn _ (by simp)).get); (case h4 => with_unfolding_all exact rfl); (case h5 => with_unfolding_all exact rfl); (case h6 => with_unfolding_all exact rfl); (case h7 => with_unfolding_all exact rfl); (case h8 => with_unfolding_all exact rfl))
  | (refine' E_CallB B.gd ?h1 ?h2 ?h3 ?h4 ?_ ?h5 ?h6 ?h7 ?h8; (case h1 => with_unfolding_all walk_at "kd"); (case h2 => with_unfolding_all exact rfl); (case h3 => decide); (case h4 => with_unfolding_all exact rfl); (case h5 => with_unfolding_all exact rfl); (case h6 => with_unfolding_all exact rfl); (case h7 => with_unfolding_all exact rfl); (case h8 => with_unfolding_all exact rfl))
  | (refine' E_CallT B.gd ?h1 ?h2 ?h3 ?h4 ?_ ?h5 ?h6 ?h7 ?h8; (case h1 => with_unfolding_all walk_at "kd"); (case h2 => with_unfolding_all exact rfl); (case h3 => decide); (case h4 => with_unfolding_all exact rfl); (case h5 => with_unfolding_all exact rfl); (case h6 => with_unfolding_all exact rfl); (case h7 => with_unfolding_all exact rfl); (case h8 => with_unfolding_all exact rfl))
  | refine cmp_gt ?_
  | refine Ifs_one ?_
  | refine Ifs_nil ?_
  | refine cmp_ne ?_
  | refine cmp_eq ?_
  | (refine bin_floordiv ?h1 ?h2 ?_; (case h1 => with_unfolding_all decide); (case h2 => with_unfolding_all decide))
  | refine E_List ?_
  | refine And.intro ⟨_, _, rfl, seq_of (by with_unfolding_all walk_at "hp")⟩ ?_
  | (refine' E_MethList (id := "list.append") F.slot_list_append F.type_list_append ?_ ?h1 ?h2 ?h3 ?h4 ?h5; (case h1 => with_unfolding_all exact rfl); (case h2 => with_unfolding_all exact rfl); (case h3 => with_unfolding_all exact rfl); (case h4 => with_unfolding_all exact rfl); (case h5 => with_unfolding_all exact rfl))
  | (refine' E_MethList0 (id := "list.pop") F.slot_list_pop F.type_list_pop ?_ ?h1 ?h2; (case h1 => with_unfolding_all exact rfl); (case h2 => with_unfolding_all exact rfl))
  | (refine C_value ?_ ?h1; (case h1 => with_unfolding_all exact rfl))
  | refine truthy_i ?_
  | (refine E_Tuple ?_)
  | (refine S_AssignTup ?_ ?h1 ?h2; (case h1 => with_unfolding_all exact rfl); (case h2 => with_unfolding_all exact swapped_of hsc rfl))
  | (refine Asg_Tuple rfl ?_ ?h1 ?h2 ?h3; (case h1 => with_unfolding_all exact rfl); (case h2 => with_unfolding_all exact rfl); (case h3 => with_unfolding_all exact rfl))
  | refine asgAll_cons ?_
  | refine asgAll_nil ?_
  | (refine' Asg_local ?h1 ?_; (case h1 => with_unfolding_all walk_at "kd"))
  | refine Asg_Sub ?_
  | refine A_nil ?_
  | (refine A_cons ?_ ?h1; (case h1 => with_unfolding_all exact rfl)))


variable {w : World} {base : Heap} {os : OsState} {mb : Str → Option Value}

/-- the heap behind the try -/
def HeapIs (x : Int) (hs : List Int) (q : PV) (H : List PV) : Prop :=
  (x.fmod 3 = 0 ∧ H = intL hs ++ [q]) ∨ (x.fmod 3 ≠ 0 ∧ ((x.fmod 3 = 2 ∧ hs ≠ [] ∧ H = (intL (supB lti 0 0 hs).2).set (supB lti 0 0 hs).1 q) ∨ (¬ (x.fmod 3 = 2 ∧ hs ≠ []) ∧ H = intL hs)))

set_option maxHeartbeats 4000000 in
theorem seg6 (B : Bs (G w base os mb)) {n : Nat} {A : Around} {env : Env} {L : Addr} (hsc : env.scope = (fdAt 87).scope) (hce : env.cells = cellsFrom (L + 1) (fdAt 87).scope.names [])
    {X : String → St → Prop} {Q : AFlow → St → Prop} {τ : AHeap} {hA bA sA bf : Addr} {H : List PV} {hs bg sc : List Int} {bs x : Int} {q : PV} (T : TF τ (L + 1) hA bA sA H bg sc) (fB : τ bf = some (.list (intL hs))) (nB : bf ≠ hA) (O : Odd τ hA q)
    (hh : IH hs) (hp : hs.Perm bg) (hsrt : bg.Pairwise (· ≤ ·)) (hz : hs.length ≤ 50) (hbs : bs.natAbs < 100) (hH : HeapIs x hs q H)
    (hQ : ∀ τ' bA' hs' bg' ν, TF τ' (L + 1) hA bA' sA (intL hs') bg' sc → IH hs' → hs'.Perm bg' → bg'.Pairwise (· ≤ ·) → hs'.length ≤ hs.length + 1 → Q .next ([(Str.ofString "script", .ref sA), (Str.ofString "base", .int bs), (Str.ofString "bag", .ref bA')] ++ ν, τ')) :
    WS ⟨G w base os mb, ⟨n + 3, true⟩, A, env⟩ (forB.drop 6) X Q ([(Str.ofString "script", .ref sA), (Str.ofString "base", .int bs), (Str.ofString "bag", .ref bA), (Str.ofString "x", .int x), (Str.ofString "stranger", q), (Str.ofString "before", .ref bf)], τ) := by
  refine S_seq ?_
  refine WT.mono (Q := fun f st => f = .next ∧ ∃ τ' H' ν, st = ([(Str.ofString "script", .ref sA), (Str.ofString "base", .int bs), (Str.ofString "bag", .ref bA), (Str.ofString "x", .int x), (Str.ofString "stranger", q), (Str.ofString "before", .ref bf)] ++ ν, τ') ∧ TF τ' (L + 1) hA bA sA H' bg sc ∧ τ' bf = some (.list (intL hs)) ∧ Odd τ' hA q ∧ ((x.fmod 3 = 2 ∧ hs ≠ [] ∧ H' = (intL (supB lti 0 0 hs).2).set (supB lti 0 0 hs).1 q) ∨ (¬ (x.fmod 3 = 2 ∧ hs ≠ []) ∧ H' = intL hs))) ?_
    (fun f st h => by
      obtain ⟨rfl, τ', H', ν, rfl, T', fB', O', hc⟩ := h
      exact WT.le (seg7 B hsc hce T' fB' nB O' hh hp hsrt hz hbs hc hQ) (St.le_app (.refl _))) (fun _ _ h => h)
  repeat walk_at "s1"
  refine bin_mod (by decide) ?_
  repeat walk_at "s1"
  rcases hH with ⟨c1, rfl⟩ | ⟨c1, hH⟩
  · rw [show (x.fmod 3 == 0) = true by simp [c1]]
    repeat walk_at "s1"
    refine WN_call ?_
    refine indexOf_call B (m := hs.length) T.heap (fun k hk => ⟨hs[k], by rw [List.getElem?_append_left (by simpa using hk)]; simp [intL, hk]⟩) (by rw [List.getElem?_append_right (by simp)]; simp) O.strange O.tok (by simp; omega) ?_
    repeat walk_at "s1"
    refine ⟨by simp, fun e1 he1 => ?_⟩
    refine bin_addL (seq_of (at_set_fresh he1 fB)) (seq_of at_set_same) (by simp; omega) fun e2 he2 => ?_
    have T := (T.fresh (o := .list [q]) he1).fresh (o := .list (intL hs ++ [q])) he2
    have O := (O.fresh (o := .list [q]) he1).fresh (o := .list (intL hs ++ [q])) he2
    have fB := at_set_fresh (o' := .list (intL hs ++ [q])) he2 (at_set_fresh (o' := .list [q]) he1 fB)
    repeat walk_at "s1"
    refine ne_same (n := 0) (seq_of T.heap) (seq_of at_set_same) (fun y hy => ?_) (by omega) ?_
    · rcases List.mem_append.mp hy with hy | hy
      · exact eqR_ints y hy
      · simp at hy; subst hy; exact O.eqR
    generalize (τ.set e1 (.list [q])).set e2 (.list (intL hs ++ [q])) = τ1 at T O fB ⊢
    repeat walk_at "s1"
    refine WN_call ?_
    refine delitem_call B (i := hs.length) T.heap (by simp) (by simp; omega) ?_
    have ee : (intL hs ++ [q]).eraseIdx hs.length = intL hs := by
      rw [List.eraseIdx_append_of_length_le (by simp)]; simp
    rw [ee]
    repeat walk_at "s1"
    refine ⟨rfl, _, _, [_], rfl, T.upd (intL hs), at_set_ne nB fB, O.upd, .inr ⟨fun h => ?_, rfl⟩⟩
    omega
  · rw [show (x.fmod 3 == 0) = false by simp [c1]]
    repeat walk_at "s1"
    exact ⟨rfl, _, _, [], rfl, T, fB, O, hH⟩

def TE : Str := Str.ofString "TypeError"
def IE : Str := Str.ofString "IndexError"
/-- what is told -/
structure Told (τ : AHeap) (x : Int) (hs : List Int) (q p : PV) : Prop where
  e0 : hs = [] → x.fmod 3 = 0 → ∃ a, p = .ref a ∧ τ a = some (.list [.none])
  e1 : hs = [] → x.fmod 3 = 1 → ∃ a, p = .ref a ∧ τ a = some (.list [q])
  e2 : hs = [] → x.fmod 3 = 2 → ∃ t, p = .str IE t
  one : hs.length = 1 → x.fmod 3 = 2 → ∃ a, p = .ref a ∧ τ a = some (.list (intL hs))
  te : hs ≠ [] → ¬ (hs.length = 1 ∧ x.fmod 3 = 2) → ∃ t, p = .str TE t

set_option maxHeartbeats 4000000 in
theorem seg3 (B : Bs (G w base os mb)) {n : Nat} {A : Around} {env : Env} {L : Addr} (hsc : env.scope = (fdAt 87).scope) (hce : env.cells = cellsFrom (L + 1) (fdAt 87).scope.names [])
    {X : String → St → Prop} {Q : AFlow → St → Prop} {τ : AHeap} {hA bA sA bf : Addr} {H : List PV} {hs bg sc : List Int} {bs x : Int} {q : PV} (T : TF τ (L + 1) hA bA sA H bg sc) (fB : τ bf = some (.list (intL hs))) (nB : bf ≠ hA) (O : Odd τ hA q)
    (hh : IH hs) (hp : hs.Perm bg) (hsrt : bg.Pairwise (· ≤ ·)) (hz : hs.length ≤ 50) (hbs : bs.natAbs < 100) (hH : HeapIs x hs q H) {p : PV} (hT : Told τ x hs q p)
    (hQ : ∀ τ' bA' hs' bg' ν, TF τ' (L + 1) hA bA' sA (intL hs') bg' sc → IH hs' → hs'.Perm bg' → bg'.Pairwise (· ≤ ·) → hs'.length ≤ hs.length + 1 → Q .next ([(Str.ofString "script", .ref sA), (Str.ofString "base", .int bs), (Str.ofString "bag", .ref bA')] ++ ν, τ')) :
    WS ⟨G w base os mb, ⟨n + 3, true⟩, A, env⟩ (forB.drop 3) X Q ([(Str.ofString "script", .ref sA), (Str.ofString "base", .int bs), (Str.ofString "bag", .ref bA), (Str.ofString "x", .int x), (Str.ofString "stranger", q), (Str.ofString "before", .ref bf), (Str.ofString "told", p)], τ) := by
  have hm3 := fmod3 x
  have tail : ∀ τ' d, TF τ' (L + 1) hA bA sA H bg sc → τ' bf = some (.list (intL hs)) → Odd τ' hA q → (∀ (Q' : PV → St → Prop) μ, Q' (.bool false) (μ, τ') → W2 (⟨G w base os mb, ⟨n + 3, true⟩, A, env⟩ : Cx) VRep p d (compareOp .NotEq) X Q' (μ, τ')) →
      WS ⟨G w base os mb, ⟨n + 3, true⟩, A, env⟩ (forB.drop 5) X Q ([(Str.ofString "script", .ref sA), (Str.ofString "base", .int bs), (Str.ofString "bag", .ref bA), (Str.ofString "x", .int x), (Str.ofString "stranger", q), (Str.ofString "before", .ref bf), (Str.ofString "told", p), (Str.ofString "due", d)], τ') := by
    intro τ' d T fB O hne
    refine S_seq ?_
    repeat walk_at "s1"
    refine hne _ _ ?_
    refine truthy_b (ifQ_false (S_nil (seqQ_next ?_)))
    exact WT.le (seg6 B hsc hce T fB nB O hh hp hsrt hz hbs hH hQ) (St.le_app (.refl _))
  refine S_seq ?_
  repeat walk_at "s1"
  refine E_str fun t1 ht1 => ?_
  repeat walk_at "s1"
  refine ⟨by simp, fun e1 he1 => ?_⟩
  have T := T.fresh (o := .list []) he1
  have O := O.fresh (o := .list []) he1
  have fB := at_set_fresh (o' := .list []) he1 fB
  have hTa : ∀ a l, τ a = some (.list l) → (τ.set e1 (.list [])) a = some (.list l) := fun a l h => at_set_fresh he1 h
  by_cases c0 : hs = []
  · refine eq_same (n := 0) (l := []) (seq_of (by rw [fB, c0]; rfl)) (seq_of at_set_same) (by simp) (by omega) ?_
    generalize τ.set e1 (.list []) = τ1 at T O fB hTa ⊢
    repeat walk_at "s1"
    refine ⟨by simp, fun a1 ha1 => ?_⟩
    repeat walk_at "s1"
    refine ⟨by simp, fun a2 ha2 => ?_⟩
    repeat walk_at "s1"
    refine E_str fun t2 ht2 => ?_
    repeat walk_at "s1"
    refine ⟨by simp, fun a3 ha3 => ?_⟩
    repeat walk_at "s1"
    refine bin_mod (by decide) ?_
    have T := ((T.fresh (o := .list [PV.none]) ha1).fresh (o := .list [q]) ha2).fresh (o := .list [PV.ref a1, PV.ref a2, PV.str (Str.ofString "IndexError") t2]) ha3
    have O := ((O.fresh (o := .list [PV.none]) ha1).fresh (o := .list [q]) ha2).fresh (o := .list [PV.ref a1, PV.ref a2, PV.str (Str.ofString "IndexError") t2]) ha3
    have fB := at_set_fresh (o' := .list [PV.ref a1, PV.ref a2, PV.str (Str.ofString "IndexError") t2]) ha3 (at_set_fresh (o' := .list [q]) ha2 (at_set_fresh (o' := .list [PV.none]) ha1 fB))
    have hTb : ∀ a l, τ a = some (.list l) → (((τ1.set a1 (.list [PV.none])).set a2 (.list [q])).set a3 (.list [PV.ref a1, PV.ref a2, PV.str (Str.ofString "IndexError") t2])) a = some (.list l) := fun a l h => at_set_fresh ha3 (at_set_fresh ha2 (at_set_fresh ha1 (hTa a l h)))
    have g1 : (((τ1.set a1 (.list [PV.none])).set a2 (.list [q])).set a3 (.list [PV.ref a1, PV.ref a2, PV.str (Str.ofString "IndexError") t2])) a1 = some (.list [PV.none]) := at_set_fresh ha3 (at_set_fresh ha2 at_set_same)
    have g2 : (((τ1.set a1 (.list [PV.none])).set a2 (.list [q])).set a3 (.list [PV.ref a1, PV.ref a2, PV.str (Str.ofString "IndexError") t2])) a2 = some (.list [q]) := at_set_fresh ha3 at_set_same
    have g3 : (((τ1.set a1 (.list [PV.none])).set a2 (.list [q])).set a3 (.list [PV.ref a1, PV.ref a2, PV.str (Str.ofString "IndexError") t2])) a3 = some (.list [PV.ref a1, PV.ref a2, PV.str (Str.ofString "IndexError") t2]) := at_set_same
    generalize ((τ1.set a1 (.list [PV.none])).set a2 (.list [q])).set a3 (.list [PV.ref a1, PV.ref a2, PV.str (Str.ofString "IndexError") t2]) = τ2 at T O fB hTb g1 g2 g3 ⊢
    have h3 : x.fmod 3 = 0 ∨ x.fmod 3 = 1 ∨ x.fmod 3 = 2 := by omega
    rcases h3 with h3 | h3 | h3
    · rw [h3]
      refine get_list (p := .ref a1) (seq_of g3) (by omega) rfl (by simp) ?_
      refine W1_store (by walk_at "kd") (seqQ_next ?_)
      obtain ⟨a, rfl, ha⟩ := hT.e0 c0 h3
      exact tail τ2 _ T fB O fun Q' μ hq => ne_same (n := 0) (seq_of (hTb a _ ha)) (seq_of g1) (by simp; exact .none) (by omega) hq
    · rw [h3]
      refine get_list (p := .ref a2) (seq_of g3) (by omega) rfl (by simp) ?_
      refine W1_store (by walk_at "kd") (seqQ_next ?_)
      obtain ⟨a, rfl, ha⟩ := hT.e1 c0 h3
      exact tail τ2 _ T fB O fun Q' μ hq => ne_same (n := 0) (seq_of (hTb a _ ha)) (seq_of g2) (by simp; exact O.eqR) (by omega) hq
    · rw [h3]
      refine get_list (p := .str (Str.ofString "IndexError") t2) (seq_of g3) (by omega) rfl (by simp) ?_
      refine W1_store (by walk_at "kd") (seqQ_next ?_)
      obtain ⟨t, rfl⟩ := hT.e2 c0 h3
      exact tail τ2 _ T fB O fun Q' μ hq => cmp_str_ne (by simpa [IE] using hq)
  · refine cmp_lens_eq (seq_of fB) (seq_of at_set_same) (by cases hs with | nil => exact absurd rfl c0 | cons a t => simp [intL]) ?_
    generalize τ.set e1 (.list []) = τ1 at T O fB hTa ⊢
    repeat walk_at "s1"
    refine len_seq (seq_of fB) (by simp; omega) ?_
    repeat walk_at "s1"
    have skip : ¬ (hs.length = 1 ∧ x.fmod 3 = 2) → WS ⟨G w base os mb, ⟨n + 3, true⟩, A, env⟩ (forB.drop 5) X Q ([(Str.ofString "script", .ref sA), (Str.ofString "base", .int bs), (Str.ofString "bag", .ref bA), (Str.ofString "x", .int x), (Str.ofString "stranger", q), (Str.ofString "before", .ref bf), (Str.ofString "told", p), (Str.ofString "due", .str (Str.ofString "TypeError") t1)], τ1) := fun h => by
      obtain ⟨t, rfl⟩ := hT.te c0 h
      exact tail τ1 _ T fB O fun Q' μ hq => cmp_str_ne (by simpa [TE] using hq)
    by_cases c1 : hs.length = 1
    · rw [show (((intL hs).length : Int) == 1) = true by simp [c1]]
      repeat walk_at "s1"
      refine bin_mod (by decide) ?_
      repeat walk_at "s1"
      by_cases c2 : x.fmod 3 = 2
      · rw [show (x.fmod 3 == 2) = true by simp [c2]]
        refine ifQ_true (S_last ?_)
        refine S_Assign ?_ rfl
        refine E_local (by walk_at "kd") rfl ?_ rfl
        refine W1_store (by walk_at "kd") (seqQ_next ?_)
        obtain ⟨a, rfl, ha⟩ := hT.one c1 c2
        exact tail τ1 _ T fB O fun Q' μ hq => ne_same (n := 0) (seq_of (hTa a _ ha)) (seq_of fB) eqR_ints (by omega) hq
      · rw [show (x.fmod 3 == 2) = false by simp [c2]]
        refine ifQ_false (S_nil (seqQ_next ?_))
        exact skip (fun h => c2 h.2)
    · rw [show (((intL hs).length : Int) == 1) = false by simp; omega]
      refine andQ_false (ifQ_false (S_nil (seqQ_next ?_)))
      exact skip (fun h => c1 h.1)
end Mine
end
section
open PySem PySem.W
set_option Elab.async false
set_option linter.unusedVariables false
set_option maxRecDepth 100000
namespace Mine
-- an object of the state
set_option hygiene false in
local macro_rules | `(tactic| walk_at "hp") => `(tactic| first | assumption | exact T.cell | exact T.heap | exact T.bag | exact T.scr | exact at_set_same | (refine at_set_ne ?_ ?_; (first | assumption | (apply Ne.symm; assumption)); walk_at "hp") | (refine at_set_fresh (by assumption) ?_; walk_at "hp"))
set_option hygiene false in
local macro_rules | `(tactic| walk_at "kd") => `(tactic| first | (rw [hsc]; rfl) | (rw [hsc', relabel_of hsc]; rfl))
set_option hygiene false in
local macro_rules | `(tactic| walk_at "ce") => `(tactic| first | (rw [hce]; rfl) | (rw [hce']; rfl))
set_option hygiene false in
local macro_rules | `(tactic| walk_at "s1") => `(tactic| with_reducible first
  | refine seqQ_next ?_
  | refine seqQ_brk ?_
  | refine seqQ_cont ?_
  | refine seqQ_ret ?_
  | refine loopQ_brk ?_
  | refine loopQ_ret ?_
  | refine forQ_brk ?_
  | refine forQ_ret ?_
  | refine S_last ?_
  | refine S_seq ?_
  | refine S_nil ?_
  | (refine S_Assign ?_ ?h1; (case h1 => with_unfolding_all exact rfl))
  | (refine S_AssignSub ?_ ?h1; (case h1 => with_unfolding_all exact rfl))
  | refine S_if ?_
  | refine S_Return ?_
  | refine S_Break ?_
  | refine S_Continue ?_
  | (refine S_Expr ?_ ?h1 ?h2; (case h1 => with_unfolding_all (unfold PySem.interactive; walk_at "kd")); (case h2 => with_unfolding_all exact rfl))
  | (refine' W1_store ?h1 ?_; (case h1 => with_unfolding_all walk_at "kd"))
  | (refine' E_local ?h1 ?h2 ?_ ?h3; (case h1 => with_unfolding_all walk_at "kd"); (case h2 => with_unfolding_all exact rfl); (case h3 => with_unfolding_all exact rfl))
  | (refine' E_cell ?h1 ?h2 ?h3 ?_ ?h4; (case h1 => with_unfolding_all walk_at "kd"); (case h2 => with_unfolding_all walk_at "ce"); (case h3 => walk_at "hp"); (case h4 => with_unfolding_all exact rfl))
  | refine E_int ?_
  | refine E_none ?_
  | refine E_BinOp ?_
  | refine E_ifE ?_
  | refine ifE_true ?_
  | refine ifE_false ?_
  | refine storeAll_cons ?_
  | refine storeAll_nil ?_
  | refine E_Slice ?_
  | refine Part_none ?_
  | refine Part_some ?_
  | refine E_bool ?_
  | (refine E_Subscript ?_ ?h1; (case h1 => with_unfolding_all exact rfl))
  | (refine C_Compare ?_ ?h1; (case h1 => with_unfolding_all exact rfl))
  | refine C_Not ?_
  | refine C_BoolOp ?_
  | refine truthy_b ?_
  | refine bin_add ?_
  | refine bin_sub ?_
  | (refine bin_shr ?h1 ?_; (case h1 => with_unfolding_all decide))
  | refine cmp_lt ?_
  | (refine bin_mul ?_ ?h1; (case h1 => exact mulOk2))
  | refine And_last ?_
  | refine And_step ?_
  | refine Or_last ?_
  | refine Or_step ?_
  | refine andQ_true ?_
  | refine andQ_false ?_
  | refine orQ_true ?_
  | refine orQ_false ?_
  | refine ifQ_true ?_
  | refine ifQ_false ?_
  | (refine' E_CallG B.gd ?h1 ?h2 ?h3 ?h4 ?_ ?h5 ?h6 ?h7 ?h8; (case h1 => with_unfolding_all walk_at "kd"); (case h2 => with_unfolding_all exact rfl); (case h3 => exact (B.fn _ (by simp)).get); (case h4 => with_unfolding_all exact rfl); (case h5 => with_unfolding_all exact rfl); (case h6 => with_unfolding_all exact rfl); (case h7 => with_unfolding_all exact rfl); (case h8 => with_unfolding_all exact rfl))
  | (refine' E_CallB B.gd ?h1 ?h2 ?h3 ?h4 ?_ ?h5 ?h6 ?h7 ?h8; (case h1 => with_unfolding_all walk_at "kd"); (case h2 => with_unfolding_all exact rfl); (case h3 => decide); (case h4 => with_unfolding_all exact rfl); (case h5 => with_unfolding_all exact rfl); (case h6 => with_unfolding_all exact rfl); (case h7 => with_unfolding_all exact rfl); (case h8 => with_unfolding_all exact rfl))
  | (refine' E_CallT B.gd ?h1 ?h2 ?h3 ?h4 ?_ ?h5 ?h6 ?h7 ?h8; (case h1 => with_unfolding_all walk_at "kd"); (case h2 => with_unfolding_all exact rfl); (case h3 => decide); (case h4 => with_unfolding_all exact rfl); (case h5 => with_unfolding_all exact rfl); (case h6 => with_unfolding_all exact rfl); (case h7 => with_unfolding_all exact rfl); (case h8 => with_unfolding_all exact rfl))
  | refine cmp_gt ?_
  | refine Ifs_one ?_
  | refine Ifs_nil ?_
  | refine cmp_ne ?_
  | refine cmp_eq ?_
  | (refine bin_floordiv ?h1 ?h2 ?_; (case h1 => with_unfolding_all decide); (case h2 => with_unfolding_all decide))
  | refine E_List ?_
  | refine And.intro ⟨_, _, rfl, seq_of (by with_unfolding_all walk_at "hp")⟩ ?_
  | (refine' E_MethList (id := "list.append") F.slot_list_append F.type_list_append ?_ ?h1 ?h2 ?h3 ?h4 ?h5; (case h1 => with_unfolding_all exact rfl); (case h2 => with_unfolding_all exact rfl); (case h3 => with_unfolding_all exact rfl); (case h4 => with_unfolding_all exact rfl); (case h5 => with_unfolding_all exact rfl))
  | (refine' E_MethList0 (id := "list.pop") F.slot_list_pop F.type_list_pop ?_ ?h1 ?h2; (case h1 => with_unfolding_all exact rfl); (case h2 => with_unfolding_all exact rfl))
  | (refine C_value ?_ ?h1; (case h1 => with_unfolding_all exact rfl))
  | refine truthy_i ?_
  | (refine E_Tuple ?_)
  | (refine S_AssignTup ?_ ?h1 ?h2; (case h1 => with_unfolding_all exact rfl); (case h2 => with_unfolding_all exact swapped_of hsc rfl))
  | (refine Asg_Tuple rfl ?_ ?h1 ?h2 ?h3; (case h1 => with_unfolding_all exact rfl); (case h2 => with_unfolding_all exact rfl); (case h3 => with_unfolding_all exact rfl))
  | refine asgAll_cons ?_
  | refine asgAll_nil ?_
  | (refine' Asg_local ?h1 ?_; (case h1 => with_unfolding_all walk_at "kd"))
  | refine Asg_Sub ?_
  | refine A_nil ?_
  | (refine A_cons ?_ ?h1; (case h1 => with_unfolding_all exact rfl)))


variable {w : World} {base : Heap} {os : OsState} {mb : Str → Option Value}

set_option maxHeartbeats 4000000 in
theorem seg2 (B : Bs (G w base os mb)) {n : Nat} {A : Around} {env : Env} {L : Addr} (hsc : env.scope = (fdAt 87).scope) (hce : env.cells = cellsFrom (L + 1) (fdAt 87).scope.names [])
    {X : String → St → Prop} {Q : AFlow → St → Prop} {τ : AHeap} {hA bA sA bf : Addr} {hs bg sc : List Int} {bs x : Int} {q : PV} (T : TF τ (L + 1) hA bA sA (intL hs) bg sc) (fB : τ bf = some (.list (intL hs))) (nB : bf ≠ hA) (O : Odd τ hA q)
    (hh : IH hs) (hp : hs.Perm bg) (hsrt : bg.Pairwise (· ≤ ·)) (hz : hs.length ≤ 50) (hbs : bs.natAbs < 100)
    (hQ : ∀ τ' bA' hs' bg' ν, TF τ' (L + 1) hA bA' sA (intL hs') bg' sc → IH hs' → hs'.Perm bg' → bg'.Pairwise (· ≤ ·) → hs'.length ≤ hs.length + 1 → Q .next ([(Str.ofString "script", .ref sA), (Str.ofString "base", .int bs), (Str.ofString "bag", .ref bA')] ++ ν, τ')) :
    WS ⟨G w base os mb, ⟨n + 3, true⟩, A, env⟩ (forB.drop 2) X Q ([(Str.ofString "script", PV.ref sA), (Str.ofString "base", .int bs), (Str.ofString "bag", .ref bA), (Str.ofString "x", .int x), (Str.ofString "stranger", q), (Str.ofString "before", .ref bf)], τ) := by
  have hm3 := fmod3 x
  refine S_seq ?_
  refine WT.mono (Q := fun f st => f = .next ∧ ∃ τ' H p, st = ([(Str.ofString "script", PV.ref sA), (Str.ofString "base", .int bs), (Str.ofString "bag", .ref bA), (Str.ofString "x", .int x), (Str.ofString "stranger", q), (Str.ofString "before", .ref bf), (Str.ofString "told", p)], τ') ∧ TF τ' (L + 1) hA bA sA H bg sc ∧ τ' bf = some (.list (intL hs)) ∧ Odd τ' hA q ∧ HeapIs x hs q H ∧ Told τ' x hs q p) ?_
    (fun f st h => by
      obtain ⟨rfl, τ', H, p, rfl, T', fB', O', h1, h2⟩ := h
      exact seg3 B hsc hce T' fB' nB O' hh hp hsrt hz hbs h1 h2 hQ) (fun _ _ h => h)
  have hOv : ∀ σ', Over τ hA σ' → Strange σ' q := fun σ' ⟨l, e⟩ => by rw [e]; exact O.upd.strange
  refine S_Try ?_
  refine S_last ?_
  repeat walk_at "s1"
  refine bin_mod (by decide) ?_
  repeat walk_at "s1"
  have TEH : ∀ τ' H, TF τ' (L + 1) hA bA sA H bg sc → τ' bf = some (.list (intL hs)) → Odd τ' hA q → HeapIs x hs q H → hs ≠ [] → ¬ (hs.length = 1 ∧ x.fmod 3 = 2) →
      WH (⟨G w base os mb, ⟨n + 3, true⟩, A, env⟩ : Cx) (match forB.drop 2 with | .Try _ h _ _ _ :: _ => h | _ => []) "TypeError" X (fun f st => f = .next ∧ ∃ τ' H p, st = ([(Str.ofString "script", PV.ref sA), (Str.ofString "base", .int bs), (Str.ofString "bag", .ref bA), (Str.ofString "x", .int x), (Str.ofString "stranger", q), (Str.ofString "before", .ref bf), (Str.ofString "told", p)], τ') ∧ TF τ' (L + 1) hA bA sA H bg sc ∧ τ' bf = some (.list (intL hs)) ∧ Odd τ' hA q ∧ HeapIs x hs q H ∧ Told τ' x hs q p) ([(Str.ofString "script", PV.ref sA), (Str.ofString "base", .int bs), (Str.ofString "bag", .ref bA), (Str.ofString "x", .int x), (Str.ofString "stranger", q), (Str.ofString "before", .ref bf)], τ') := by
    intro τ' H T fB O hH h0 h1
    refine H_hit sub_TT B.gd (by walk_at "kd") rfl (by decide) rfl (fun c' e1 e2 e3 => ?_) rfl
    obtain ⟨g', lv', A', env'⟩ := c'
    cases e1; cases e2
    refine S_last ?_
    repeat walk_at "s1"
    refine E_str fun t ht => ?_
    repeat walk_at "s1"
    exact ⟨rfl, τ', H, _, rfl, T, fB, O, hH, ⟨fun e => absurd e h0, fun e => absurd e h0, fun e => absurd e h0, fun e1 e2 => absurd ⟨e1, e2⟩ h1, fun _ _ => ⟨t, rfl⟩⟩⟩
  have h3 : x.fmod 3 = 0 ∨ x.fmod 3 = 1 ∨ x.fmod 3 = 2 := by omega
  rcases h3 with h3 | h3 | h3
  · rw [show (x.fmod 3 == 0) = true by simp [h3]]
    repeat walk_at "s1"
    refine WN_call ?_
    refine pushS B hOv T.heap (by omega) (fun h0 => ?_) (fun h0 => ?_)
    · repeat walk_at "s1"
      refine ⟨by simp, fun a1 ha1 => ?_⟩
      repeat walk_at "s1"
      refine ⟨rfl, _, _, _, rfl, (T.upd [q]).fresh ha1, at_set_fresh ha1 (at_set_ne nB fB), O.upd.fresh ha1, .inl ⟨h3, by rw [h0]; rfl⟩, ⟨fun _ _ => ⟨a1, rfl, at_set_same⟩, fun _ e => by omega, fun _ e => by omega, fun e => by rw [h0] at e; simp at e, fun e => absurd h0 e⟩⟩
    · exact TEH _ _ (T.upd _) (at_set_ne nB fB) O.upd (.inl ⟨h3, rfl⟩) h0 (fun h => by omega)
  · rw [show (x.fmod 3 == 0) = false by simp [h3]]
    repeat walk_at "s1"
    refine bin_mod (by decide) ?_
    repeat walk_at "s1"
    rw [show (x.fmod 3 == 1) = true by simp [h3]]
    repeat walk_at "s1"
    refine WN_call ?_
    refine pushpopS B hOv T.heap (by omega) (fun h0 => ?_) (fun h0 => ?_)
    · repeat walk_at "s1"
      refine ⟨by simp, fun a1 ha1 => ?_⟩
      repeat walk_at "s1"
      refine ⟨rfl, _, _, _, rfl, T.fresh ha1, at_set_fresh ha1 fB, O.fresh ha1, .inr ⟨by omega, .inr ⟨fun h => by omega, rfl⟩⟩, ⟨fun _ e => by omega, fun _ _ => ⟨a1, rfl, at_set_same⟩, fun _ e => by omega, fun e => by rw [h0] at e; simp at e, fun e => absurd h0 e⟩⟩
    · exact TEH _ _ T fB O (.inr ⟨by omega, .inr ⟨fun h => by omega, rfl⟩⟩) h0 (fun h => by omega)
  · rw [show (x.fmod 3 == 0) = false by simp [h3]]
    repeat walk_at "s1"
    refine bin_mod (by decide) ?_
    repeat walk_at "s1"
    rw [show (x.fmod 3 == 1) = false by simp [h3]]
    repeat walk_at "s1"
    refine WN_call ?_
    refine replS B hOv T.heap (by omega) (fun h0 => ?_) (fun r h0 => ?_) (fun h0 => ?_)
    · refine H_miss sub_IT B.gd (by walk_at "kd") rfl (by decide) rfl ?_ rfl
      refine H_hit sub_II B.gd (by walk_at "kd") rfl (by decide) rfl (fun c' e1 e2 e3 => ?_) rfl
      obtain ⟨g', lv', A', env'⟩ := c'
      cases e1; cases e2
      refine S_last ?_
      repeat walk_at "s1"
      refine E_str fun t ht => ?_
      repeat walk_at "s1"
      exact ⟨rfl, τ, _, _, rfl, T, fB, O, .inr ⟨by omega, .inr ⟨fun h => h.2 h0, rfl⟩⟩, ⟨fun _ e => by omega, fun _ e => by omega, fun _ _ => ⟨t, rfl⟩, fun e => by rw [h0] at e; simp at e, fun e => absurd h0 e⟩⟩
    · repeat walk_at "s1"
      refine ⟨by simp, fun a1 ha1 => ?_⟩
      repeat walk_at "s1"
      refine ⟨rfl, _, _, _, rfl, (T.upd [q]).fresh ha1, at_set_fresh ha1 (at_set_ne nB fB), O.upd.fresh ha1, .inr ⟨by omega, .inl ⟨h3, by rw [h0]; simp, ?_⟩⟩, ⟨fun e => (by rw [h0] at e; cases e), fun e => (by rw [h0] at e; cases e), fun e => (by rw [h0] at e; cases e), fun _ _ => ⟨a1, rfl, by rw [h0]; exact at_set_same⟩, fun _ e => absurd ⟨by rw [h0]; rfl, h3⟩ e⟩⟩
      rw [h0, supB, dif_neg (by simp)]; rfl
    · exact TEH _ _ (T.upd _) (at_set_ne nB fB) O.upd (.inr ⟨by omega, .inl ⟨h3, by intro e; rw [e] at h0; simp at h0, rfl⟩⟩) (by intro e; rw [e] at h0; simp at h0) (fun h => by omega)

set_option maxHeartbeats 4000000 in
theorem seg0 (B : Bs (G w base os mb)) {n : Nat} {A : Around} {env : Env} {L : Addr} (hsc : env.scope = (fdAt 87).scope) (hce : env.cells = cellsFrom (L + 1) (fdAt 87).scope.names [])
    {X : String → St → Prop} {Q : AFlow → St → Prop} {τ : AHeap} {hA bA sA : Addr} {hs bg sc : List Int} {bs x : Int} (T : TF τ (L + 1) hA bA sA (intL hs) bg sc)
    (hh : IH hs) (hp : hs.Perm bg) (hsrt : bg.Pairwise (· ≤ ·)) (hz : hs.length ≤ 50) (hbs : bs.natAbs < 100)
    (hQ : ∀ τ' bA' hs' bg' ν, TF τ' (L + 1) hA bA' sA (intL hs') bg' sc → IH hs' → hs'.Perm bg' → bg'.Pairwise (· ≤ ·) → hs'.length ≤ hs.length + 1 → Q .next ([(Str.ofString "script", .ref sA), (Str.ofString "base", .int bs), (Str.ofString "bag", .ref bA')] ++ ν, τ')) :
    WS ⟨G w base os mb, ⟨n + 3, true⟩, A, env⟩ forB X Q ([(Str.ofString "script", .ref sA), (Str.ofString "base", .int bs), (Str.ofString "bag", .ref bA), (Str.ofString "x", .int x)], τ) := by
  refine S_seq ?_
  have two : ∀ τ' q, TF τ' (L + 1) hA bA sA (intL hs) bg sc → Odd τ' hA q → WS ⟨G w base os mb, ⟨n + 3, true⟩, A, env⟩ (forB.drop 1) X Q ([(Str.ofString "script", .ref sA), (Str.ofString "base", .int bs), (Str.ofString "bag", .ref bA), (Str.ofString "x", .int x), (Str.ofString "stranger", q)], τ') := by
    intro τ' q T O
    refine S_seq ?_
    repeat walk_at "s1"
    refine call_listOf (seq_of (by walk_at "hp")) (by simp; omega) fun bf hbf => ?_
    have nB := ne_of_fresh hbf T.heap
    refine W1_store (by walk_at "kd") (seqQ_next ?_)
    exact seg2 B hsc hce (T.fresh hbf) at_set_same nB.symm (O.fresh hbf) hh hp hsrt hz hbs hQ
  repeat walk_at "s1"
  refine E_str fun t ht => ?_
  repeat walk_at "s1"
  refine ⟨by simp, fun a1 ha1 => ?_⟩
  have n1 := ne_of_fresh ha1 T.heap
  have T := T.fresh (o := .list []) ha1
  repeat walk_at "s1"
  refine ⟨by simp, fun a2 ha2 => ?_⟩
  repeat walk_at "s1"
  refine bin_mod (by decide) ?_
  have hm3 := fmod3 (x.fdiv 3)
  have h3 : (x.fdiv 3).fmod 3 = 0 ∨ (x.fdiv 3).fmod 3 = 1 ∨ (x.fdiv 3).fmod 3 = 2 := by omega
  rcases h3 with h3 | h3 | h3
  · rw [h3]
    refine get_list (p := .str (Str.ofString "") t) (seq_of at_set_same) (by omega) rfl (by simp) ?_
    refine W1_store (by walk_at "kd") (seqQ_next ?_)
    exact two _ _ (T.fresh ha2) (.inl ⟨t, ht, rfl⟩)
  · rw [h3]
    refine get_list (p := .none) (seq_of at_set_same) (by omega) rfl (by simp) ?_
    refine W1_store (by walk_at "kd") (seqQ_next ?_)
    exact two _ _ (T.fresh ha2) (.inr (.inl rfl))
  · rw [h3]
    refine get_list (p := .ref a1) (seq_of at_set_same) (by omega) rfl (by simp) ?_
    refine W1_store (by walk_at "kd") (seqQ_next ?_)
    exact two _ _ (T.fresh ha2) (.inr (.inr ⟨a1, rfl, at_set_fresh ha2 at_set_same, n1.symm⟩))
end Mine
end
section
open PySem PySem.W
set_option Elab.async false
set_option linter.unusedVariables false
set_option maxRecDepth 100000
namespace Mine
-- an object of the state
set_option hygiene false in
local macro_rules | `(tactic| walk_at "hp") => `(tactic| first | assumption | exact T.cell | exact T.heap | exact T.bag | exact T.scr | exact at_set_same | (refine at_set_ne ?_ ?_; (first | assumption | (apply Ne.symm; assumption)); walk_at "hp") | (refine at_set_fresh (by assumption) ?_; walk_at "hp"))
set_option hygiene false in
local macro_rules | `(tactic| walk_at "kd") => `(tactic| first | (rw [hsc]; rfl) | (rw [hsc', relabel_of hsc]; rfl))
set_option hygiene false in
local macro_rules | `(tactic| walk_at "ce") => `(tactic| first | (rw [hce]; rfl) | (rw [hce']; rfl))
set_option hygiene false in
local macro_rules | `(tactic| walk_at "s1") => `(tactic| with_reducible first
  | refine seqQ_next ?_
  | refine seqQ_brk ?_
  | refine seqQ_cont ?_
  | refine seqQ_ret ?_
  | refine loopQ_brk ?_
  | refine loopQ_ret ?_
  | refine forQ_brk ?_
  | refine forQ_ret ?_
  | refine S_last ?_
  | refine S_seq ?_
  | refine S_nil ?_
  | (refine S_Assign ?_ ?h1; (case h1 => with_unfolding_all exact rfl))
  | (refine S_AssignSub ?_ ?h1; (case h1 => with_unfolding_all exact rfl))
  | refine S_if ?_
  | refine S_Return ?_
  | refine S_Break ?_
  | refine S_Continue ?_
  | (refine S_Expr ?_ ?h1 ?h2; (case h1 => with_unfolding_all (unfold PySem.interactive; walk_at "kd")); (case h2 => with_unfolding_all exact rfl))
  | (refine' W1_store ?h1 ?_; (case h1 => with_unfolding_all walk_at "kd"))
  | (refine' E_local ?h1 ?h2 ?_ ?h3; (case h1 => with_unfolding_all walk_at "kd"); (case h2 => with_unfolding_all exact rfl); (case h3 => with_unfolding_all exact rfl))
  | (refine' E_cell ?h1 ?h2 ?h3 ?_ ?h4; (case h1 => with_unfolding_all walk_at "kd"); (case h2 => with_unfolding_all walk_at "ce"); (case h3 => walk_at "hp"); (case h4 => with_unfolding_all exact rfl))
  | refine E_int ?_
  | refine E_none ?_
  | refine E_BinOp ?_
  | refine E_ifE ?_
  | refine ifE_true ?_
  | refine ifE_false ?_
  | refine storeAll_cons ?_
  | refine storeAll_nil ?_
  | refine E_Slice ?_
  | refine Part_none ?_
  | refine Part_some ?_
  | refine E_bool ?_
  | (refine E_Subscript ?_ ?h1; (case h1 => with_unfolding_all exact rfl))
  | (refine C_Compare ?_ ?h1; (case h1 => with_unfolding_all exact rfl))
  | refine C_Not ?_
  | refine C_BoolOp ?_
  | refine truthy_b ?_
  | refine bin_add ?_
  | refine bin_sub ?_
  | (refine bin_shr ?h1 ?_; (case h1 => with_unfolding_all decide))
  | refine cmp_lt ?_
  | (refine bin_mul ?_ ?h1; (case h1 => exact mulOk2))
  | refine And_last ?_
  | refine And_step ?_
  | refine Or_last ?_
  | refine Or_step ?_
  | refine andQ_true ?_
  | refine andQ_false ?_
  | refine orQ_true ?_
  | refine orQ_false ?_
  | refine ifQ_true ?_
  | refine ifQ_false ?_
  | (refine' E_CallG B.gd ?h1 ?h2 ?h3 ?h4 ?_ ?h5 ?h6 ?h7 ?h8; (case h1 => with_unfolding_all walk_at "kd"); (case h2 => with_unfolding_all exact rfl); (case h3 => exact (B.fn _ (by simp)).get); (case h4 => with_unfolding_all exact rfl); (case h5 => with_unfolding_all exact rfl); (case h6 => with_unfolding_all exact rfl); (case h7 => with_unfolding_all exact rfl); (case h8 => with_unfolding_all exact rfl))
  | (refine' E_CallB B.gd ?h1 ?h2 ?h3 ?h4 ?_ ?h5 ?h6 ?h7 ?h8; (case h1 => with_unfolding_all walk_at "kd"); (case h2 => with_unfolding_all exact rfl); (case h3 => decide); (case h4 => with_unfolding_all exact rfl); (case h5 => with_unfolding_all exact rfl); (case h6 => with_unfolding_all exact rfl); (case h7 => with_unfolding_all exact rfl); (case h8 => with_unfolding_all exact rfl))
  | (refine' E_CallT B.gd ?h1 ?h2 ?h3 ?h4 ?_ ?h5 ?h6 ?h7 ?h8; (case h1 => with_unfolding_all walk_at "kd"); (case h2 => with_unfolding_all exact rfl); (case h3 => decide); (case h4 => with_unfolding_all exact rfl); (case h5 => with_unfolding_all exact rfl); (case h6 => with_unfolding_all exact rfl); (case h7 => with_unfolding_all exact rfl); (case h8 => with_unfolding_all exact rfl))
  | refine cmp_gt ?_
  | refine Ifs_one ?_
  | refine Ifs_nil ?_
  | refine cmp_ne ?_
  | refine cmp_eq ?_
  | (refine bin_floordiv ?h1 ?h2 ?_; (case h1 => with_unfolding_all decide); (case h2 => with_unfolding_all decide))
  | refine E_List ?_
  | refine And.intro ⟨_, _, rfl, seq_of (by with_unfolding_all walk_at "hp")⟩ ?_
  | (refine' E_MethList (id := "list.append") F.slot_list_append F.type_list_append ?_ ?h1 ?h2 ?h3 ?h4 ?h5; (case h1 => with_unfolding_all exact rfl); (case h2 => with_unfolding_all exact rfl); (case h3 => with_unfolding_all exact rfl); (case h4 => with_unfolding_all exact rfl); (case h5 => with_unfolding_all exact rfl))
  | (refine' E_MethList0 (id := "list.pop") F.slot_list_pop F.type_list_pop ?_ ?h1 ?h2; (case h1 => with_unfolding_all exact rfl); (case h2 => with_unfolding_all exact rfl))
  | (refine C_value ?_ ?h1; (case h1 => with_unfolding_all exact rfl))
  | refine truthy_i ?_
  | (refine E_Tuple ?_)
  | (refine S_AssignTup ?_ ?h1 ?h2; (case h1 => with_unfolding_all exact rfl); (case h2 => with_unfolding_all exact swapped_of hsc rfl))
  | (refine Asg_Tuple rfl ?_ ?h1 ?h2 ?h3; (case h1 => with_unfolding_all exact rfl); (case h2 => with_unfolding_all exact rfl); (case h3 => with_unfolding_all exact rfl))
  | refine asgAll_cons ?_
  | refine asgAll_nil ?_
  | (refine' Asg_local ?h1 ?_; (case h1 => with_unfolding_all walk_at "kd"))
  | (refine' Asg_cell ?h1 ?h2 ?h3 ?_; (case h1 => with_unfolding_all walk_at "kd"); (case h2 => with_unfolding_all walk_at "ce"); (case h3 => walk_at "hp"))
  | refine Asg_Sub ?_
  | refine A_nil ?_
  | (refine A_cons ?_ ?h1; (case h1 => with_unfolding_all exact rfl)))


variable {w : World} {base : Heap} {os : OsState} {mb : Str → Option Value}

theorem ne_of_cell {τ : AHeap} {a b : Addr} {v : Option PV} {l : List PV} (h : τ a = some (.cell v)) (h2 : τ b = some (.list l)) : b ≠ a := fun e => by rw [e, h] at h2; cases h2
theorem intL_get {l : List Int} {k : Nat} {p : PV} (h : (intL l)[k]? = some p) : k < l.length ∧ ∃ x, p = .int x := by
  obtain ⟨h1, h2⟩ := List.getElem?_eq_some_iff.mp h
  exact ⟨by simpa using h1, intL_isI p (h2 ▸ List.getElem_mem h1)⟩

/-- behind the loop -/
theorem seg_end (B : Bs (G w base os mb)) {n : Nat} {A : Around} {env : Env} {L : Addr} (hsc : env.scope = (fdAt 87).scope) (hce : env.cells = cellsFrom (L + 1) (fdAt 87).scope.names [])
    {X : String → St → Prop} {Q : AFlow → St → Prop} {τ : AHeap} {hA bA sA : Addr} {hs bg sc : List Int} {bs : Int} (T : TF τ (L + 1) hA bA sA (intL hs) bg sc)
    (hh : IH hs) (hp : hs.Perm bg) (hsrt : bg.Pairwise (· ≤ ·)) (hz : hs.length ≤ 50) (hQ : ∀ st, Q (.ret (.bool true)) st) :
    WS ⟨G w base os mb, ⟨n + 3, true⟩, A, env⟩ ((bdAt 87).drop 4) X Q ([(Str.ofString "script", .ref sA), (Str.ofString "base", .int bs), (Str.ofString "bag", .ref bA)], τ) := by
  have hlen := hp.length_eq
  refine S_seq ?_
  refine S_AssignComp (cl := [(Str.ofString "heap", L + 1)]) rfl (swaps_of hsc rfl) (by walk_at "kd") (closure_of hce rfl) (by decide) rfl (by decide) (fun x => rfl) ?_
  repeat walk_at "s1"
  refine ⟨_, _, it_list (seq_of T.bag), ⟨fun c' a hcx hlx hsc' hce' ha => ?_⟩⟩
  obtain ⟨g', lv', A', env'⟩ := c'
  obtain rfl : g' = G w base os mb := hcx
  obtain rfl : lv' = ⟨n + 3, true⟩ := hlx
  have na := ne_of_fresh ha T.heap
  have nc := ne_of_fresh ha T.cell
  have nb := ne_of_fresh ha T.bag
  have ns := ne_of_fresh ha T.scr
  refine ⟨fun k st => ∃ τ' hs', st = ([], τ') ∧ TF τ' (L + 1) hA bA sA (intL hs') bg sc ∧ IH hs' ∧ hs'.Perm (bg.drop k) ∧ τ' a = some (.list (intL (bg.take k))), ⟨_, hs, rfl, T.fresh ha, hh, by simpa using hp, at_set_same⟩, ?_, ?_, ?_⟩
  · rintro k _ ⟨τ', hs', rfl, T', _⟩; exact seq_of T'.bag
  · rintro k p _ hpk ⟨τ', hs', rfl, T, q1, q2, q3⟩
    obtain ⟨hk, x, rfl⟩ := intL_get hpk
    have hdl : hs'.length ≤ 50 := by rw [q2.length_eq]; simp; omega
    have hdrop : bg.drop k = bg[k] :: bg.drop (k + 1) := List.drop_eq_getElem_cons hk
    have hsd : (bg.drop k).Pairwise (· ≤ ·) := hsrt.sublist (List.drop_sublist k bg)
    have htake : bg.take (k + 1) = bg.take k ++ [bg[k]] := by rw [List.take_add_one, List.getElem?_eq_getElem hk]; rfl
    repeat walk_at "s1"
    refine ⟨fun _ => ?_, fun h => by cases h⟩
    repeat walk_at "s1"
    refine WN_call ?_
    refine popI B T.heap (by omega) (fun h0 => ?_) (fun y h0 => ?_) (fun r m y h0 => ?_)
    · rw [h0] at q2; exact absurd q2.symm.eq_nil (by simp; exact hk)
    · obtain ⟨m0, e1, e2⟩ := sorted_head q2 hsd q1 h0
      rw [hdrop] at e1
      obtain ⟨e3, e4⟩ := List.cons.inj e1
      refine ⟨_, at_set_ne na.symm q3, by simp; omega, _, ⟨_, [], rfl, (T.upd []).other nc na nb ns, by intro k k0 kl; simp at kl, by rw [e4]; exact e2, ?_⟩, St.le_app (.refl _)⟩
      rw [htake, intL_append, e3]; exact at_set_same
    · have h0' : hs' = r :: (m ++ [y]) := h0
      obtain ⟨m0, e1, e2⟩ := sorted_head q2 hsd q1 h0'
      rw [hdrop] at e1
      obtain ⟨e3, e4⟩ := List.cons.inj e1
      obtain ⟨p1, p2⟩ := popped q1 h0
      refine ⟨_, at_set_ne na.symm q3, by simp; omega, _, ⟨_, _, rfl, (T.upd _).other nc na nb ns, p1, by rw [e4]; exact p2.trans e2, ?_⟩, St.le_app (.refl _)⟩
      rw [htake, intL_append, e3]; exact at_set_same
  · rintro _ ⟨τ', hs', rfl, T, q1, q2, q3⟩
    simp only [intL_length, List.drop_length, List.take_length] at q2 q3
    have e0 : hs' = [] := q2.eq_nil
    subst e0
    clear hsc' hce'
    refine seqQ_next (S_seq ?_)
    refine S_Try ?_
    refine S_last ?_
    repeat walk_at "s1"
    refine WN_call ?_
    refine popI B T.heap (by simp) (fun h0 => ?_) (fun y h0 => by cases h0) (fun r m y h0 => by cases h0)
    refine H_hit sub_II B.gd (by walk_at "kd") rfl (by decide) rfl (fun c' e1 e2 e3 => ?_) rfl
    obtain ⟨g', lv', A', env'⟩ := c'
    cases e1; cases e2
    refine S_last ?_
    repeat walk_at "s1"
    refine E_Compare ?_ rfl
    repeat walk_at "s1"
    refine eq_same (n := 0) (seq_of q3) (seq_of T.bag) eqR_ints (by omega) ?_
    exact hQ _

set_option maxHeartbeats 4000000 in
theorem law_call (B : Bs (G w base os mb)) {n : Nat} {sc0 : Addr} {ns : List Int} {σ : AHeap} (hs0 : seqAt σ sc0 = some (intL ns)) (hz : ns.length ≤ 100) {X : String → AHeap → Prop} {Q : PV → AHeap → Prop} (hQ : ∀ σ', Q (.bool true) σ') :
    CallS (G w base os mb) ⟨n + 4, true⟩ (.ref 87) [.ref sc0] X Q σ := by
  refine call_def (fd := fdAt 87) (body := bdAt 87) [Str.ofString "script"] B.gd (B.fn 87 (by simp)).get rfl rfl (B.fn 87 (by simp)).code rfl rfl rfl rfl rfl rfl (by decide) rfl (fun vs hv => ?_) (fun i => rfl) (fun i => ?_) ?_
  · match vs, hv with
    | [v1], _ => rfl
  · show ((true && (some i == some i)) && true) = true
    simp
  intro c L hc hlv hsc hce hq hf
  obtain ⟨g, lv, A, env⟩ := c
  subst hc hlv
  show WS _ (bdAt 87) _ _ ([(Str.ofString "script", .ref sc0)], σ.set (L + 1) (.cell none))
  have hc0 : σ (L + 1) = none := hf _ (Nat.le_succ _)
  have s0 : seqAt (σ.set (L + 1) (.cell none)) sc0 = some (intL ns) := by
    unfold seqAt at hs0 ⊢
    have : sc0 ≠ L + 1 := fun e => by rw [e, hc0] at hs0; cases hs0
    rw [AHeap.set_ne _ _ this]; exact hs0
  have cc : (σ.set (L + 1) (.cell none)) (L + 1) = some (.cell none) := at_set_same
  generalize σ.set (L + 1) (.cell none) = τ at s0 cc ⊢
  -- the rest, the script once cut
  have rest : ∀ τ' sA sc, τ' sA = some (.list (intL sc)) → τ' (L + 1) = some (.cell none) → sc.length ≤ 20 → WS ⟨G w base os mb, ⟨n + 3, true⟩, A, env⟩ ((bdAt 87).drop 1) (fun e st => X e st.2) (fun f st => Q (match f with | .ret p => p | _ => .none) st.2) ([(Str.ofString "script", .ref sA)], τ') := by
    intro τ' sA sc fs cc hz
    have rest2 : ∀ bs : Int, bs.natAbs < 100 → WS ⟨G w base os mb, ⟨n + 3, true⟩, A, env⟩ ((bdAt 87).drop 2) (fun e st => X e st.2) (fun f st => Q (match f with | .ret p => p | _ => .none) st.2) ([(Str.ofString "script", .ref sA), (Str.ofString "base", .int bs)], τ') := by
      intro bs hbs
      refine S_seq ?_
      repeat walk_at "s1"
      refine ⟨by simp, fun hA ha => ?_⟩
      repeat walk_at "s1"
      refine ⟨by simp, fun bA hb => ?_⟩
      repeat walk_at "s1"
      refine ⟨by simp, ?_⟩
      repeat walk_at "s1"
      have n1 := ne_of_fresh ha fs
      have n2 := ne_of_fresh ha cc
      have n3 := ne_of_fresh hb at_set_same
      have n4 := ne_of_fresh hb (at_set_fresh (o' := .list []) ha fs)
      have n5 := ne_of_fresh hb (at_set_fresh (o' := .list []) ha cc)
      have T : TF (((τ'.set hA (.list [])).set bA (.list [])).set (L + 1) (.cell (some (.ref hA)))) (L + 1) hA bA sA (intL []) [] sc :=
        ⟨at_set_same, at_set_ne n2.symm (at_set_fresh hb at_set_same), at_set_ne n5.symm at_set_same, at_set_ne (ne_of_cell cc fs) (at_set_fresh hb (at_set_fresh ha fs)), n2, n3.symm, n1⟩
      generalize ((τ'.set hA (.list [])).set bA (.list [])).set (L + 1) (.cell (some (.ref hA))) = τ2 at T ⊢
      refine S_for rfl (fun k st => ∃ τ' bA hs bg, st = ([(Str.ofString "script", .ref sA), (Str.ofString "base", .int bs), (Str.ofString "bag", .ref bA)], τ') ∧ TF τ' (L + 1) hA bA sA (intL hs) bg sc ∧ IH hs ∧ hs.Perm bg ∧ bg.Pairwise (· ≤ ·) ∧ hs.length ≤ k) ?_ (fun x => rfl)
      repeat walk_at "s1"
      refine ⟨_, _, _, it_list (seq_of T.scr), ⟨τ2, bA, [], [], rfl, T, by intro k k0 kl; simp at kl, .refl _, .nil, Nat.le_refl _⟩, St.le_refl _, ?_, ?_, ?_⟩
      · rintro k _ ⟨τ', bA, hs, bg, rfl, T, _⟩; exact seq_of T.scr
      · rintro k p _ hk ⟨τ', bA, hs, bg, rfl, T, q1, q2, q3, q4⟩
        obtain ⟨hk', x, rfl⟩ := intL_get hk
        refine Asg_local (by walk_at "kd") ?_
        refine seg0 B hsc hce T q1 q2 q3 (by omega) hbs fun τ'' bA' hs' bg' ν T' k1 k2 k3 k4 => ?_
        exact forQ_next ⟨τ'', bA', hs', bg', rfl, T', k1, k2, k3, by omega⟩ (St.le_app (.refl _))
      · rintro _ ⟨τ', bA, hs, bg, rfl, T, q1, q2, q3, q4⟩
        rw [intL_length] at q4
        refine S_nil (seqQ_next ?_)
        exact seg_end B hsc hce T q1 q2 q3 (by omega) fun st => hQ _
    refine S_seq ?_
    refine WT.mono (Q := fun f st => ∃ bs : Int, f = .next ∧ bs.natAbs < 100 ∧ st = ([(Str.ofString "script", .ref sA), (Str.ofString "base", .int bs)], τ')) ?_ (fun f st h => by obtain ⟨bs, rfl, hb, rfl⟩ := h; exact rest2 bs hb) (fun _ _ h => h)
    repeat walk_at "s1"
    refine call_sum rfl (seq_of fs) ?_
    repeat walk_at "s1"
    refine bin_mod (by decide) ?_
    repeat walk_at "s1"
    refine ifE_dec (fun h => ?_) (fun h => ?_)
    · repeat walk_at "s1"
      refine len_seq (seq_of fs) (by simp; omega) ?_
      repeat walk_at "s1"
      refine bin_mod (by decide) ?_
      repeat walk_at "s1"
      refine ⟨_, rfl, ?_, rfl⟩
      have h1 := Int.fmod_nonneg_of_pos ((intL sc).length : Int) (b := 6) (by decide)
      have h2 := Int.fmod_lt_of_pos ((intL sc).length : Int) (b := 6) (by decide)
      omega
    · repeat walk_at "s1"
      exact ⟨_, rfl, by decide, rfl⟩
  refine S_seq ?_
  repeat walk_at "s1"
  refine E_Or ?_
  repeat walk_at "s1"
  refine call_listOf s0 (by simp; omega) fun a1 ha1 => ?_
  repeat walk_at "s1"
  refine slice_upto (n := 20) (seq_of at_set_same) (by simp; omega) fun a2 ha2 => ?_
  have et : (intL ns).take 20 = intL (ns.take 20) := by simp [intL, List.map_take]
  rw [et]
  have cc1 := at_set_fresh (o' := .list (intL (ns.take 20))) ha2 (at_set_fresh (o' := .list (intL ns)) ha1 cc)
  refine truthy_l (seq_of at_set_same) (by simp; omega) ?_
  refine orV_dec (fun h => ?_) (fun h => ?_)
  · refine W1_store (by walk_at "kd") (seqQ_next ?_)
    exact rest _ _ _ at_set_same cc1 (by simp; omega)
  · refine E_Or1 ?_
    repeat walk_at "s1"
    refine ⟨by simp, fun a3 ha3 => ?_⟩
    refine W1_store (by walk_at "kd") (seqQ_next ?_)
    exact rest _ _ [0] at_set_same (at_set_fresh ha3 cc1) (by simp)
end Mine
end
section
open PySem PySem.W
set_option Elab.async false
set_option linter.unusedVariables false
set_option maxRecDepth 100000
namespace Mine
theorem mg_is {p : Params} {h : Heap} {ob : Obj} {n : Nat} (K : h.get? mainGlobals = some ob) (hd : ob.data = .dict (esW p) n) {mg : Str → Option Value} (hn : h.Ns mainGlobals mg) : mg = mgW p := by
  obtain ⟨o, es, ep, h1, h2, _, h3⟩ := hn
  rw [K] at h1
  have e := Option.some.inj h1
  subst e
  rw [hd] at h2
  injection h2 with e1 e2
  subst e1
  funext x
  exact (h3 x).symm
set_option maxHeartbeats 2000000 in
theorem finish01 {w : World} {s₁ : Shared} {mg mb : Str → Option Value} {items : Array Value} {ns : List Int} (hB : ∀ mg, mg = mgW w.params → s₁.heap.Ns mainGlobals mg → (∀ x : Str, x ≠ "__name__" → mb x = bootBuiltins x) → s₁.heap.Ns builtinsNs mb → s₁.heap.NoLimit → Bs ⟨PySem.Challenge.rw_dn0048_01.row.prog, w, s₁.heap, s₁.os, mg, mb⟩) (hmg : mg = mgW w.params) (hn : s₁.heap.Ns mainGlobals mg) (hb : s₁.heap.Ns builtinsNs mb)
    (hbu : ∀ x : Str, x ≠ "__name__" → mb x = bootBuiltins x) (hnl : s₁.heap.NoLimit) (hobj : s₁.heap.get? 88 = some { cls := .type "list", data := .seq items }) (hI : PyProof.Rows.IntsAre items.toList ns) (hz : ns.length ≤ 63) (hg : s₁.gens = #[]) (htk : 0 < s₁.toks) :
    wpAny (model PySem.Challenge.rw_dn0048_01.row.prog w) callerA (call (.ref 87) [.ref 88]) (fun v s' => v = .bool true ∧ (∀ b o, s₁.heap.get? b = some o → s'.heap.get? b = some o) ∧ s'.os = s₁.os ∧ s'.gens = #[]) (fun _ _ => False) s₁ := by
  subst hmg
  have B : Bs (G w s₁.heap s₁.os mb) := hB _ rfl hn hbu hb hnl
  have C := law_call B (n := 10) (sc0 := 88) (ns := ns) (σ := AHeap.set (fun _ => none) 88 (.rlist (intL ns))) (seq_ofr at_set_same) (by omega) (X := fun _ _ => False) (Q := fun p _ => p = .bool true) (fun _ => rfl)
  refine wpAny_call (codeAny_mono (C callerA [] [] [] s₁ [.ref 88] [] ?_ ?_ (.cons rfl .nil) .nil) fun r s' x => ?_)
  · exact ⟨rfl, by simp, fun _ => rfl, by decide +kernel, by decide +kernel⟩
  · refine ⟨fun _ _ h => h, hg, rfl, by simp, by simp, by simp, by simp, fun a o h => ?_, htk⟩
    by_cases ha : a = 88
    · rw [ha, AHeap.set_same] at h
      cases h
      rw [ha]
      exact ⟨items.toList, ⟨_, hobj⟩, intsAre_reps hI⟩
    · rw [AHeap.set_ne _ _ ha] at h; cases h
  · cases r with
    | error e => obtain ⟨y, cls, σ', h1, h2, h3, q⟩ := x; exact q.elim
    | ok f =>
      cases f with
      | ret v => obtain ⟨p, σ', R, hv, k, q⟩ := x; exact ⟨by rw [q] at hv; exact hv, R.stays, R.os, R.gens⟩
      | next => exact False.elim x
      | brk => exact False.elim x
      | cont => exact False.elim x
end Mine

open PySem.W.X PySem.W.ZRun PyProof.Rows
set_option maxHeartbeats 8000000 in
theorem PySem.Challenge.cw_dn0048_01_holds : PySem.Challenge.rw_dn0048_01.Holds := by
  w_on; o_law; z_head; (case hw => w_witness2)
  k_fill
  intro w s₀ s₁ mg mb G y fa o pm cd doc dV kV ho hd hcd hD hmg hg args vals as L hpre hlay hrd hwl hlo
  z_open y L KX ZH ZN ZT
  refine Ground.open G ?_
  intro T B D TE TW
  wrow_args hpre hlay hrd hwl hlo
  obtain ⟨hat, hsz⟩ := script_at L
  have htk := script_toks L ZT
  rw [ZN] at hat hsz
  subst hat
  x_fa T KX hmg
  rename Heap.IsList _ _ _ => hL
  rename IntsAre _ _ => hI
  rename ¬ ((63 : Int) < _) => hz
  have hB : ∀ mg, mg = Mine.mgW w.params → s₁.heap.Ns mainGlobals mg → (∀ x : Str, x ≠ "__name__" → mb x = bootBuiltins x) → s₁.heap.Ns builtinsNs mb → s₁.heap.NoLimit → Mine.Bs ⟨PySem.Challenge.rw_dn0048_01.row.prog, w, s₁.heap, s₁.os, mg, mb⟩ := by
    intro mg _ hn hbu hb hnl
    refine ⟨⟨hn, hb, hbu, hnl⟩, ?_⟩
    intro a ha
    simp only [List.mem_cons, List.not_mem_nil, or_false] at ha
    rcases ha with rfl | rfl | rfl | rfl | rfl | rfl | rfl | rfl | rfl | rfl | rfl
    all_goals exact ⟨KX _ _ rfl, _, _, _, _, rfl, KX _ _ rfl, rfl, rfl⟩
  have hmgw : mg = Mine.mgW w.params := Mine.mg_is (n := 20) (KX 3 _ rfl) rfl T.g
  refine wpAny_mono (Mine.finish01 hB hmgw T.g T.b T.builtins T.nolimit (script_obj L hL) (by simpa using hI) (by omega) hg (Nat.lt_of_lt_of_le (by decide) htk)) (fun v s' h => ?_) (fun e s' h => h.elim)
  obtain ⟨rfl, h1, h2, h3⟩ := h
  refine ⟨.inl ⟨.bool true, .bool true, [], rfl, fun _ => rfl, ReadsW.bool true, ?_, fun _ => ⟨List.nodup_nil, fun _ hm => (nomatch hm)⟩⟩, .of_keep h1, h2, .of_eq h3⟩
  first | rfl | wrow_post
end
