/- What the executor's values and memory stand for. -/
import Derived.Test.YtopoejfnbnejpaaX3
import Derived.Laws.Cells
import Derived.Laws.World
namespace Go.SX

/-- Where a block lies: its number, the first cell's offset, how many cells there are from there on (of a block that may grow). -/
structure Pl where
  b : Nat
  o : Nat
  cap : Nat
abbrev Env := Nat → Option Pl
def Env.le (η η' : Env) : Prop := ∀ h p, η h = some p → η' h = some p
theorem Env.le_refl (η : Env) : η.le η := fun _ _ h => h
theorem Env.le_trans {a b c : Env} (h : a.le b) (k : b.le c) : a.le c := fun _ _ e => k _ _ (h _ _ e)

section
variable (val : Nat → Nat)
def dS (η : Env) : SC → Option Value
  | .bool b => some (.bool b)
  | .int k n => some (.int k n)
  | .sym k x => some (.int k ((dW val k.bits x : Nat) : Int))
  | .ptr h o => (η h).map fun p => .pointer (some ⟨p.b, p.o + o, none⟩)
  | .nilp => some (.pointer none)
  | .sl h o len cap => (η h).map fun p => .slice (some ⟨p.b, p.o + o, none⟩) len cap
  | .slc h o len => (η h).bind fun p => if o + len ≤ p.cap then some (.slice (some ⟨p.b, p.o + o, none⟩) len (p.cap - o)) else none
  | .snil => some (.slice none 0 0)
  | .iface t h o => (η h).map fun p => .iface t (.pointer (some ⟨p.b, p.o + o, none⟩))
  | .niface => some .nilIface
  | .func f => some (.func (.func f) #[] #[])
def dL (η : Env) : List SC → Option (List Value)
  | [] => some []
  | s :: l => (dS val η s).bind fun v => (dL η l).map (v :: ·)
def dA (η : Env) : AV → Option Value
  | .sc s => dS val η s
  | .agg l => (dL val η l).map fun vs => .agg vs.toArray
def dAs (η : Env) : List AV → Option (List Value)
  | [] => some []
  | s :: l => (dA val η s).bind fun v => (dAs η l).map (v :: ·)
def dX (η : Env) : XV → Option Value
  | .av a => dA val η a
  | .tup l => (dAs val η l).map fun vs => .tuple vs.toArray
  | .undef => some undef
def dXs (η : Env) : List XV → Option (List Value)
  | [] => some []
  | s :: l => (dX val η s).bind fun v => (dXs η l).map (v :: ·)
end

section
variable {val : Nat → Nat}
theorem dS_mono {η η' : Env} (hη : η.le η') {s : SC} {v : Value} (h : dS val η s = some v) : dS val η' s = some v := by
  cases s <;> simp only [dS] at h ⊢ <;> first
    | exact h
    | (rename_i a _; cases ha : η a with
       | none => simp [ha] at h
       | some p => rw [ha] at h; rw [hη _ _ ha]; exact h)
    | (rename_i a _ _; cases ha : η a with
       | none => simp [ha] at h
       | some p => rw [ha] at h; rw [hη _ _ ha]; exact h)
    | (rename_i a _ _ _; cases ha : η a with
       | none => simp [ha] at h
       | some p => rw [ha] at h; rw [hη _ _ ha]; exact h)
    | (rename_i _ a _; cases ha : η a with
       | none => simp [ha] at h
       | some p => rw [ha] at h; rw [hη _ _ ha]; exact h)
theorem dL_mono {η η' : Env} (hη : η.le η') : ∀ {l : List SC} {vs : List Value}, dL val η l = some vs → dL val η' l = some vs
  | [], _, h => h
  | s :: l, vs, h => by
    simp only [dL, Option.bind_eq_some_iff, Option.map_eq_some_iff] at h ⊢
    obtain ⟨v, h1, w, h2, h3⟩ := h
    exact ⟨v, dS_mono hη h1, w, dL_mono hη h2, h3⟩
theorem dA_mono {η η' : Env} (hη : η.le η') {a : AV} {v : Value} (h : dA val η a = some v) : dA val η' a = some v := by
  cases a with
  | sc s => exact dS_mono hη h
  | agg l =>
    simp only [dA, Option.map_eq_some_iff] at h ⊢
    obtain ⟨vs, h1, h2⟩ := h
    exact ⟨vs, dL_mono hη h1, h2⟩
theorem dAs_mono {η η' : Env} (hη : η.le η') : ∀ {l : List AV} {vs : List Value}, dAs val η l = some vs → dAs val η' l = some vs
  | [], _, h => h
  | s :: l, vs, h => by
    simp only [dAs, Option.bind_eq_some_iff, Option.map_eq_some_iff] at h ⊢
    obtain ⟨v, h1, w, h2, h3⟩ := h
    exact ⟨v, dA_mono hη h1, w, dAs_mono hη h2, h3⟩
theorem dX_mono {η η' : Env} (hη : η.le η') {a : XV} {v : Value} (h : dX val η a = some v) : dX val η' a = some v := by
  cases a with
  | av a => exact dA_mono hη h
  | tup l =>
    simp only [dX, Option.map_eq_some_iff] at h ⊢
    obtain ⟨vs, h1, h2⟩ := h
    exact ⟨vs, dAs_mono hη h1, h2⟩
  | undef => exact h
theorem dXs_mono {η η' : Env} (hη : η.le η') : ∀ {l : List XV} {vs : List Value}, dXs val η l = some vs → dXs val η' l = some vs
  | [], _, h => h
  | s :: l, vs, h => by
    simp only [dXs, Option.bind_eq_some_iff, Option.map_eq_some_iff] at h ⊢
    obtain ⟨v, h1, w, h2, h3⟩ := h
    exact ⟨v, dX_mono hη h1, w, dXs_mono hη h2, h3⟩

theorem dS_one {η : Env} {s : SC} {v : Value} (h : dS val η s = some v) : v.oneCell' = true ∧ v.cells = #[v] := by
  cases s <;> simp only [dS, Option.some.injEq, Option.map_eq_some_iff, Option.bind_eq_some_iff] at h
  all_goals first
    | (subst h; exact ⟨rfl, rfl⟩)
    | (obtain ⟨p, _, rfl⟩ := h; exact ⟨rfl, rfl⟩)
    | (obtain ⟨p, _, h⟩ := h; split at h <;> simp at h; subst h; exact ⟨rfl, rfl⟩)
theorem dL_length {η : Env} : ∀ {l : List SC} {vs : List Value}, dL val η l = some vs → vs.length = l.length
  | [], _, h => by simp [dL] at h; subst h; rfl
  | s :: l, vs, h => by
    simp only [dL, Option.bind_eq_some_iff, Option.map_eq_some_iff] at h
    obtain ⟨v, h1, w, h2, rfl⟩ := h
    simp [dL_length h2]
theorem dL_get {η : Env} : ∀ {l : List SC} {vs : List Value} {i : Nat} {s : SC}, dL val η l = some vs → l[i]? = some s → ∃ v, vs[i]? = some v ∧ dS val η s = some v
  | [], _, i, s, _, h => by simp at h
  | x :: l, vs, i, s, h, hi => by
    simp only [dL, Option.bind_eq_some_iff, Option.map_eq_some_iff] at h
    obtain ⟨v, h1, w, h2, rfl⟩ := h
    cases i with
    | zero => simp at hi; subst hi; exact ⟨v, by simp, h1⟩
    | succ i => obtain ⟨u, hu, hd⟩ := dL_get h2 (by simpa using hi); exact ⟨u, by simpa using hu, hd⟩
theorem dL_oneCell {η : Env} : ∀ {l : List SC} {vs : List Value}, dL val η l = some vs → ∀ v ∈ vs, v.oneCell' = true
  | [], _, h, v, hv => by simp [dL] at h; subst h; cases hv
  | x :: l, vs, h, v, hv => by
    simp only [dL, Option.bind_eq_some_iff, Option.map_eq_some_iff] at h
    obtain ⟨u, h1, w, h2, rfl⟩ := h
    rcases List.mem_cons.1 hv with rfl | hv
    · exact (dS_one h1).1
    · exact dL_oneCell h2 v hv
theorem dL_append {η : Env} : ∀ {l m : List SC} {vs ws : List Value}, dL val η l = some vs → dL val η m = some ws → dL val η (l ++ m) = some (vs ++ ws)
  | [], m, vs, ws, h, k => by simp [dL] at h; subst h; simpa using k
  | x :: l, m, vs, ws, h, k => by
    simp only [dL, Option.bind_eq_some_iff, Option.map_eq_some_iff] at h
    obtain ⟨u, h1, w, h2, rfl⟩ := h
    simp only [List.cons_append, dL, h1, Option.bind_some, dL_append h2 k, Option.map_some]
theorem dL_cut {η : Env} : ∀ {l : List SC} {vs : List Value} (o n : Nat), dL val η l = some vs → dL val η ((l.drop o).take n) = some ((vs.drop o).take n)
  | [], vs, o, n, h => by simp [dL] at h; subst h; simp [dL]
  | x :: l, vs, o, n, h => by
    have h' := h
    simp only [dL, Option.bind_eq_some_iff, Option.map_eq_some_iff] at h
    obtain ⟨u, h1, w, h2, rfl⟩ := h
    cases o with
    | succ o => simpa using dL_cut o n h2
    | zero => cases n with
      | zero => simp [dL]
      | succ n =>
        have := dL_cut 0 n h2
        simp only [List.drop_zero] at this
        simp [dL, h1, this]
end
end Go.SX
