/- From a closed run of the executor to a contract: how a state is set up, and what is read off its end. -/
import Derived.Test.YtopoejfnbnejpaaX9
import Derived.Below
namespace Go.SX
open Go.RowKit
variable {val : Nat → Nat}

def st00 : St := ⟨.nil, 10⟩
def env0 : Env := fun _ => none
theorem MR.nil (w : World) : MR val env0 st00 w :=
  ⟨fun h B hB => by simp [st00, Tr.get_nil] at hB, fun h h' B B' p p' hB => by simp [st00, Tr.get_nil] at hB, fun _ _ => rfl⟩

/-- One block more. -/
theorem MR.add {η : Env} {st : St} {w : World} (h : MR val η st w) {g : Nat} {B : Blk} {p : Pl} {vs : List Value} (hg : g < st.nh) (hn : η g = none) (hd : dL val η B.cells = some vs) (hb : BR w p B.kind vs)
    (hsep : ∀ g' B' p', st.mem.get g' = some B' → η g' = some p' → p'.b ≠ p.b) : MR val (η.upd g p) { st with mem := st.mem.set g B } w := by
  have hle : η.le (η.upd g p) := Env.le_upd hn
  have hold : ∀ f C, (st.mem.set g B).get f = some C → (f = g ∧ C = B) ∨ (f ≠ g ∧ st.mem.get f = some C) := by
    intro f C hf
    rw [Tr.get_set] at hf
    split at hf
    · exact .inl ⟨by assumption, by simpa using hf.symm⟩
    · exact .inr ⟨by assumption, hf⟩
  refine ⟨?_, ?_, ?_⟩
  · intro f C hf
    rcases hold f C hf with ⟨rfl, rfl⟩ | ⟨hne, hf⟩
    · exact ⟨p, vs, Env.upd_same _ _ _, dL_mono hle hd, hb⟩
    · obtain ⟨q, us, e1, e2, e3⟩ := h.blk f C hf
      exact ⟨q, us, hle _ _ e1, dL_mono hle e2, e3⟩
  · intro f f' C C' q q' hf hf' hq hq' hne hk
    rcases hold f C hf with ⟨rfl, rfl⟩ | ⟨h1, hf1⟩
    · rcases hold f' C' hf' with ⟨rfl, rfl⟩ | ⟨h2, hf2⟩
      · exact absurd rfl hne
      · rw [Env.upd_same] at hq; injection hq with hq; subst hq
        rw [Env.upd_other h2] at hq'
        exact fun e => hsep f' C' q' hf2 hq' e.symm
    · rw [Env.upd_other h1] at hq
      rcases hold f' C' hf' with ⟨rfl, rfl⟩ | ⟨h2, hf2⟩
      · rw [Env.upd_same] at hq'; injection hq' with hq'; subst hq'
        exact hsep f C q hf1 hq
      · rw [Env.upd_other h2] at hq'
        exact h.sep f f' C C' q q' hf1 hf2 hq hq' hne hk
  · intro f hf
    rw [Env.upd_other (by have : st.nh ≤ f := hf; omega)]
    exact h.fresh f hf

/-- Bytes by their names, as cells. -/
def symB (a : Nat) : Nat → List SC
  | 0 => []
  | n + 1 => .sym .u8 (.at a) :: symB (a + 1) n
def valB (val : Nat → Nat) (a : Nat) : Nat → List Value
  | 0 => []
  | n + 1 => .int .u8 ((val a % 256 : Nat) : Int) :: valB val (a + 1) n
theorem dL_symB (η : Env) : ∀ (n a : Nat), dL val η (symB a n) = some (valB val a n)
  | 0, _ => rfl
  | n + 1, a => by
    simp only [symB, dL, dL_symB η n (a + 1), dS, dW]
    rfl
theorem valB_get (a n i : Nat) : (valB val a n)[i]? = if i < n then some (.int .u8 ((val (a + i) % 256 : Nat) : Int)) else none := by
  induction n generalizing a i with
  | zero => simp [valB]
  | succ n ih =>
    cases i with
    | zero => simp [valB]
    | succ i =>
      simp only [valB, List.getElem?_cons_succ, ih]
      simp only [Nat.add_lt_add_iff_right, Nat.add_assoc, Nat.add_comm 1 i]
/-- Bytes of named words, as cells: byte k of word o, o + 1 and so on, 'm' bytes a word. -/
def subB (o m : Nat) (i : Nat) : Nat → List SC
  | 0 => []
  | n + 1 => .sym .u8 (.pk [.sub (o + i / m) (i % m)]) :: subB o m (i + 1) n
def outN (val : Nat → Nat) (o m i : Nat) : Nat := val (o + i / m) / 256 ^ (i % m) % 256
def outB (val : Nat → Nat) (o m : Nat) (i : Nat) : Nat → List Value
  | 0 => []
  | n + 1 => .int .u8 ((outN val o m i : Nat) : Int) :: outB val o m (i + 1) n
theorem dL_subB (η : Env) (o m : Nat) : ∀ (n i : Nat), dL val η (subB o m i n) = some (outB val o m i n)
  | 0, _ => rfl
  | n + 1, i => by
    have h : (dBs val [BA.sub (o + i / m) (i % m)]) % 2 ^ IntKind.u8.bits = outN val o m i := by
      simp only [dBs, dBA, outN, Nat.mul_zero, Nat.add_zero]
      exact Nat.mod_eq_of_lt (Nat.mod_lt _ (by decide))
    simp only [subB, dL, dL_subB η o m n (i + 1), dS, dW, h]
    rfl
theorem outB_get (o m i n j : Nat) : (outB val o m i n)[j]? = if j < n then some (.int .u8 ((outN val o m (i + j) : Nat) : Int)) else none := by
  induction n generalizing i j with
  | zero => simp [outB]
  | succ n ih =>
    cases j with
    | zero => simp [outB]
    | succ j =>
      simp only [outB, List.getElem?_cons_succ, ih]
      simp only [Nat.add_lt_add_iff_right, Nat.add_assoc, Nat.add_comm 1 j]
theorem outB_length (o m : Nat) : ∀ n i, (outB val o m i n).length = n
  | 0, _ => rfl
  | n + 1, i => by simp [outB, outB_length o m n]

/-- What comes back is a slice of these cells. -/
noncomputable def isSl (cells : List SC) (n : Nat) : Option (XV × St) → Bool
  | some (.av (.sc (.slc h o m)), st) => Nat.beq m n && readIs st h o n cells
  | some (.av (.sc (.sl h o m _)), st) => Nat.beq m n && readIs st h o n cells
  | _ => false
where
  readIs (st : St) (h o n : Nat) (cells : List SC) : Bool :=
    match readN st h o n with
    | some l => l == cells
    | none => false
theorem readIs_ok {st : St} {h o n : Nat} {cells : List SC} (e : isSl.readIs st h o n cells = true) : readN st h o n = some cells := by
  unfold isSl.readIs at e
  split at e
  · rename_i l hl; simp only [beq_iff_eq] at e; rw [← e]; exact hl
  · cases e
theorem isSl_ok {cells : List SC} {n : Nat} {r : Option (XV × St)} (h : isSl cells n r = true) :
    ∃ v st', r = some (v, st') ∧ ∀ (η : Env) (w : World) (x : Value) (vs : List Value), MR val η st' w → dX val η v = some x → dL val η cells = some vs →
      ∃ b o c, x = .slice (some ⟨b, o, none⟩) n c ∧ ∀ j u, vs[j]? = some u → w.cell? ⟨b, o + j, none⟩ = some u := by
  unfold isSl at h
  split at h
  · rename_i g o m st
    simp only [Bool.and_eq_true, beq_dec, decide_eq_true_eq] at h
    obtain ⟨rfl, h2⟩ := h
    refine ⟨_, _, rfl, fun η w x vs hm hx hvs => ?_⟩
    obtain ⟨p, us, e1, e2, _, e4⟩ := hm.read (readIs_ok h2)
    rw [e2] at hvs; injection hvs with hvs; subst hvs
    simp only [dX, dA, dS, e1, Option.bind_some] at hx
    split at hx
    · injection hx with hx
      exact ⟨_, _, _, hx.symm, e4⟩
    · cases hx
  · rename_i g o m c st
    simp only [Bool.and_eq_true, beq_dec, decide_eq_true_eq] at h
    obtain ⟨rfl, h2⟩ := h
    refine ⟨_, _, rfl, fun η w x vs hm hx hvs => ?_⟩
    obtain ⟨p, us, e1, e2, _, e4⟩ := hm.read (readIs_ok h2)
    rw [e2] at hvs; injection hvs with hvs; subst hvs
    simp only [dX, dA, dS, e1, Option.map_some, Option.some.injEq] at hx
    exact ⟨_, _, _, hx.symm, e4⟩
  · cases h

/-- Nothing comes back, and a block is these cells. -/
noncomputable def isMem (g : Nat) (cells : List SC) (n : Nat) : Option (XV × St) → Bool
  | some (.tup [], st) => isSl.readIs st g 0 n cells && isRw (st.mem.get g) n
  | _ => false
where
  isRw : Option Blk → Nat → Bool
  | some ⟨.rw, l⟩, n => Nat.beq l.length n
  | _, _ => false
theorem isMem_ok {g : Nat} {cells : List SC} {n : Nat} {r : Option (XV × St)} (h : isMem g cells n r = true) :
    ∃ st', r = some (.tup [], st') ∧ st'.mem.get g = some ⟨.rw, cells⟩ := by
  unfold isMem at h
  split at h
  · rename_i st
    simp only [Bool.and_eq_true] at h
    obtain ⟨h1, h2⟩ := h
    refine ⟨st, rfl, ?_⟩
    have h3 := readIs_ok h1
    unfold readN at h3
    cases hg : st.mem.get g with
    | none => rw [hg] at h3; cases h3
    | some B =>
      obtain ⟨k, l⟩ := B
      rw [hg] at h2 h3
      cases k <;> simp only [isMem.isRw] at h2 <;> try (cases h2; done)
      simp only [beq_dec, decide_eq_true_eq] at h2
      obtain ⟨c1, c2⟩ := cut_ok h3
      simp only [List.drop_zero] at c2
      rw [c2, ← h2, List.take_length]
  · cases h

theorem KP.below {S : Nat → Prop} {w w' : World} (h : KP S w w') {B : Nat} (hB : B ≤ w.heap.size) (hS : ∀ k, k < B → ¬ S k) : Below B w w' :=
  ⟨h.os, h.tape, h.output, h.size, fun k hk => h.block k (by omega) (hS k hk)⟩
end Go.SX
