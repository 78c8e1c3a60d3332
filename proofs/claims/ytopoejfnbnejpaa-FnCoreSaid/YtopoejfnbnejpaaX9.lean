/- The table of named words: a closed trie of nodes, whose words are there. -/
import Derived.Test.YtopoejfnbnejpaaX8
namespace Go.SX

def baHs : List BA → List Nat
  | [] => []
  | .lit _ :: l => baHs l
  | .sub r _ :: l => r :: baHs l
def WX.refs : WX → List Nat
  | .at r => [r]
  | .pk l => baHs l
  | .sum l _ => l
  | .shl r _ => [r]
  | .shr r _ => [r]
def Nd.refs : Nd → List Nat
  | .wx _ x => x.refs
  | .xor a b => [a, b]
  | .xorc a _ => [a]
  | .rot _ a _ => [a]
def headN : List Nat → Nat
  | [] => 0
  | r :: _ => r
def Nd.key (n : Nd) : Nat := headN n.refs
def ndIs (n : Nd) : Option Nd → Bool
  | some m => m == n
  | none => false
noncomputable def findN (D : Tr Nd) (n : Nd) : List Nat → Option Nat
  | [] => none
  | r :: l => bif ndIs n (D.get r) then some r else findN D n l
noncomputable def findO (D : Tr Nd) (n : Nd) : Option (List Nat) → Option Nat
  | some l => findN D n l
  | none => none
/-- The table: 'D' tells each name's node, 'U' the names whose node begins with a name. -/
noncomputable def tabF (D : Tr Nd) (U : Tr (List Nat)) (n : Nd) : Option Nat := findO D n (U.get n.key)

theorem findN_ok {D : Tr Nd} {n : Nd} {r : Nat} : ∀ {l : List Nat}, findN D n l = some r → D.get r = some n
  | [], h => by cases h
  | x :: l, h => by
    simp only [findN] at h
    cases hb : ndIs n (D.get x) with
    | false => rw [hb] at h; exact findN_ok h
    | true =>
      rw [hb] at h; injection h with h; subst h
      cases hd : D.get x with
      | none => rw [hd] at hb; cases hb
      | some m => rw [hd] at hb; simp only [ndIs, beq_iff_eq] at hb; rw [hb]
theorem tabF_ok {D : Tr Nd} {U : Tr (List Nat)} {n : Nd} {r : Nat} (h : tabF D U n = some r) : D.get r = some n := by
  unfold tabF at h
  cases hu : U.get n.key with
  | none => rw [hu] at h; cases h
  | some l => rw [hu] at h; exact findN_ok h

def ltAll (n : Nat) : List Nat → Bool
  | [] => true
  | h :: l => Nat.blt h n && ltAll n l
def ndLt (n : Nat) : Option Nd → Bool
  | some m => ltAll n m.refs
  | none => true
def ndNo : Option Nd → Bool
  | some _ => false
  | none => true
/-- No name below 'base' has a node. -/
noncomputable def freeB (D : Tr Nd) : Nat → Bool
  | 0 => true
  | n + 1 => ndNo (D.get n) && freeB D n
/-- A node looks at names ahead of it alone. -/
noncomputable def wfT (D : Tr Nd) : Nat → Bool
  | 0 => true
  | n + 1 => ndLt n (D.get n) && wfT D n
def Tr.max {α : Type} : Tr α → Nat
  | .nil => 0
  | .node _ l r => 2 * Nat.max l.max r.max + 1

theorem Tr.get_max {α : Type} : ∀ (t : Tr α) (n : Nat), t.max ≤ n → t.get n = none
  | .nil, _, _ => rfl
  | .node v l r, n, h => by
    rw [Tr.get_node]
    simp only [Tr.max] at h
    have hl : l.max ≤ Nat.max l.max r.max := Nat.le_max_left _ _
    have hr : r.max ≤ Nat.max l.max r.max := Nat.le_max_right _ _
    have h1 : Nat.beq n 0 = false := by rw [beq_dec]; simp; omega
    rw [h1]
    simp only [cond_false]
    by_cases hb : n % 2 = 1
    · have : Nat.beq (n % 2) 1 = true := by rw [beq_dec]; simp [hb]
      rw [this]
      simp only [cond_true]
      exact Tr.get_max l (n / 2) (by omega)
    · have : Nat.beq (n % 2) 1 = false := by rw [beq_dec]; simp [hb]
      rw [this]
      simp only [cond_false]
      exact Tr.get_max r (n / 2 - 1) (by omega)

section
variable {val val' : Nat → Nat}
theorem dBs_congr : ∀ {l : List BA}, (∀ r ∈ baHs l, val r = val' r) → dBs val l = dBs val' l
  | [], _ => rfl
  | .lit n :: l, h => by simp only [dBs, dBA]; rw [dBs_congr (l := l) h]
  | .sub r i :: l, h => by
    simp only [baHs, List.mem_cons, forall_eq_or_imp] at h
    simp only [dBs, dBA]; rw [dBs_congr (l := l) h.2, h.1]
theorem dSum_congr : ∀ {l : List Nat}, (∀ r ∈ l, val r = val' r) → dSum val l = dSum val' l
  | [], _ => rfl
  | r :: l, h => by
    simp only [List.mem_cons, forall_eq_or_imp] at h
    simp only [dSum]; rw [dSum_congr (l := l) h.2, h.1]
theorem dW_congr {b : Nat} {x : WX} (h : ∀ r ∈ x.refs, val r = val' r) : dW val b x = dW val' b x := by
  cases x <;> simp only [WX.refs] at h <;> simp only [dW]
  · rw [h _ (by simp)]
  · rw [dBs_congr h]
  · rw [dSum_congr h]
  · rw [h _ (by simp)]
  · rw [h _ (by simp)]
theorem dN_congr {n : Nd} (h : ∀ r ∈ n.refs, val r = val' r) : dN val n = dN val' n := by
  cases n <;> simp only [Nd.refs] at h <;> simp only [dN]
  · rw [dW_congr h]
  · rw [h _ (by simp), h _ (by simp)]
  · rw [h _ (by simp)]
  · rw [h _ (by simp)]
end

theorem ltAll_ok {n : Nat} : ∀ {l : List Nat}, ltAll n l = true → ∀ r ∈ l, r < n
  | [], _, r, h => by cases h
  | x :: l, h, r, hr => by
    simp only [ltAll, Bool.and_eq_true] at h
    rcases List.mem_cons.1 hr with rfl | hr
    · simpa using h.1
    · exact ltAll_ok h.2 r hr

/-- Words for the names: those below 'base' as given. -/
theorem exists_val (D : Tr Nd) (base : Nat) (inp : Nat → Nat) (hb : freeB D base = true) : ∀ N, wfT D N = true → ∃ val : Nat → Nat, (∀ i, i < base → val i = inp i) ∧ ∀ r n, r < N → D.get r = some n → val r = dN val n
  | 0, _ => ⟨inp, fun _ _ => rfl, fun r n h => by omega⟩
  | N + 1, h => by
    simp only [wfT, Bool.and_eq_true] at h
    obtain ⟨v, h1, h2⟩ := exists_val D base inp hb N h.2
    cases hd : D.get N with
    | none =>
      refine ⟨v, h1, fun r n hr hn => ?_⟩
      by_cases e : r = N
      · subst e; rw [hd] at hn; cases hn
      · exact h2 r n (by omega) hn
    | some m =>
      have hlt : ∀ r ∈ m.refs, r < N := by have := h.1; rw [hd] at this; exact ltAll_ok this
      have hbase : base ≤ N := by
        rcases Nat.lt_or_ge N base with hlt | hge
        · exfalso
          have go : ∀ b, N < b → freeB D b = true → False := by
            intro b
            induction b with
            | zero => intro h; omega
            | succ b ih =>
              intro hN hf
              simp only [freeB, Bool.and_eq_true] at hf
              by_cases e : b = N
              · subst e; rw [hd] at hf; simp [ndNo] at hf
              · exact ih (by omega) hf.2
          exact go base hlt hb
        · exact hge
      refine ⟨fun i => if i = N then dN v m else v i, fun i hi => by simp only; rw [if_neg (by omega)]; exact h1 i hi, fun r n hr hn => ?_⟩
      by_cases e : r = N
      · subst e
        rw [hd] at hn; injection hn with hn; subst hn
        simp only [if_true]
        exact dN_congr fun k hk => by have := hlt k hk; rw [if_neg (by omega)]
      · simp only []
        rw [if_neg e, h2 r n (by omega) hn]
        have hwf : ∀ k, k ≤ N → wfT D k = true := by
          intro k hk
          have : ∀ j, wfT D (k + j) = true → wfT D k = true := by
            intro j
            induction j with
            | zero => exact id
            | succ j ih => intro hj; exact ih (by simp only [← Nat.add_assoc, wfT, Bool.and_eq_true] at hj; exact hj.2)
          exact this (N - k) (by rw [Nat.add_sub_cancel' hk]; exact h.2)
        refine dN_congr fun k hk => ?_
        have hr' := hwf (r + 1) (by omega)
        simp only [wfT, Bool.and_eq_true] at hr'
        have h5 := hr'.1
        rw [hn] at h5
        have := ltAll_ok h5 k hk
        rw [if_neg (by omega)]

/-- The looks at a table, for the kernel. -/
noncomputable def tabOk (D : Tr Nd) (base N : Nat) : Bool := freeB D base && wfT D N && Nat.ble D.max N

/-- The table's nodes hold of these words. -/
def SatD (val : Nat → Nat) (D : Tr Nd) : Prop := ∀ r n, D.get r = some n → val r = dN val n
theorem SatD.sat {val : Nat → Nat} {D : Tr Nd} (h : SatD val D) (U : Tr (List Nat)) : Sat val (tabF D U) := fun n r hr => h r n (tabF_ok hr)
theorem tab_val {D : Tr Nd} {base N : Nat} (h : tabOk D base N = true) (inp : Nat → Nat) : ∃ val : Nat → Nat, (∀ i, i < base → val i = inp i) ∧ SatD val D := by
  simp only [tabOk, Bool.and_eq_true] at h
  obtain ⟨v, h1, h2⟩ := exists_val D base inp h.1.1 _ h.1.2
  refine ⟨v, h1, fun r n hd => ?_⟩
  refine h2 r n ?_ hd
  rcases Nat.lt_or_ge r N with h3 | h3
  · exact h3
  · rw [Tr.get_max D r (Nat.le_trans (Nat.le_of_ble_eq_true h.2) h3)] at hd; cases hd

/-- Each name that a node looks at is below 'k' or has a node. -/
noncomputable def inAll (D : Tr Nd) (k : Nat) : List Nat → Bool
  | [] => true
  | r :: l => (Nat.blt r k || !ndNo (D.get r)) && inAll D k l
noncomputable def inNd (D : Tr Nd) (k : Nat) : Option Nd → Bool
  | some m => inAll D k m.refs
  | none => true
noncomputable def closedT (D : Tr Nd) (k : Nat) : Nat → Bool
  | 0 => true
  | n + 1 => inNd D k (D.get n) && closedT D k n
theorem inAll_ok {D : Tr Nd} {k : Nat} : ∀ {l : List Nat}, inAll D k l = true → ∀ r ∈ l, r < k ∨ ∃ n, D.get r = some n
  | [], _, r, h => by cases h
  | x :: l, h, r, hr => by
    simp only [inAll, Bool.and_eq_true, Bool.or_eq_true] at h
    rcases List.mem_cons.1 hr with rfl | hr
    · rcases h.1 with h1 | h1
      · exact .inl (by simpa using h1)
      · right
        cases hd : D.get r with
        | none => rw [hd] at h1; cases h1
        | some n => exact ⟨n, rfl⟩
    · exact inAll_ok h.2 r hr
/-- The words hang on the names below 'k' alone. -/
theorem tab_uniq {D : Tr Nd} {base N k : Nat} (h : tabOk D base N = true) (hc : closedT D k N = true) {val val' : Nat → Nat} (h1 : SatD val D) (h2 : SatD val' D) (he : ∀ i, i < k → val i = val' i) :
    ∀ r n, D.get r = some n → val r = val' r := by
  simp only [tabOk, Bool.and_eq_true] at h
  have hlt : ∀ r n, D.get r = some n → r < N := fun r n hd => by
    rcases Nat.lt_or_ge r N with h3 | h3
    · exact h3
    · rw [Tr.get_max D r (Nat.le_trans (Nat.le_of_ble_eq_true h.2) h3)] at hd; cases hd
  have hwf : ∀ M, M ≤ N → wfT D M = true ∧ closedT D k M = true := by
    intro M hM
    have : ∀ j, wfT D (M + j) = true → closedT D k (M + j) = true → wfT D M = true ∧ closedT D k M = true := by
      intro j
      induction j with
      | zero => exact fun a b => ⟨a, b⟩
      | succ j ih => intro a b; exact ih (by simp only [← Nat.add_assoc, wfT, Bool.and_eq_true] at a; exact a.2) (by simp only [← Nat.add_assoc, closedT, Bool.and_eq_true] at b; exact b.2)
    exact this (N - M) (by rw [Nat.add_sub_cancel' hM]; exact h.1.2) (by rw [Nat.add_sub_cancel' hM]; exact hc)
  intro r
  induction r using Nat.strongRecOn with
  | _ r ih =>
    intro n hd
    have hr := hlt r n hd
    obtain ⟨a, b⟩ := hwf (r + 1) hr
    simp only [wfT, closedT, Bool.and_eq_true] at a b
    rw [h1 r n hd, h2 r n hd]
    refine dN_congr fun j hj => ?_
    have aj := a.1
    have bj := b.1
    rw [hd] at aj bj
    have hjr := ltAll_ok aj j hj
    rcases inAll_ok bj j hj with h3 | ⟨m, h3⟩
    · exact he j h3
    · exact ih j hjr m h3
end Go.SX
