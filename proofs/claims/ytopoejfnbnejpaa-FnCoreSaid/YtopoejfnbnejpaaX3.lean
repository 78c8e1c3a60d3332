/- The executor's forms of words mean what they should. -/
import Derived.Test.YtopoejfnbnejpaaX2
namespace Go.SX

section
variable (val : Nat → Nat)
def dBA : BA → Nat
  | .lit n => n % 256
  | .sub r i => val r / 256 ^ i % 256
def dBs : List BA → Nat
  | [] => 0
  | a :: l => dBA val a + 256 * dBs l
def dSum : List Nat → Nat
  | [] => 0
  | r :: l => val r + dSum l
def dW (b : Nat) : WX → Nat
  | .at r => val r % 2 ^ b
  | .pk l => dBs val l % 2 ^ b
  | .sum l c => (dSum val l + c) % 2 ^ b
  | .shl r n => val r * 2 ^ n % 2 ^ b
  | .shr r n => val r % 2 ^ b / 2 ^ n
def dN : Nd → Nat
  | .wx b x => dW val b x
  | .xor a b => val a ^^^ val b
  | .xorc a c => val a ^^^ c
  | .rot b a n => (val a * 2 ^ n % 2 ^ b) ||| (val a % 2 ^ b / 2 ^ (b - n))
end

/-- What the table says of the names holds of these words. -/
def Sat (val : Nat → Nat) (F : Nd → Option Nat) : Prop := ∀ n r, F n = some r → val r = dN val n

section
variable {val : Nat → Nat} {F : Nd → Option Nat}

theorem dBA_lt (a : BA) : dBA val a < 256 := by cases a <;> simp only [dBA] <;> exact Nat.mod_lt _ (by decide)
theorem dBs_lt : ∀ l : List BA, dBs val l < 256 ^ l.length
  | [] => by simp [dBs]
  | a :: l => by
    have h1 := dBA_lt (val := val) a
    have h2 := dBs_lt l
    simp only [dBs, List.length_cons, Nat.pow_succ]
    omega
theorem dW_lt (b : Nat) (x : WX) : dW val b x < 2 ^ b := by
  have hp : 0 < 2 ^ b := Nat.pos_of_ne_zero (by simp)
  cases x <;> simp only [dW] <;> first
    | exact Nat.mod_lt _ hp
    | exact Nat.lt_of_le_of_lt (Nat.div_le_self _ _) (Nat.mod_lt _ hp)

theorem pow256 (n : Nat) : 256 ^ n = 2 ^ (n * 8) := by rw [show (256 : Nat) = 2 ^ 8 from rfl, ← Nat.pow_mul, Nat.mul_comm]

theorem dBs_append : ∀ l m : List BA, dBs val (l ++ m) = dBs val l + 256 ^ l.length * dBs val m
  | [], m => by simp [dBs]
  | a :: l, m => by
    simp only [List.cons_append, dBs, dBs_append l m, List.length_cons, Nat.pow_succ]
    rw [Nat.mul_add, ← Nat.mul_assoc, Nat.mul_comm 256 (256 ^ l.length)]
    omega
theorem dBs_zeros : ∀ n, dBs val (litBytes 0 n) = 0
  | 0 => rfl
  | n + 1 => by simp [litBytes, dBs, dBA, dBs_zeros n]
theorem length_litBytes : ∀ n x, (litBytes x n).length = n
  | 0, _ => rfl
  | n + 1, x => by simp [litBytes, length_litBytes n]

theorem eqSeq_ok (r : Nat) : ∀ (l : List BA) (i : Nat), eqSeq r i l = true → dBs val l = val r / 256 ^ i % 256 ^ l.length
  | [], i, _ => by simp [dBs, Nat.mod_one]
  | .lit n :: l, i, h => by simp [eqSeq] at h
  | .sub r' i' :: l, i, h => by
    simp only [eqSeq, Bool.and_eq_true, beq_dec, decide_eq_true_eq] at h
    obtain ⟨⟨rfl, rfl⟩, h⟩ := h
    have ih := eqSeq_ok r l (i + 1) h
    simp only [dBs, dBA, ih, List.length_cons]
    rw [Nat.pow_succ 256 i, ← Nat.div_div_eq_div_mul]
    generalize val r / 256 ^ i = y
    rw [Nat.pow_succ, Nat.mul_comm (256 ^ l.length) 256, Nat.mod_mul]

theorem mod_pow_mod {x a b : Nat} (h : a ≤ b) : x % 2 ^ b % 2 ^ a = x % 2 ^ a := Nat.mod_mod_of_dvd _ (Nat.pow_dvd_pow 2 h)
theorem mod_pow_mod' {x a b : Nat} (h : a ≤ b) : x % 2 ^ a % 2 ^ b = x % 2 ^ a :=
  Nat.mod_eq_of_lt (Nat.lt_of_lt_of_le (Nat.mod_lt _ (Nat.pos_of_ne_zero (by simp))) (Nat.pow_le_pow_right (by decide) h))

theorem nameOf_ok (hS : Sat val F) {b : Nat} {x : WX} {r : Nat} (h : nameOf F b x = some r) : val r % 2 ^ b = dW val b x := by
  have key : ∀ y, F (.wx b y) = some r → val r % 2 ^ b = dW val b y := fun y hy => by
    rw [hS _ _ hy]; exact Nat.mod_eq_of_lt (dW_lt b y)
  unfold nameOf at h
  split at h
  · injection h with h; subst h; rfl
  · rename_i r' l'
    cases hc : (Nat.beq (l'.length * 8 + 8) b && eqSeq r' 1 l') with
    | false => rw [hc] at h; exact key _ h
    | true =>
      rw [hc] at h
      injection h with h; subst h
      simp only [Bool.and_eq_true, beq_dec, decide_eq_true_eq] at hc
      obtain ⟨h1, h2⟩ := hc
      have := eqSeq_ok (val := val) r' (.sub r' 0 :: l') 0 (by simp [eqSeq, beq_dec, h2])
      simp only [dW, this, Nat.pow_zero, Nat.div_one, List.length_cons, pow256]
      rw [show (l'.length + 1) * 8 = b by omega, Nat.mod_mod]
  · injection h with h; subst h; simp [dW, dSum]
  · exact key _ h

theorem div_mod_pow {x i b : Nat} (h : i * 8 + 8 ≤ b) : x % 2 ^ b / 256 ^ i % 256 = x / 256 ^ i % 256 := by
  rw [pow256, show (256 : Nat) = 2 ^ 8 from rfl, show b = i * 8 + (b - i * 8) by omega, Nat.pow_add, Nat.mod_mul_right_div_self]
  exact mod_pow_mod (by omega)

theorem dBs_get : ∀ (l : List BA) (i : Nat) (a : BA), l[i]? = some a → dBs val l / 256 ^ i % 256 = dBA val a
  | [], i, a, h => by simp at h
  | x :: l, 0, a, h => by
    simp at h; subst h
    have := dBA_lt (val := val) x
    simp only [dBs, Nat.pow_zero, Nat.div_one]; omega
  | x :: l, i + 1, a, h => by
    have ih := dBs_get l i a (by simpa using h)
    have := dBA_lt (val := val) x
    rw [Nat.pow_succ, Nat.mul_comm, ← Nat.div_div_eq_div_mul]
    simp only [dBs]
    rw [show (dBA val x + 256 * dBs val l) / 256 = dBs val l by omega, ih]

theorem byteOf_ok (hS : Sat val F) {b : Nat} {x : WX} {i : Nat} {a : BA} (h : byteOf F b x i = some a) (hi : i * 8 + 8 ≤ b) :
    dBA val a = dW val b x / 256 ^ i % 256 := by
  unfold byteOf at h
  split at h
  · rename_i l
    rw [dW, div_mod_pow hi, dBs_get l i a h]
  · cases hn : nameOf F b x with
    | none => rw [hn] at h; cases h
    | some r =>
      rw [hn] at h
      injection h with h; subst h
      rw [← nameOf_ok hS hn, div_mod_pow hi, dBA]

theorem bytesOf_ok (hS : Sat val F) {b : Nat} {x : WX} : ∀ (n i : Nat) (l : List BA), bytesOf F b x i n = some l → (i + n) * 8 ≤ b →
    l.length = n ∧ dBs val l = dW val b x / 256 ^ i % 256 ^ n
  | 0, i, l, h, _ => by simp [bytesOf] at h; subst h; simp [dBs, Nat.mod_one]
  | n + 1, i, l, h, hb => by
    unfold bytesOf at h
    split at h
    · rename_i a l' ha hl
      injection h with h; subst h
      obtain ⟨e1, e2⟩ := bytesOf_ok hS n (i + 1) l' hl (by omega)
      have e3 := byteOf_ok hS ha (by omega)
      refine ⟨by simp [e1], ?_⟩
      simp only [dBs, e2, e3]
      rw [Nat.pow_succ 256 i, ← Nat.div_div_eq_div_mul]
      generalize dW val b x / 256 ^ i = y
      rw [Nat.pow_succ, Nat.mul_comm (256 ^ n) 256, Nat.mod_mul]
    · cases h

theorem dSum_append : ∀ l m : List Nat, dSum val (l ++ m) = dSum val l + dSum val m
  | [], m => by simp [dSum]
  | a :: l, m => by simp [dSum, dSum_append l m]; omega
theorem dSum_merge : ∀ (f : Nat) (l m : List Nat), dSum val (merge f l m) = dSum val l + dSum val m
  | 0, l, m => by simp [merge, dSum_append]
  | f + 1, [], m => by simp [merge, dSum]
  | f + 1, a :: l, [] => by simp [merge, dSum]
  | f + 1, a :: l, b :: m => by
    simp only [merge]
    cases hc : Nat.ble a b
    · simp only [cond_false, dSum, dSum_merge f (a :: l) m]; omega
    · simp only [cond_true, dSum, dSum_merge f l (b :: m)]; omega

theorem terms_ok (hS : Sat val F) {b : Nat} {x : WX} {l : List Nat} {c : Nat} (h : terms F b x = some (l, c)) : (dSum val l + c) % 2 ^ b = dW val b x := by
  unfold terms at h
  split at h
  · simp at h; obtain ⟨rfl, rfl⟩ := h; rfl
  · cases hn : nameOf F b x with
    | none => rw [hn] at h; cases h
    | some r =>
      rw [hn] at h
      simp [oneT] at h; obtain ⟨rfl, rfl⟩ := h
      simp [dSum, nameOf_ok hS hn]

theorem add2_ok {b : Nat} {l m : List Nat} {c d : Nat} {z : WX} (h : add2 b (some (l, c)) (some (m, d)) = some z) :
    dW val b z = ((dSum val l + c) % 2 ^ b + (dSum val m + d) % 2 ^ b) % 2 ^ b := by
  simp only [add2, Option.some.injEq] at h; subst h
  simp only [dW, dSum_merge]
  rw [Nat.add_mod, Nat.mod_mod, ← Nat.add_mod, ← Nat.add_mod]
  congr 1; omega
theorem addW_ok (hS : Sat val F) {b : Nat} {x y z : WX} (h : addW F b x y = some z) : dW val b z = (dW val b x + dW val b y) % 2 ^ b := by
  unfold addW at h
  cases hx : terms F b x with
  | none => rw [hx] at h; cases h
  | some p => cases hy : terms F b y with
    | none => rw [hx, hy] at h; cases h
    | some q =>
      rw [hx, hy] at h
      rw [add2_ok h, terms_ok hS hx, terms_ok hS hy]
theorem addC_ok (hS : Sat val F) {b : Nat} {x z : WX} {n : Nat} (h : addC F b x n = some z) : dW val b z = (dW val b x + n) % 2 ^ b := by
  unfold addC at h
  cases hx : terms F b x with
  | none => rw [hx] at h; cases h
  | some p =>
    rw [hx] at h
    rw [add2_ok h, terms_ok hS hx]
    simp [dSum]

theorem atO_ok {o : Option Nat} {z : WX} (h : atO o = some z) : ∃ r, o = some r ∧ z = .at r := by
  cases o <;> simp [atO] at h; exact ⟨_, rfl, h.symm⟩
theorem xorW_ok (hS : Sat val F) {b : Nat} {x y z : WX} (h : xorW F b x y = some z) : dW val b z = dW val b x ^^^ dW val b y := by
  unfold xorW at h
  cases hx : nameOf F b x with
  | none => rw [hx] at h; cases h
  | some p => cases hy : nameOf F b y with
    | none => rw [hx, hy] at h; cases h
    | some q =>
      rw [hx, hy] at h
      obtain ⟨r, hr, rfl⟩ := atO_ok h
      rw [dW, ← nameOf_ok hS hx, ← nameOf_ok hS hy, ← Nat.xor_mod_two_pow]
      congr 1
      cases hc : Nat.ble p q
      · rw [hc] at hr; rw [hS _ _ hr]; exact Nat.xor_comm _ _
      · rw [hc] at hr; rw [hS _ _ hr]; rfl
theorem xorC_ok (hS : Sat val F) {b : Nat} {x z : WX} {n : Nat} (hn : n < 2 ^ b) (h : xorC F b x n = some z) : dW val b z = dW val b x ^^^ n := by
  unfold xorC at h
  cases hz : Nat.beq n 0 with
  | true =>
    rw [hz] at h
    simp only [beq_dec, decide_eq_true_eq] at hz
    subst hz
    injection h with h; subst h; simp
  | false =>
    rw [hz] at h
    cases hx : nameOf F b x with
    | none => rw [hx] at h; cases h
    | some p =>
      rw [hx] at h
      obtain ⟨r, hr, rfl⟩ := atO_ok h
      rw [dW, ← nameOf_ok hS hx, hS _ _ hr, dN, Nat.xor_mod_two_pow, Nat.mod_eq_of_lt hn]

theorem pkO_ok {l m : List BA} {o : Option (List BA)} {z : WX} (h : pkO l m o = some z) : ∃ k, o = some k ∧ z = .pk (l ++ k ++ m) := by
  cases o <;> simp [pkO] at h; exact ⟨_, rfl, by simpa using h.symm⟩

theorem shlW_ok (hS : Sat val F) {b : Nat} (h8 : b % 8 = 0) {x z : WX} {n : Nat} (h : shlW F b x n = some z) : dW val b z = dW val b x * 2 ^ n % 2 ^ b := by
  unfold shlW at h
  have hlt := dW_lt (val := val) b x
  by_cases h0 : n = 0
  · subst h0
    simp only [Nat.beq_refl, cond_true, Option.some.injEq] at h; subst h
    simp [Nat.mod_eq_of_lt hlt]
  rw [show Nat.beq n 0 = false by simp [beq_dec, h0], cond_false] at h
  by_cases h1 : b ≤ n
  · rw [show Nat.ble b n = true by simp [ble_dec, h1], cond_true] at h
    injection h with h; subst h
    rw [show dW val b (.pk (litBytes 0 (b / 8))) = 0 by simp [dW, dBs_zeros]]
    rw [show n = b + (n - b) by omega, Nat.pow_add, ← Nat.mul_assoc, Nat.mul_comm (dW val b x), Nat.mul_assoc, Nat.mul_mod_right]
  rw [show Nat.ble b n = false by simp [ble_dec, h1], cond_false] at h
  by_cases h2 : n % 8 = 0
  · rw [show Nat.beq (n % 8) 0 = true by simp [beq_dec, h2], cond_true] at h
    obtain ⟨k, hk, rfl⟩ := pkO_ok h
    obtain ⟨e1, e2⟩ := bytesOf_ok hS _ _ _ hk (by omega)
    simp only [List.append_nil, dW, dBs_append, dBs_zeros, length_litBytes, e2, Nat.pow_zero, Nat.div_one, Nat.zero_add, pow256]
    rw [show n / 8 * 8 = n by omega, show (b / 8 - n / 8) * 8 = b - n by omega]
    rw [Nat.mul_comm, ← Nat.mul_mod_mul_right, ← Nat.pow_add, show b - n + n = b by omega, Nat.mod_mod]
  · rw [show Nat.beq (n % 8) 0 = false by simp [beq_dec, h2], cond_false] at h
    cases hx : nameOf F b x with
    | none => rw [hx] at h; cases h
    | some r =>
      rw [hx] at h
      simp only [shlO, Option.some.injEq] at h; subst h
      rw [dW, ← nameOf_ok hS hx, Nat.mod_mul_mod]

theorem shrW_ok (hS : Sat val F) {b : Nat} (h8 : b % 8 = 0) {x z : WX} {n : Nat} (h : shrW F b x n = some z) : dW val b z = dW val b x / 2 ^ n := by
  unfold shrW at h
  have hlt := dW_lt (val := val) b x
  by_cases h0 : n = 0
  · subst h0
    simp only [Nat.beq_refl, cond_true, Option.some.injEq] at h; subst h
    simp
  rw [show Nat.beq n 0 = false by simp [beq_dec, h0], cond_false] at h
  by_cases h1 : b ≤ n
  · rw [show Nat.ble b n = true by simp [ble_dec, h1], cond_true] at h
    injection h with h; subst h
    rw [show dW val b (.pk (litBytes 0 (b / 8))) = 0 by simp [dW, dBs_zeros]]
    rw [Nat.div_eq_of_lt]
    exact Nat.lt_of_lt_of_le hlt (Nat.pow_le_pow_right (by decide) h1)
  rw [show Nat.ble b n = false by simp [ble_dec, h1], cond_false] at h
  by_cases h2 : n % 8 = 0
  · rw [show Nat.beq (n % 8) 0 = true by simp [beq_dec, h2], cond_true] at h
    obtain ⟨k, hk, rfl⟩ := pkO_ok h
    obtain ⟨e1, e2⟩ := bytesOf_ok hS _ _ _ hk (by omega)
    simp only [List.nil_append, dW, dBs_append, dBs_zeros, Nat.mul_zero, Nat.add_zero, e2, pow256]
    rw [show n / 8 * 8 = n by omega, show (b / 8 - n / 8) * 8 = b - n by omega, mod_pow_mod' (by omega)]
    apply Nat.mod_eq_of_lt
    rw [Nat.div_lt_iff_lt_mul (Nat.pos_of_ne_zero (by simp)), ← Nat.pow_add, show b - n + n = b by omega]
    exact hlt
  · rw [show Nat.beq (n % 8) 0 = false by simp [beq_dec, h2], cond_false] at h
    cases hx : nameOf F b x with
    | none => rw [hx] at h; cases h
    | some r =>
      rw [hx] at h
      simp only [shrO, Option.some.injEq] at h; subst h
      rw [dW, ← nameOf_ok hS hx]

theorem or_cons {a b x y : Nat} (ha : a < 256) (hb : b < 256) : (a + 256 * x) ||| (b + 256 * y) = (a ||| b) + 256 * (x ||| y) := by
  have h1 : a + 256 * x = x <<< 8 ||| a := by rw [Nat.shiftLeft_eq, Nat.add_comm, Nat.mul_comm, Nat.mul_comm x, ← Nat.two_pow_add_eq_or_of_lt (i := 8) ha x, Nat.mul_comm]
  have h2 : b + 256 * y = y <<< 8 ||| b := by rw [Nat.shiftLeft_eq, Nat.add_comm, Nat.mul_comm, Nat.mul_comm y, ← Nat.two_pow_add_eq_or_of_lt (i := 8) hb y, Nat.mul_comm]
  have hab : a ||| b < 2 ^ 8 := Nat.or_lt_two_pow ha hb
  have h3 : (a ||| b) + 256 * (x ||| y) = (x ||| y) <<< 8 ||| (a ||| b) := by rw [Nat.shiftLeft_eq, Nat.add_comm, Nat.mul_comm, Nat.mul_comm (x ||| y), ← Nat.two_pow_add_eq_or_of_lt (i := 8) hab (x ||| y), Nat.mul_comm]
  rw [h1, h2, h3, Nat.shiftLeft_or_distrib]
  ac_rfl
theorem orBytes_ok : ∀ {l m k : List BA}, orBytes l m = some k → k.length = l.length ∧ l.length = m.length ∧ dBs val k = dBs val l ||| dBs val m
  | [], [], k, h => by simp [orBytes] at h; subst h; simp [dBs]
  | [], y :: m, k, h => by simp [orBytes] at h
  | x :: l, [], k, h => by
    cases x with
    | lit n => cases n <;> simp [orBytes] at h
    | sub r i => simp [orBytes] at h
  | x :: l, y :: m, k, h => by
    have hx := dBA_lt (val := val) x
    have hy := dBA_lt (val := val) y
    have go : ∀ z, consO z (orBytes l m) = some k → dBA val z = dBA val x ||| dBA val y → k.length = (x :: l).length ∧ (x :: l).length = (y :: m).length ∧ dBs val k = dBs val (x :: l) ||| dBs val (y :: m) := by
      intro z hz he
      cases hq : orBytes l m with
      | none => rw [hq] at hz; cases hz
      | some q =>
        rw [hq] at hz
        injection hz with hz; subst hz
        obtain ⟨e1, e2, e3⟩ := orBytes_ok hq
        refine ⟨by simp [e1], by simp [e2], ?_⟩
        simp only [dBs]
        rw [or_cons hx hy, he, e3]
    by_cases h0 : x = .lit 0
    · subst h0
      simp only [orBytes] at h
      exact go y h (by simp [dBA])
    · by_cases h1 : y = .lit 0
      · subst h1
        have : orBytes (x :: l) (.lit 0 :: m) = consO x (orBytes l m) := by
          cases x with
          | lit n => cases n with
            | zero => exact absurd rfl h0
            | succ n => rfl
          | sub r i => rfl
        rw [this] at h
        exact go x h (by simp [dBA])
      · have : orBytes (x :: l) (y :: m) = none := by
          cases x with
          | lit n => cases n with
            | zero => exact absurd rfl h0
            | succ n => cases y with
              | lit k => cases k with
                | zero => exact absurd rfl h1
                | succ k => rfl
              | sub r i => rfl
          | sub r i => cases y with
            | lit k => cases k with
              | zero => exact absurd rfl h1
              | succ k => rfl
            | sub r' i' => rfl
        rw [this] at h; cases h

theorem or2_ok {b : Nat} {o p : Option (List BA)} {z : WX} (h : or2 o p = some z) : ∃ l m, o = some l ∧ p = some m ∧ dW val b z = dBs val l % 2 ^ b ||| dBs val m % 2 ^ b := by
  cases o with
  | none => cases h
  | some l => cases p with
    | none => cases h
    | some m =>
      obtain ⟨k, hk, rfl⟩ := pkO_ok h
      obtain ⟨_, _, e3⟩ := orBytes_ok (val := val) hk
      refine ⟨l, m, rfl, rfl, ?_⟩
      simp only [List.nil_append, List.append_nil, dW, e3, Nat.or_mod_two_pow]

theorem orW_ok (hS : Sat val F) {b : Nat} (h8 : b % 8 = 0) {x y z : WX} (h : orW F b x y = some z) : dW val b z = dW val b x ||| dW val b y := by
  have bytes : ∀ x m, bytesOf F b x 0 (b / 8) = some m → dBs val m % 2 ^ b = dW val b x := fun x m hm => by
    obtain ⟨_, e⟩ := bytesOf_ok hS _ _ _ hm (by omega)
    rw [e, Nat.pow_zero, Nat.div_one, pow256, show b / 8 * 8 = b by omega, Nat.mod_mod, Nat.mod_eq_of_lt (dW_lt b x)]
  unfold orW at h
  split at h
  · rename_i r n s m
    cases hc : (Nat.beq r s && Nat.beq (n + m) b) with
    | false => rw [hc] at h; cases h
    | true =>
      rw [hc] at h
      simp only [Bool.and_eq_true, beq_dec, decide_eq_true_eq] at hc
      obtain ⟨rfl, hb⟩ := hc
      obtain ⟨t, ht, rfl⟩ := atO_ok h
      have hv := hS _ _ ht
      have hb' : b - n = m := by omega
      have hd : dN val (.rot b r n) = dW val b (.shl r n) ||| dW val b (.shr r m) := by simp only [dN, dW, hb']
      rw [← hd, ← hv]
      simp only [dW]
      apply Nat.mod_eq_of_lt
      rw [hv, hd]
      exact Nat.or_lt_two_pow (dW_lt b _) (dW_lt b _)
  · obtain ⟨l, m, e1, e2, e3⟩ := or2_ok (val := val) (b := b) h
    injection e1 with e1; subst e1
    rw [e3, bytes _ _ e2]; rfl
  · obtain ⟨l, m, e1, e2, e3⟩ := or2_ok (val := val) (b := b) h
    injection e2 with e2; subst e2
    rw [e3, bytes _ _ e1]; rfl
  · cases h

theorem pow_dvd_of {a b : Nat} (h : a ≤ b) : 2 ^ a ∣ 2 ^ b := Nat.pow_dvd_pow 2 h

theorem convW_ok (hS : Sat val F) {k k' : IntKind} {x z : WX} (h : convW F k k' x = some z) : dW val k'.bits z = dW val k.bits x % 2 ^ k'.bits := by
  have h8 : k.bits % 8 = 0 := by cases k <;> rfl
  have h8' : k'.bits % 8 = 0 := by cases k' <;> rfl
  unfold convW at h
  by_cases hb : k.bits = k'.bits
  · rw [show Nat.beq k.bits k'.bits = true by simp [beq_dec, hb], cond_true] at h
    injection h with h; subst h
    rw [hb, Nat.mod_eq_of_lt (dW_lt _ _)]
  · rw [show Nat.beq k.bits k'.bits = false by simp [beq_dec, hb], cond_false] at h
    obtain ⟨l, hl, rfl⟩ := pkO_ok h
    have hmin : min (k.bits / 8) (k'.bits / 8) * 8 ≤ k.bits := by have := Nat.min_le_left (k.bits / 8) (k'.bits / 8); omega
    obtain ⟨e1, e2⟩ := bytesOf_ok hS _ _ _ hl (by simpa using hmin)
    rw [show ∀ l, dW val k'.bits (.pk l) = dBs val l % 2 ^ k'.bits from fun _ => rfl]
    simp only [List.nil_append, dBs_append, dBs_zeros, Nat.mul_zero, Nat.add_zero, e2, Nat.pow_zero, Nat.div_one, pow256]
    rcases Nat.le_total k.bits k'.bits with hle | hle
    · rw [show min (k.bits / 8) (k'.bits / 8) * 8 = k.bits by rw [Nat.min_eq_left (by omega)]; omega, mod_pow_mod' hle, Nat.mod_eq_of_lt (dW_lt _ _)]
      exact (Nat.mod_eq_of_lt (Nat.lt_of_lt_of_le (dW_lt _ _) (Nat.pow_le_pow_right (by decide) hle))).symm
    · rw [show min (k.bits / 8) (k'.bits / 8) * 8 = k'.bits by rw [Nat.min_eq_right (by omega)]; omega, Nat.mod_mod]
end
end Go.SX
