/- Each operation of the executor does what the model's does: integers. -/
import Derived.Lib.SliceRun
import Derived.Test.YtopoejfnbnejpaaX5b
namespace Go.SX
variable {val : Nat → Nat} {P : Program} {F : Nd → Option Nat}

theorem bits_pos (k : IntKind) : 0 < 2 ^ k.bits := Nat.pos_of_ne_zero (by simp)
theorem wrap_uns {k : IntKind} (hk : uns k = true) (n : Nat) : k.wrap (n : Int) = ((n % 2 ^ k.bits : Nat) : Int) := by
  cases k <;> simp [uns] at hk <;> simp [IntKind.wrap, IntKind.bits, IntKind.signed]
theorem ofInt_nat (b n : Nat) (h : n < 2 ^ b) : (BitVec.ofInt b (n : Int)).toNat = n := by
  rw [BitVec.toNat_ofInt]; 
  have : ((n : Int) % ((2 ^ b : Nat) : Int)).toNat = n % 2 ^ b := by rw [← Int.natCast_emod]; rfl
  rw [this, Nat.mod_eq_of_lt h]

theorem litOp_ok {op : BinOp} {k : IntKind} {a b : Int} {s : SC} (hsh : isShift op = false) (h : litOp op k a b = some s) (t : TypeId) (w : World) (η : Env) :
    ∃ v, (binOp op t (.int k a) (.int k b)).run P w = .ok v w ∧ dS val η s = some v := by
  cases op <;> simp [isShift] at hsh <;> simp only [litOp] at h
  case quo =>
    cases hb : (b == 0) with
    | true => rw [hb] at h; cases h
    | false =>
      rw [hb] at h; injection h with h; subst h
      have : b ≠ 0 := by simpa using hb
      exact ⟨_, by simp [binOp, Op.intDiv, this], rfl⟩
  case rem =>
    cases hb : (b == 0) with
    | true => rw [hb] at h; cases h
    | false =>
      rw [hb] at h; injection h with h; subst h
      have : b ≠ 0 := by simpa using hb
      exact ⟨_, by simp [binOp, Op.intDiv, this], rfl⟩
  case and => exact ⟨_, by simp only [binOp, ne_eq, not_true_eq_false, if_false]; rfl, by rw [← Option.some.inj h]; rfl⟩
  case or => exact ⟨_, by simp only [binOp, ne_eq, not_true_eq_false, if_false]; rfl, by rw [← Option.some.inj h]; rfl⟩
  case xor => exact ⟨_, by simp only [binOp, ne_eq, not_true_eq_false, if_false]; rfl, by rw [← Option.some.inj h]; rfl⟩
  case andNot => exact ⟨_, by simp only [binOp, ne_eq, not_true_eq_false, if_false]; rfl, by rw [← Option.some.inj h]; rfl⟩
  all_goals (injection h with h; subst h; exact ⟨_, by simp [binOp, Op.intArith, Op.intCmp], rfl⟩)

theorem symOp_ok (hS : Sat val F) {op : BinOp} {k : IntKind} (hk : uns k = true) {x y z : WX} (hsh : isShift op = false) (h : symOp F op k.bits x y = some z) (t : TypeId) (w : World) :
    (binOp op t (.int k (dW val k.bits x : Nat)) (.int k (dW val k.bits y : Nat))).run P w = .ok (.int k (dW val k.bits z : Nat)) w := by
  have h8 : k.bits % 8 = 0 := by cases k <;> rfl
  have hx := dW_lt (val := val) k.bits x
  have hy := dW_lt (val := val) k.bits y
  cases op <;> simp [symOp] at h
  case add =>
    rw [addW_ok hS h]
    simp only [binOp, Op.intArith]
    simp only [ne_eq, not_true_eq_false, if_false, Sem.run_pure]
    rw [← Int.natCast_add, wrap_uns hk]
  case xor =>
    rw [xorW_ok hS h]
    simp only [binOp, Op.intBits]
    simp only [ne_eq, not_true_eq_false, if_false, Sem.run_pure, BitVec.toNat_xor, ofInt_nat _ _ hx, ofInt_nat _ _ hy]
    rw [wrap_uns hk, Nat.mod_eq_of_lt (Nat.xor_lt_two_pow hx hy)]
  case or =>
    rw [orW_ok hS h8 h]
    simp only [binOp, Op.intBits]
    simp only [ne_eq, not_true_eq_false, if_false, Sem.run_pure, BitVec.toNat_or, ofInt_nat _ _ hx, ofInt_nat _ _ hy]
    rw [wrap_uns hk, Nat.mod_eq_of_lt (Nat.or_lt_two_pow hx hy)]

theorem symLit_ok (hS : Sat val F) {op : BinOp} {k : IntKind} (hk : uns k = true) {x z : WX} {n : Nat} (hn : n < 2 ^ k.bits) (h : symLit F op k.bits x n = some z) (t : TypeId) (w : World) :
    (binOp op t (.int k (dW val k.bits x : Nat)) (.int k (n : Int))).run P w = .ok (.int k (dW val k.bits z : Nat)) w ∧
    (binOp op t (.int k (n : Int)) (.int k (dW val k.bits x : Nat))).run P w = .ok (.int k (dW val k.bits z : Nat)) w := by
  have hx := dW_lt (val := val) k.bits x
  cases op <;> simp [symLit] at h
  case add =>
    rw [addC_ok hS h]
    constructor <;> (simp only [binOp, Op.intArith]; simp only [ne_eq, not_true_eq_false, if_false, Sem.run_pure]; rw [← Int.natCast_add, wrap_uns hk])
    rw [Nat.add_comm]
  case xor =>
    rw [xorC_ok hS hn h]
    constructor <;> (simp only [binOp, Op.intBits]; simp only [ne_eq, not_true_eq_false, if_false, Sem.run_pure, BitVec.toNat_xor, ofInt_nat _ _ hx, ofInt_nat _ _ hn]; rw [wrap_uns hk, Nat.mod_eq_of_lt])
    · exact Nat.xor_lt_two_pow hx hn
    · rw [Nat.xor_comm]
    · exact Nat.xor_lt_two_pow hn hx
  case or =>
    obtain ⟨rfl, rfl⟩ : n = 0 ∧ z = x := by
      cases hb : Nat.beq n 0 with
      | false => rw [hb] at h; cases h
      | true => rw [hb] at h; simp only [cond_true, Option.some.injEq] at h; exact ⟨by simpa [beq_dec] using hb, h.symm⟩
    have h0 := ofInt_nat k.bits 0 hn
    constructor <;> (simp only [binOp, Op.intBits]; simp only [ne_eq, not_true_eq_false, if_false, Sem.run_pure, BitVec.toNat_or, ofInt_nat _ _ hx, h0, Nat.or_zero, Nat.zero_or]; rw [wrap_uns hk, Nat.mod_eq_of_lt hx])

theorem shB_ok (hS : Sat val F) {op : BinOp} (hop : isShift op = true) {x y s : SC} {η : Env} {u v : Value} (hx : dS val η x = some u) (hy : dS val η y = some v) (h : shB F op x y = some s) (t : TypeId) (w : World) :
    ∃ z, (binOp op t u v).run P w = .ok z w ∧ dS val η s = some z := by
  cases y <;> simp only [shB] at h
  case int yk b =>
    simp only [dS, Option.some.injEq] at hy; subst hy
    cases hb : decide (b < 0) with
    | true => rw [hb] at h; cases h
    | false =>
      rw [hb] at h
      have hb' : ¬ b < 0 := by simpa using hb
      simp only [cond_false] at h
      cases x <;> simp only [shX] at h
      case int k a =>
        simp only [dS, Option.some.injEq] at hx; subst hx
        cases op <;> simp [isShift] at hop
        · injection h with h; subst h
          exact ⟨_, by simp [binOp, Op.shift, hb'], rfl⟩
        · injection h with h; subst h
          exact ⟨_, by simp [binOp, Op.shift, hb'], rfl⟩
      case sym k x =>
        simp only [dS, Option.some.injEq] at hx; subst hx
        have h8 : k.bits % 8 = 0 := by cases k <;> rfl
        have hlt := dW_lt (val := val) k.bits x
        cases hk : uns k with
        | false => rw [hk] at h; cases h
        | true =>
          rw [hk] at h
          simp only [cond_true] at h
          cases op <;> simp [isShift] at hop
          · simp only at h
            cases hz : shlW F k.bits x b.toNat with
            | none => rw [hz] at h; cases h
            | some z =>
              rw [hz] at h; injection h with h; subst h
              refine ⟨_, ?_, rfl⟩
              simp only [binOp, Op.shift, if_neg hb', Sem.run_pure]
              rw [shlW_ok hS h8 hz]
              congr 2
              have hcast : ((dW val k.bits x : Nat) : Int) * 2 ^ (min b.toNat k.bits) = ((dW val k.bits x * 2 ^ (min b.toNat k.bits) : Nat) : Int) := by simp
              rw [hcast, wrap_uns hk]
              congr 1
              rcases Nat.le_total b.toNat k.bits with hle | hle
              · rw [Nat.min_eq_left hle]
              · rw [Nat.min_eq_right hle, Nat.mul_mod_left]
                rw [show b.toNat = k.bits + (b.toNat - k.bits) by omega, Nat.pow_add, ← Nat.mul_assoc, Nat.mul_comm (dW val k.bits x), Nat.mul_assoc, Nat.mul_mod_right]
          · simp only at h
            cases hz : shrW F k.bits x b.toNat with
            | none => rw [hz] at h; cases h
            | some z =>
              rw [hz] at h; injection h with h; subst h
              refine ⟨_, ?_, rfl⟩
              simp only [binOp, Op.shift, if_neg hb', Sem.run_pure]
              rw [shrW_ok hS h8 hz]
              congr 2
              have hcast : (2 : Int) ^ (min b.toNat k.bits) = ((2 ^ (min b.toNat k.bits) : Nat) : Int) := by simp
              rw [hcast, Int.fdiv_eq_ediv_of_nonneg _ (Int.natCast_nonneg _), ← Int.natCast_ediv]
              congr 1
              rcases Nat.le_total b.toNat k.bits with hle | hle
              · rw [Nat.min_eq_left hle]
              · rw [Nat.min_eq_right hle, Nat.div_eq_of_lt hlt, Nat.div_eq_of_lt (Nat.lt_of_lt_of_le hlt (Nat.pow_le_pow_right (by decide) hle))]
      all_goals cases h
  all_goals cases h

theorem inK_ok {k : IntKind} {n : Int} (h : inK k n = true) : n = ((n.toNat : Nat) : Int) ∧ n.toNat < 2 ^ k.bits := by
  simp only [inK, Bool.and_eq_true, decide_eq_true_eq] at h
  have e : n = ((n.toNat : Nat) : Int) := by omega
  refine ⟨e, ?_⟩
  have := h.2
  rw [e] at this
  exact_mod_cast this

theorem arB_ok (hS : Sat val F) {op : BinOp} (hop : isShift op = false) {x y s : SC} {η : Env} {u v : Value} (hx : dS val η x = some u) (hy : dS val η y = some v) (h : arB F op x y = some s) (t : TypeId) (w : World) :
    ∃ z, (binOp op t u v).run P w = .ok z w ∧ dS val η s = some z := by
  cases x <;> simp only [arB] at h
  case int k a =>
    simp only [dS, Option.some.injEq] at hx; subst hx
    cases y <;> simp only at h
    case int k' b =>
      simp only [dS, Option.some.injEq] at hy; subst hy
      cases hk : (k == k') with
      | false => rw [hk] at h; cases h
      | true =>
        rw [hk] at h
        have : k = k' := by simpa using hk
        subst this
        exact litOp_ok hop h t w η
    case sym k' b =>
      simp only [dS, Option.some.injEq] at hy; subst hy
      cases hk : (k == k' && uns k && inK k a) with
      | false => rw [hk] at h; cases h
      | true =>
        rw [hk] at h
        simp only [Bool.and_eq_true] at hk
        obtain ⟨⟨h1, h2⟩, h3⟩ := hk
        have : k = k' := by simpa using h1
        subst this
        obtain ⟨e, hlt⟩ := inK_ok h3
        simp only [cond_true] at h
        cases hz : symLit F op k.bits b a.toNat with
        | none => rw [hz] at h; cases h
        | some z =>
          rw [hz] at h; injection h with h; subst h
          rw [e]
          exact ⟨_, (symLit_ok hS h2 hlt hz t w).2, rfl⟩
    all_goals cases h
  case sym k a =>
    simp only [dS, Option.some.injEq] at hx; subst hx
    cases y <;> simp only at h
    case int k' b =>
      simp only [dS, Option.some.injEq] at hy; subst hy
      cases hk : (k == k' && uns k && inK k b) with
      | false => rw [hk] at h; cases h
      | true =>
        rw [hk] at h
        simp only [Bool.and_eq_true] at hk
        obtain ⟨⟨h1, h2⟩, h3⟩ := hk
        have : k = k' := by simpa using h1
        subst this
        obtain ⟨e, hlt⟩ := inK_ok h3
        simp only [cond_true] at h
        cases hz : symLit F op k.bits a b.toNat with
        | none => rw [hz] at h; cases h
        | some z =>
          rw [hz] at h; injection h with h; subst h
          rw [e]
          exact ⟨_, (symLit_ok hS h2 hlt hz t w).1, rfl⟩
    case sym k' b =>
      simp only [dS, Option.some.injEq] at hy; subst hy
      cases hk : (k == k' && uns k) with
      | false => rw [hk] at h; cases h
      | true =>
        rw [hk] at h
        simp only [Bool.and_eq_true] at hk
        obtain ⟨h1, h2⟩ := hk
        have : k = k' := by simpa using h1
        subst this
        simp only [cond_true] at h
        cases hz : symOp F op k.bits a b with
        | none => rw [hz] at h; cases h
        | some z =>
          rw [hz] at h; injection h with h; subst h
          exact ⟨_, symOp_ok hS h2 hop hz t w, rfl⟩
    all_goals cases h
  all_goals cases h

theorem run_eqGuard {op : BinOp} {t : TypeId} {x y : Operand} {k : IntKind} {n : Int} {v : Value} (w : World) : (eqGuard op t x y (.int k n) v).run P w = .ok () w := by
  unfold eqGuard
  cases op <;> rfl

section
variable {η : Env} {st : St} {w : World} {r : Operand → Option XV} {ρ : Operand → Value}
theorem binX_ok (hS : Sat val F) {op : BinOp} {x y s : SC} {u v : Value} (hx : dS val η x = some u) (hy : dS val η y = some v) (h : binX F op x y = some s) (t : TypeId) (w : World) :
    (∃ z, (binOp op t u v).run P w = .ok z w ∧ dS val η s = some z) ∧ ∃ k n, u = .int k n := by
  unfold binX at h
  refine ⟨?_, ?_⟩
  · cases hs : isShift op with
    | true => rw [hs] at h; exact shB_ok hS hs hx hy h t w
    | false => rw [hs] at h; exact arB_ok hS hs hx hy h t w
  · cases hs : isShift op with
    | true =>
      rw [hs] at h
      simp only [cond_true] at h
      cases y <;> simp only [shB] at h
      case int yk b =>
        cases hb : decide (b < 0) with
        | true => rw [hb] at h; cases h
        | false =>
          rw [hb] at h
          cases x <;> simp only [shX, cond_false] at h
          case int k a => exact ⟨k, a, by simpa [dS, eq_comm] using hx⟩
          case sym k a => exact ⟨k, _, by simpa [dS, eq_comm] using hx⟩
          all_goals cases h
      all_goals cases h
    | false =>
      rw [hs] at h
      cases x <;> simp only [arB, cond_false] at h
      case int k a => exact ⟨k, a, by simpa [dS, eq_comm] using hx⟩
      case sym k a => exact ⟨k, _, by simpa [dS, eq_comm] using hx⟩
      all_goals cases h

theorem eqB_ok {op : BinOp} {b t : Bool} {s : SC} (h : eqB op b t = some s) : op = .eql ∧ t = true ∧ s = .bool b := by
  cases op <;> simp only [eqB] at h <;> try (cases h; done)
  cases t with
  | false => cases h
  | true => simp only [cond_true, Option.some.injEq] at h; exact ⟨rfl, rfl, h.symm⟩
theorem isSlT_ok {d : Option TypeDesc} (h : isSlT d = true) : ∃ e, d = some (.slice e) := by
  unfold isSlT at h
  split at h
  · exact ⟨_, rfl⟩
  · cases h
theorem nilEq1_ok {op : BinOp} {b : Bool} {ud : Option TypeDesc} {y s : SC} (h : nilEq1 op b ud y = some s) : y = .snil ∧ op = .eql ∧ (∃ e, ud = some (.slice e)) ∧ s = .bool b := by
  cases y <;> simp only [nilEq1] at h <;> try (cases h; done)
  obtain ⟨h1, h2, h3⟩ := eqB_ok h
  exact ⟨rfl, h1, isSlT_ok h2, h3⟩
theorem nilEq_ok {op : BinOp} {t : TypeId} {x y s : SC} {u v : Value} (hx : dS val η x = some u) (hy : dS val η y = some v) (h : nilEq P op t y x = some s) (w : World) (X Y : Operand) :
    ∃ z, (do eqGuard op t X Y u v; binOp op t u v : Sem Value).run P w = .ok z w ∧ dS val η s = some z := by
  have go : ∀ {b : Bool} (a : Option Addr) (n c : Nat), u = .slice a n c → a.isNone = b → nilEq1 op b (P.underlying t) y = some s → ∃ z, (do eqGuard op t X Y u v; binOp op t u v : Sem Value).run P w = .ok z w ∧ dS val η s = some z := by
    intro b a n c hu hb hn
    obtain ⟨rfl, rfl, ⟨e, he⟩, rfl⟩ := nilEq1_ok hn
    simp only [dS, Option.some.injEq] at hy
    subst hy; subst hu
    refine ⟨.bool b, ?_, rfl⟩
    have hg : (eqGuard .eql t X Y (.slice a n c) (.slice none 0 0)).run P w = .ok () w := rfl
    rw [Sem.run_bind, hg]
    simp only [Result.andThen_ok]
    rw [Lib.run_eql_slice_nil w t e a n c 0 0 he, hb]
  cases x <;> simp only [nilEq] at h <;> try (cases h; done)
  · simp only [dS, Option.map_eq_some_iff] at hx
    obtain ⟨p, _, hu⟩ := hx
    exact go _ _ _ hu.symm rfl h
  · simp only [dS, Option.bind_eq_some_iff] at hx
    obtain ⟨p, _, hu⟩ := hx
    split at hu
    · injection hu with hu; exact go _ _ _ hu.symm rfl h
    · cases hu
  · simp only [dS, Option.some.injEq] at hx
    exact go _ _ _ hx.symm rfl h

theorem pure_bin (hS : Sat val F) (hr : RO val η r ρ) (op : BinOp) (t : TypeId) (x y : Operand) (s : SC) (hs : bin3 P F op t (sc1 r x) (sc1 r y) = some s) :
    ∃ z, (do pure (.value (← (do eqGuard op t x y (ρ x) (ρ y); binOp op t (ρ x) (ρ y)))) : Sem Next).run P w = .ok (.value z) w ∧ dS val η s = some z := by
  cases hx : sc1 r x with
  | none => rw [hx] at hs; cases hs
  | some a =>
    cases hy : sc1 r y with
    | none => rw [hx, hy] at hs; cases hs
    | some b =>
      rw [hx, hy] at hs
      simp only [bin3] at hs
      cases hn : nilEq P op t b a with
      | some s' =>
        rw [hn] at hs
        simp only [orS, Option.some.injEq] at hs
        subst hs
        obtain ⟨z, h1, h2⟩ := nilEq_ok (P := P) (sc1_ok hr hx) (sc1_ok hr hy) hn w x y
        exact ⟨z, run_v h1, h2⟩
      | none =>
        rw [hn] at hs
        simp only [orS] at hs
        obtain ⟨⟨z, h1, h2⟩, k, n, e⟩ := binX_ok (P := P) hS (sc1_ok hr hx) (sc1_ok hr hy) hs t w
        refine ⟨z, run_v ?_, h2⟩
        rw [Sem.run_bind, e, run_eqGuard w, ← e]
        exact h1

theorem op_bin (hS : Sat val F) (hm : MR val η st w) (hr : RO val η r ρ) (op : BinOp) (t : TypeId) (x y : Operand) :
    ResOk val P η st w (do pure (.value (← (do eqGuard op t x y (ρ x) (ρ y); binOp op t (ρ x) (ρ y))))) (resS (bin3 P F op t (sc1 r x) (sc1 r y)) st) :=
  ok_resS hm fun s hs => pure_bin hS hr op t x y s hs

theorem op_nil (hm : MR val η st w) (hr : RO val η r ρ) (x : Operand) (o : Oper) (ho : o.op = .nilCheck x) : ResOk val P η st w (execOp ρ o) (nilX st (sc1 r x)) := by
  cases hx : sc1 r x with
  | none => trivial
  | some s =>
    have hs := sc1_ok hr hx
    cases s with
    | ptr h p =>
      have hs' := hs
      simp only [dS, Option.map_eq_some_iff] at hs
      obtain ⟨q, _, hv⟩ := hs
      refine ⟨η, ρ x, w, ?_, hs', STP.refl hm⟩
      simp only [execOp, ho]
      rw [← hv]; rfl
    | _ => trivial

theorem convX_ok (hS : Sat val F) {k : IntKind} {x s : SC} {u : Value} (hx : dS val η x = some u) (h : convX F k x = some s) : ∃ k' n, u = .int k' n ∧ dS val η s = some (.int k (k.wrap n)) := by
  cases x <;> simp only [convX] at h
  case int k' n =>
    injection h with h; subst h
    exact ⟨k', n, by simpa [dS, eq_comm] using hx, rfl⟩
  case sym k' x =>
    cases hk : (uns k && uns k') with
    | false => rw [hk] at h; cases h
    | true =>
      rw [hk] at h
      simp only [Bool.and_eq_true] at hk
      simp only [cond_true] at h
      cases hz : convW F k' k x with
      | none => rw [hz] at h; cases h
      | some z =>
        rw [hz] at h; injection h with h; subst h
        refine ⟨k', _, by simpa [dS, eq_comm] using hx, ?_⟩
        rw [dS, convW_ok hS hz, wrap_uns hk.1]
  all_goals cases h
end
end Go.SX
