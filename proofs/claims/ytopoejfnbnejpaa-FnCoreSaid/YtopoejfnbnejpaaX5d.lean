/- Each operation of the executor does what the model's does: addresses, cuts, fields, len, append. -/
import Derived.Test.YtopoejfnbnejpaaX5c
import Derived.Laws.Append
namespace Go.SX
variable {val : Nat → Nat} {P : Program} {F : Nd → Option Nat}
section
variable {η : Env} {st : St} {w : World} {r : Operand → Option XV} {ρ : Operand → Value}

theorem natIx_ok {x : SC} {n j : Nat} {v : Value} (hx : dS val η x = some v) (h : natIx x n = some j) : ∃ k, v = .int k (j : Int) ∧ j < n := by
  cases x <;> simp only [natIx] at h
  case int k i =>
    cases hb : (decide (0 ≤ i) && decide (i < (n : Int))) with
    | false => rw [hb] at h; cases h
    | true =>
      rw [hb] at h; injection h with h; subst h
      simp only [Bool.and_eq_true, decide_eq_true_eq] at hb
      simp only [dS, Option.some.injEq] at hx; subst hx
      refine ⟨k, ?_, by omega⟩
      rw [Int.toNat_of_nonneg hb.1]
  all_goals cases h

theorem op_s2a (hm : MR val η st w) (hr : RO val η r ρ) (t : TypeId) (x : Operand) :
    ResOk val P η st w (do pure (.value (← Instr.arrayAt t (ρ x)))) (resS (s2a (P.underlying t) (sc1 r x)) st) := by
  refine ok_resS hm fun s hs => ?_
  cases hu : P.underlying t with
  | none => rw [hu] at hs; cases hs
  | some d =>
    cases hx : sc1 r x with
    | none => rw [hu, hx] at hs; cases d <;> cases hs
    | some a =>
      rw [hu, hx] at hs
      have hv := sc1_ok hr hx
      cases d <;> try (cases hs; done)
      rename_i n e
      cases a <;> simp only [s2a] at hs <;> try (cases hs; done)
      · rename_i h o len cap
        cases hb : Nat.ble n len with
        | false => rw [hb] at hs; cases hs
        | true =>
          rw [hb] at hs; injection hs with hs; subst hs
          simp only [ble_dec, decide_eq_true_eq] at hb
          simp only [dS, Option.map_eq_some_iff] at hv
          obtain ⟨p, hp, hv⟩ := hv
          refine ⟨_, run_v ?_, by simp only [dS, hp]; rfl⟩
          rw [← hv]
          simp [Instr.arrayAt, run_underlying hu w]; omega
      · rename_i h o len
        cases hb : Nat.ble n len with
        | false => rw [hb] at hs; cases hs
        | true =>
          rw [hb] at hs; injection hs with hs; subst hs
          simp only [ble_dec, decide_eq_true_eq] at hb
          simp only [dS, Option.bind_eq_some_iff] at hv
          obtain ⟨p, hp, hv⟩ := hv
          split at hv
          · injection hv with hv
            refine ⟨_, run_v ?_, by simp only [dS, hp]; rfl⟩
            rw [← hv]
            simp [Instr.arrayAt, run_underlying hu w]; omega
          · cases hv

theorem pure_ix (hr : RO val η r ρ) (t : TypeId) (x ix : Operand) (s : SC) (hs : ixAddr P (P.underlying t) (sc1 r x) (sc1 r ix) = some s) :
    ∃ z, (do pure (.value (← Instr.indexAt t (ρ x) (ρ ix))) : Sem Next).run P w = .ok (.value z) w ∧ dS val η s = some z := by
  cases hu : P.underlying t with
  | none => rw [hu] at hs; cases hs
  | some d =>
    cases hx : sc1 r x with
    | none => rw [hu, hx] at hs; cases d <;> cases hs
    | some a =>
      cases hi : sc1 r ix with
      | none => rw [hu, hx, hi] at hs; cases d <;> cases a <;> cases hs
      | some b =>
        rw [hu, hx, hi] at hs
        have hv := sc1_ok hr hx
        have hw := sc1_ok hr hi
        have fin : ∀ {h o n e : Nat}, ptrAt h o (natIx b n) (sizeT P e) = some s → ∀ p, η h = some p →
            ∃ k j m, ρ ix = .int k ((j : Nat) : Int) ∧ j < n ∧ sizeT P e = some m ∧ dS val η s = some (.pointer (some ⟨p.b, p.o + (o + j * m), none⟩)) := by
          intro h o n e hpt p hp
          cases hj : natIx b n with
          | none => rw [hj] at hpt; cases hpt
          | some j =>
            cases hm : sizeT P e with
            | none => rw [hj, hm] at hpt; cases hpt
            | some m =>
              rw [hj, hm] at hpt
              injection hpt with hpt; subst hpt
              obtain ⟨k, e1, e2⟩ := natIx_ok hw hj
              exact ⟨k, j, m, e1, e2, rfl, by simp [dS, hp]⟩
        cases d <;> try (cases hs; done)
        · rename_i e
          cases a <;> simp only [ixAddr] at hs <;> try (cases hs; done)
          · rename_i h o len cap
            simp only [dS, Option.map_eq_some_iff] at hv
            obtain ⟨p, hp, hv⟩ := hv
            obtain ⟨k, j, m, e1, e2, e3, e4⟩ := fin hs p hp
            refine ⟨_, run_v ?_, e4⟩
            rw [← hv, e1]
            simp [Instr.indexAt, asIntOf, run_underlying hu w, e2, run_sizeOf e3, Addr.add_lit, Nat.add_assoc]
          · rename_i h o len
            simp only [dS, Option.bind_eq_some_iff] at hv
            obtain ⟨p, hp, hv⟩ := hv
            split at hv
            · injection hv with hv
              obtain ⟨k, j, m, e1, e2, e3, e4⟩ := fin hs p hp
              refine ⟨_, run_v ?_, e4⟩
              rw [← hv, e1]
              simp [Instr.indexAt, asIntOf, run_underlying hu w, e2, run_sizeOf e3, Addr.add_lit, Nat.add_assoc]
            · cases hv
        · rename_i n e
          cases a <;> simp only [ixAddr] at hs <;> try (cases hs; done)
          rename_i h o
          simp only [dS, Option.map_eq_some_iff] at hv
          obtain ⟨p, hp, hv⟩ := hv
          obtain ⟨k, j, m, e1, e2, e3, e4⟩ := fin hs p hp
          refine ⟨_, run_v ?_, e4⟩
          rw [← hv, e1]
          simp [Instr.indexAt, Instr.sureAddr, asIntOf, run_underlying hu w, e2, run_sizeOf e3, Addr.add_lit, Nat.add_assoc]

theorem op_ix (hm : MR val η st w) (hr : RO val η r ρ) (t : TypeId) (x ix : Operand) :
    ResOk val P η st w (do pure (.value (← Instr.indexAt t (ρ x) (ρ ix)))) (resS (ixAddr P (P.underlying t) (sc1 r x) (sc1 r ix)) st) :=
  ok_resS hm fun s hs => pure_ix hr t x ix s hs

theorem bdX_ok {dflt lim lim' i : Nat} {o : Option SC} {ov : Option Value} (ho : ∀ s, o = some s → ∃ v, ov = some v ∧ dS val η s = some v) (hn : o = none → ov = none) (hl : lim ≤ lim') (h : bdX dflt lim o = some i) (c : BoundsCode) (w : World) :
    (o = none ∧ ov = none ∧ i = dflt) ∨ (∃ v, ov = some v ∧ (Instr.sliceBound v lim' c).run P w = .ok i w ∧ i ≤ lim) := by
  cases o with
  | none => exact .inl ⟨rfl, hn rfl, by simpa [bdX, eq_comm] using h⟩
  | some s =>
    obtain ⟨v, e1, e2⟩ := ho s rfl
    cases s <;> simp only [bdX] at h
    case int k n =>
      simp only [ixIn] at h
      cases hb : (decide (0 ≤ n) && decide (n ≤ (lim : Int))) with
      | false => rw [hb] at h; cases h
      | true =>
        rw [hb] at h; injection h with h; subst h
        simp only [Bool.and_eq_true, decide_eq_true_eq] at hb
        simp only [dS, Option.some.injEq] at e2; subst e2
        have h2 : n ≤ (lim' : Int) := by omega
        exact .inr ⟨_, e1, by simp [Instr.sliceBound, asIntOf, hb.1, h2], by omega⟩
    all_goals cases h

theorem bounds_ok {len cap cap' l h : Nat} {lo hi : Option SC} {lov hiv : Option Value} (hlo : ∀ s, lo = some s → ∃ v, lov = some v ∧ dS val η s = some v) (hlo' : lo = none → lov = none)
    (hhi : ∀ s, hi = some s → ∃ v, hiv = some v ∧ dS val η s = some v) (hhi' : hi = none → hiv = none) (hc : cap ≤ cap') (hb : boundsX len cap lo hi = some (l, h)) (b : Bool) (w : World) :
    (Instr.sliceBounds b len cap' lov hiv none).run P w = .ok (l, h, cap') w ∧ l ≤ h ∧ (h = len ∨ h ≤ cap) := by
  unfold boundsX at hb
  cases hh : bdX len cap hi with
  | none => rw [hh] at hb; cases hb
  | some h' =>
    rw [hh] at hb
    simp only [loX] at hb
    cases hl : bdX 0 h' lo with
    | none => rw [hl] at hb; cases hb
    | some l' =>
      rw [hl] at hb
      simp only [pairL, Option.some.injEq, Prod.mk.injEq] at hb
      obtain ⟨rfl, rfl⟩ := hb
      have c1 := fun c => bdX_ok (P := P) hhi hhi' hc hh c w
      have c2 := fun c => bdX_ok (P := P) hlo hlo' (Nat.le_refl h') hl c w
      refine ⟨?_, ?_, ?_⟩
      · rcases c1 (if b then .sliceAcap else .sliceAlen) with ⟨_, e, rfl⟩ | ⟨v, e, e', _⟩ <;> rcases c2 .sliceB with ⟨_, f, rfl⟩ | ⟨v', f, f', _⟩ <;> subst e <;> subst f <;> simp [Instr.sliceBounds, *]
      · rcases c2 .sliceB with ⟨_, _, rfl⟩ | ⟨_, _, _, h⟩ <;> omega
      · rcases c1 .sliceB with ⟨_, _, rfl⟩ | ⟨_, _, _, h⟩
        · exact .inl rfl
        · exact .inr h

theorem scalO_ok (hr : RO val η r ρ) {o : Option Operand} {s : Option SC} (h : scalO r o = some s) :
    (∀ t, s = some t → ∃ v, o.map ρ = some v ∧ dS val η t = some v) ∧ (s = none → o.map ρ = none) := by
  cases o with
  | none => simp only [scalO, Option.some.injEq] at h; subst h; exact ⟨by simp, by simp⟩
  | some x =>
    simp only [scalO] at h
    cases hx : r x with
    | none => rw [hx] at h; cases h
    | some v =>
      rw [hx] at h
      simp only at h
      cases hs : v.scal with
      | none => rw [hs] at h; cases h
      | some t =>
        rw [hs] at h; injection h with h; subst h
        have := scal_ok hs; subst this
        exact ⟨fun t' e => by injection e with e; subst e; exact ⟨ρ x, rfl, hr x _ hx⟩, by simp⟩

theorem op_slice (hm : MR val η st w) (hr : RO val η r ρ) (t : TypeId) (x : Operand) (lo hi mx : Option Operand) :
    ResOk val P η st w (do pure (.value (← Instr.sliceAt t (ρ x) (lo.map ρ) (hi.map ρ) (mx.map ρ)))) (resS (slice4 P t (sc1 r x) (scalO r lo) (scalO r hi) (scalO r mx)) st) := by
  refine ok_resS hm fun s hs => ?_
  unfold slice4 at hs
  split at hs
  · rename_i a lo' hi' ha hlo hhi hmx
    have hv := sc1_ok hr ha
    obtain ⟨l1, l2⟩ := scalO_ok hr hlo
    obtain ⟨h1, h2⟩ := scalO_ok hr hhi
    have hmx' : mx.map ρ = none := (scalO_ok hr hmx).2 rfl
    cases hu : P.underlying t with
    | none => rw [hu] at hs; cases hs
    | some d =>
      rw [hu] at hs
      cases d <;> simp only [sliceX] at hs <;> try (cases hs; done)
      · rename_i e
        cases hz : sizeT P e with
        | none => rw [hz] at hs; cases hs
        | some m =>
          rw [hz] at hs
          unfold sliceS at hs
          split at hs
          · rename_i he
            injection he with he; subst he
            cases a <;> simp only at hs <;> try (cases hs; done)
            · rename_i h o len cap
              simp only [dS, Option.map_eq_some_iff] at hv
              obtain ⟨p, hp, hv⟩ := hv
              cases hb : boundsX len cap lo' hi' with
              | none => rw [hb] at hs; cases hs
              | some q =>
                obtain ⟨l, hh⟩ := q
                rw [hb] at hs
                simp only [cutSl] at hs
                obtain ⟨b1, b2, b3⟩ := bounds_ok (P := P) l1 l2 h1 h2 (Nat.le_refl cap) hb true w
                cases hc : (Nat.blt l cap || Nat.beq l 0) with
                | false => rw [hc] at hs; cases hs
                | true =>
                  rw [hc] at hs; injection hs with hs; subst hs
                  simp only [Bool.or_eq_true, beq_dec, decide_eq_true_eq, Nat.blt_eq] at hc
                  refine ⟨_, run_v ?_, by simp only [dS, hp]; rfl⟩
                  rw [← hv, hmx']
                  simp only [Instr.sliceAt, Instr.slice, Sem.run_bind, run_underlying hu w, Result.andThen_ok, b1, run_sizeOf hz w, Sem.run_pure]
                  congr 2
                  by_cases e : cap = l
                  · rw [if_pos e]
                    have : l = 0 := by omega
                    subst this; rfl
                  · rw [if_neg e]
                    simp [Addr.add_lit, Nat.add_assoc]
            · rename_i h o len
              simp only [dS, Option.bind_eq_some_iff] at hv
              obtain ⟨p, hp, hv⟩ := hv
              split at hv
              · rename_i hle
                injection hv with hv
                cases hb : boundsX len len lo' hi' with
                | none => rw [hb] at hs; cases hs
                | some q =>
                  obtain ⟨l, hh⟩ := q
                  rw [hb] at hs
                  simp only [cutSlc] at hs
                  have hcap : len ≤ p.cap - o := by omega
                  obtain ⟨b1, b2, b3⟩ := bounds_ok (P := P) l1 l2 h1 h2 hcap hb true w
                  cases hc : (Nat.blt l len || Nat.beq l 0) with
                  | false => rw [hc] at hs; cases hs
                  | true =>
                    rw [hc] at hs; injection hs with hs; subst hs
                    simp only [Bool.or_eq_true, beq_dec, decide_eq_true_eq, Nat.blt_eq] at hc
                    refine ⟨_, run_v ?_, by simp only [dS, hp, Option.bind_some]; rw [if_pos (by omega)]⟩
                    rw [← hv, hmx']
                    simp only [Instr.sliceAt, Instr.slice, Sem.run_bind, run_underlying hu w, Result.andThen_ok, b1, run_sizeOf hz w, Sem.run_pure]
                    congr 2
                    · congr 1
                      by_cases e : p.cap - o = l
                      · rw [if_pos e]
                        have : l = 0 := by omega
                        subst this; rfl
                      · rw [if_neg e]
                        simp [Addr.add_lit, Nat.add_assoc]
                    · omega
              · cases hv
          · cases hs
      · rename_i n e
        cases hz : sizeT P e with
        | none => rw [hz] at hs; cases hs
        | some m =>
          rw [hz] at hs
          unfold sliceA at hs
          split at hs
          · rename_i he
            injection he with he; subst he
            cases a <;> simp only at hs <;> try (cases hs; done)
            rename_i h o
            simp only [dS, Option.map_eq_some_iff] at hv
            obtain ⟨p, hp, hv⟩ := hv
            cases hb : boundsX n n lo' hi' with
            | none => rw [hb] at hs; cases hs
            | some q =>
              obtain ⟨l, hh⟩ := q
              rw [hb] at hs
              simp only [cutArr] at hs
              obtain ⟨b1, b2, b3⟩ := bounds_ok (P := P) l1 l2 h1 h2 (Nat.le_refl n) hb false w
              cases hc : Nat.blt l n with
              | false => rw [hc] at hs; cases hs
              | true =>
                rw [hc] at hs; injection hs with hs; subst hs
                simp only [Nat.blt_eq] at hc
                refine ⟨_, run_v ?_, by simp only [dS, hp]; rfl⟩
                rw [← hv, hmx']
                simp only [Instr.sliceAt, Instr.sureAddr, Sem.run_bind, run_underlying hu w, Result.andThen_ok, b1, run_sizeOf hz w, Sem.run_pure]
                rw [if_neg (by omega)]
                simp [Addr.add_lit, Nat.add_assoc]
          · cases hs
  · cases hs
end
end Go.SX
