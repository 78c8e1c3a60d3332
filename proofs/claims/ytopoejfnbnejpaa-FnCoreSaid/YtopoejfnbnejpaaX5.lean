/- Each operation of the executor does what the model's does. -/
import Derived.Test.YtopoejfnbnejpaaX4b
import Derived.Laws.Entries
namespace Go.SX
variable {val : Nat → Nat} {P : Program} {F : Nd → Option Nat}

/-- What the operands hold. -/
def RO (val : Nat → Nat) (η : Env) (r : Operand → Option XV) (ρ : Operand → Value) : Prop := ∀ x v, r x = some v → dX val η v = some (ρ x)

def ResOk (val : Nat → Nat) (P : Program) (η : Env) (st : St) (w : World) (s : Sem Next) : Res → Prop
  | .val v st' => ∃ η' x w', s.run P w = .ok (.value x) w' ∧ dX val η' v = some x ∧ STP val η st w η' st' w'
  | .unit st' => ∃ η' w', s.run P w = .ok .skip w' ∧ STP val η st w η' st' w'
  | .call f args st' => st' = st ∧ ∃ vs, dXs val η args = some vs ∧ s.run P w = (callFunc f vs.toArray).run P w
  | .no => True

theorem run_v {s : Sem Value} {w w' : World} {x : Value} (h : s.run P w = .ok x w') : ((do pure (Next.value (← s))) : Sem Next).run P w = .ok (.value x) w' := by
  simp [h]
theorem run_u {s : Sem Unit} {w w' : World} (h : s.run P w = .ok () w') : ((do s; pure Next.skip) : Sem Next).run P w = .ok .skip w' := by
  simp [h]

theorem scal_ok {v : XV} {s : SC} (h : v.scal = some s) : v = .av (.sc s) := by
  cases v with
  | av a => cases a <;> simp [XV.scal] at h; subst h; rfl
  | tup l => simp [XV.scal] at h
  | undef => simp [XV.scal] at h
theorem sc1_ok {η : Env} {r : Operand → Option XV} {ρ : Operand → Value} (hr : RO val η r ρ) {x : Operand} {s : SC} (h : sc1 r x = some s) : dS val η s = some (ρ x) := by
  unfold sc1 at h
  cases hx : r x with
  | none => rw [hx] at h; cases h
  | some v =>
    rw [hx] at h
    have := scal_ok h
    subst this
    exact hr x _ hx
theorem cells_ok {η : Env} {v : XV} {x : Value} {cs : List SC} (h : dX val η v = some x) (hc : v.cells = some cs) : ∃ vs, dL val η cs = some vs ∧ x.cells = vs.toArray := by
  cases v with
  | av a =>
    cases a with
    | sc s =>
      simp only [XV.cells, Option.some.injEq] at hc; subst hc
      exact ⟨[x], by simp [dL, show dS val η s = some x from h], (dS_one h).2⟩
    | agg l =>
      simp only [XV.cells, Option.some.injEq] at hc; subst hc
      simp only [dX, dA, Option.map_eq_some_iff] at h
      obtain ⟨vs, h1, rfl⟩ := h
      exact ⟨vs, h1, rfl⟩
  | tup l => simp [XV.cells] at hc
  | undef => simp [XV.cells] at hc

/-! ### types -/
theorem sizeT_ok {t n : Nat} (h : sizeT P t = some n) : ∃ i, P.info? t = some i ∧ i.size = n := by
  unfold sizeT at h
  cases hi : P.info? t with
  | none => simp [hi] at h
  | some i => simp [hi] at h; exact ⟨i, rfl, h⟩
theorem run_sizeOf {t n : Nat} (h : sizeT P t = some n) (w : World) : (sizeOf t).run P w = .ok n w := by
  obtain ⟨i, hi, rfl⟩ := sizeT_ok h
  simp [sizeOf, typeInfo, hi]
theorem run_isAgg {t : Nat} {b : Bool} (h : isAggT P t = some b) (w : World) : (isAgg t).run P w = .ok b w := by
  unfold isAggT at h
  cases hu : P.underlying t with
  | none => rw [hu] at h; cases h
  | some d =>
    rw [hu] at h
    unfold isAgg
    rw [Sem.run_bind, run_underlying hu w]
    cases d <;> simp [aggD] at h <;> subst h <;> simp
theorem scOf_ok {η : Env} {v : Value} {s : SC} (h : scOf v = some s) : dS val η s = some v := by
  unfold scOf at h
  split at h
  all_goals try (simp at h; subst h; rfl)
  · rename_i fn first cap
    unfold fnOf at h
    split at h
    · rename_i f hb
      simp only [Bool.and_eq_true, Array.isEmpty_iff] at hb
      obtain ⟨rfl, rfl⟩ := hb
      simp at h; subst h; rfl
    · cases h
  · cases h
theorem scsOf_ok {η : Env} : ∀ {l : List Value} {m : List SC}, scsOf l = some m → dL val η m = some l
  | [], m, h => by simp [scsOf] at h; subst h; rfl
  | v :: l, m, h => by
    simp only [scsOf] at h
    split at h
    · rename_i s t hs ht
      injection h with h; subst h
      simp [dL, scOf_ok hs, scsOf_ok ht]
    · cases h
theorem zeroT_ok {η : Env} {t : Nat} {z : List SC} (h : zeroT P t = some z) (w : World) : ∃ v, (zeroValue t).run P w = .ok v w ∧ dL val η z = some v.cells.toList := by
  unfold zeroT at h
  cases hi : P.info? t with
  | none => simp [hi] at h
  | some i =>
    cases hz : i.zero with
    | none => simp [hi, hz] at h
    | some v =>
      simp [hi, hz] at h
      exact ⟨v, by simp [zeroValue, typeInfo, hi, hz], scsOf_ok h⟩

/-! ### the operations -/
section
variable {η : Env} {st : St} {w : World} {r : Operand → Option XV} {ρ : Operand → Value}

theorem ok_resO (hm : MR val η st w) {s : Sem Next} {o : Option XV} (h : ∀ v, o = some v → ∃ x, s.run P w = .ok (.value x) w ∧ dX val η v = some x) : ResOk val P η st w s (resO o st) := by
  cases o with
  | none => trivial
  | some v => obtain ⟨x, h1, h2⟩ := h v rfl; exact ⟨η, x, w, h1, h2, STP.refl hm⟩
theorem ok_resS (hm : MR val η st w) {s : Sem Next} {o : Option SC} (h : ∀ v, o = some v → ∃ x, s.run P w = .ok (.value x) w ∧ dS val η v = some x) : ResOk val P η st w s (resS o st) := by
  cases o with
  | none => trivial
  | some v => obtain ⟨x, h1, h2⟩ := h v rfl; exact ⟨η, x, w, h1, h2, STP.refl hm⟩
theorem ok_resA (hm : MR val η st w) {s : Sem Next} {o : Option (List SC)} (h : ∀ l, o = some l → ∃ vs, s.run P w = .ok (.value (.agg vs.toArray)) w ∧ dL val η l = some vs) : ResOk val P η st w s (resA o st) := by
  cases o with
  | none => trivial
  | some v =>
    obtain ⟨x, h1, h2⟩ := h v rfl
    exact ⟨η, _, w, h1, by simp [dX, dA, h2], STP.refl hm⟩

/-- A new variable. -/
theorem ok_new (hm : MR val η st w) {s : Sem Next} {o : Option (List SC)} {mk : Nat → SC} {mkV : Addr → Nat → Value}
    (hmk : ∀ η' p n, η' st.nh = some p → p.o = 0 → dS val η' (mk st.nh) = some (mkV ⟨p.b, 0, none⟩ n))
    (h : ∀ l, o = some l → ∃ vs T, dL val η l = some vs ∧ s.run P w = .ok (.value (mkV ⟨w.heap.size, 0, none⟩ vs.length)) (w.alloc (.cells vs.toArray T))) :
    ResOk val P η st w s (resNew .rw st mk o) := by
  cases o with
  | none => trivial
  | some l =>
    obtain ⟨vs, T, h1, h2⟩ := h l rfl
    refine ⟨_, _, _, h2, ?_, hm.alloc T h1⟩
    exact hmk _ ⟨w.heap.size, 0, vs.length⟩ _ (Env.upd_same _ _ _) rfl

theorem op_alloc (hm : MR val η st w) (t : TypeId) : ResOk val P η st w (do pure (.value (← Instr.alloc t true (.tuple #[])))) (resNew .rw st (.ptr · 0) (zeroT P t)) := by
  refine ok_new (mkV := fun a _ => .pointer (some a)) hm (fun η' p n e e0 => by simp [dS, e, e0]) fun l hl => ?_
  obtain ⟨v, h1, h2⟩ := zeroT_ok (val := val) (η := η) hl w
  refine ⟨_, t, h2, run_v ?_⟩
  simp [Instr.alloc, h1, newVar, newRow]
theorem op_box (hm : MR val η st w) (hr : RO val η r ρ) (t : TypeId) (x : Operand) : ResOk val P η st w (do pure (.value (← Instr.box t (ρ x)))) (resNew .rw st (.ptr · 0) (cellsO (r x))) := by
  refine ok_new (mkV := fun a _ => .pointer (some a)) hm (fun η' p n e e0 => by simp [dS, e, e0]) fun l hl => ?_
  cases hx : r x with
  | none => rw [hx] at hl; cases hl
  | some v =>
    rw [hx] at hl
    obtain ⟨vs, h1, h2⟩ := cells_ok (hr x v hx) hl
    refine ⟨vs, t, h1, run_v ?_⟩
    simp [Instr.box, newVar, newRow, h2]

theorem one_ok {l : Option (List SC)} {s : SC} (h : one l = some s) : l = some [s] := by
  unfold one at h
  split at h
  · simpa using h
  · cases h

theorem op_load (hm : MR val η st w) (hr : RO val η r ρ) (t : TypeId) (x : Operand) : ResOk val P η st w (do pure (.value (← Instr.loadAt t (ρ x)))) (loadX P t st (sc1 r x)) := by
  cases hx : sc1 r x with
  | none => trivial
  | some s =>
    have hs := sc1_ok hr hx
    cases s with
    | ptr h o =>
      simp only [dS, Option.map_eq_some_iff] at hs
      obtain ⟨p, hp, hv⟩ := hs
      simp only [loadX]
      cases ha : isAggT P t with
      | none => trivial
      | some b =>
        cases b with
        | true =>
          simp only [loadB]
          cases hn : sizeT P t with
          | none => trivial
          | some n =>
            refine ok_resA hm fun l hl => ?_
            obtain ⟨q, vs, e1, e2, e3, e4⟩ := hm.read hl
            rw [hp] at e1; injection e1 with e1; subst e1
            refine ⟨vs, run_v ?_, e2⟩
            have hld := run_loadCells_list (P := P) w ⟨p.b, p.o + o, none⟩ vs (fun j v hv => by rw [Addr.add_lit]; exact e4 j v hv)
            rw [← hv]
            simp [Instr.loadAt, Instr.sureAddr, loadVar, run_isAgg ha w, run_sizeOf hn, ← e3, hld]
        | false =>
          simp only [loadB]
          refine ok_resS hm fun s hs => ?_
          obtain ⟨q, vs, e1, e2, e3, e4⟩ := hm.read (one_ok hs)
          rw [hp] at e1; injection e1 with e1; subst e1
          obtain ⟨v, d1, d2⟩ := dL_get (i := 0) e2 rfl
          have hc := e4 0 v d1
          refine ⟨v, run_v ?_, d2⟩
          rw [← hv]
          simp only [Nat.add_zero] at hc
          simp [Instr.loadAt, Instr.sureAddr, loadVar, run_isAgg ha w, hc]
    | _ => trivial
end
end Go.SX
