/- Each operation of the executor does what the model's does: stores, literals, addresses, slices. -/
import Derived.Test.YtopoejfnbnejpaaX5
namespace Go.SX
variable {val : Nat → Nat} {P : Program} {F : Nd → Option Nat}
section
variable {η : Env} {st : St} {w : World} {r : Operand → Option XV} {ρ : Operand → Value}

theorem op_store (hm : MR val η st w) (hr : RO val η r ρ) (t : TypeId) (x y : Operand) : ResOk val P η st w (do Instr.storeAt t (ρ x) (ρ y); pure .skip) (storeX P t st (r y) (sc1 r x)) := by
  cases hx : sc1 r x with
  | none => trivial
  | some s =>
    have hs := sc1_ok hr hx
    cases s with
    | ptr h o =>
      simp only [dS, Option.map_eq_some_iff] at hs
      obtain ⟨p, hp, hv⟩ := hs
      simp only [storeX]
      cases hc : cellsO (r y) with
      | none => trivial
      | some cs =>
        cases hn : sizeT P t with
        | none => trivial
        | some n =>
          simp only [storeX1]
          cases hb : Nat.beq cs.length n with
          | false => trivial
          | true =>
            simp only [cond_true]
            cases hw : writeN st h o cs with
            | none => trivial
            | some st' =>
              cases hy : r y with
              | none => rw [hy] at hc; cases hc
              | some v =>
                rw [hy] at hc
                obtain ⟨vs, d1, d2⟩ := cells_ok (hr y v hy) hc
                obtain ⟨q, T, cur, e1, e2, e3, e4, e5⟩ := hm.write d1 hw
                rw [hp] at e1; injection e1 with e1; subst e1
                have hl := dL_length d1
                simp only [beq_dec, decide_eq_true_eq] at hb
                refine ⟨η, _, run_u ?_, e5⟩
                rw [← hv]
                have h1 := dL_oneCell d1
                have hst : (storeCells ⟨p.b, p.o + o, none⟩ vs 0).run P w = .ok () (w.setRow p.b (cur.toList.take o ++ vs ++ cur.toList.drop (o + vs.length)).toArray) := by
                  by_cases hne : vs = []
                  · subst hne
                    simp only [storeCells, List.append_nil, List.length_nil, Nat.add_zero, List.take_append_drop, Array.toArray_toList]
                    rw [setRow_self w p.b cur T (0, 0) e3]
                    rfl
                  · have := run_storeCells_at P p.b o T vs 0 cur w e3 (by simpa using e4 hne) h1
                    simpa [e2] using this
                have hsz : (ρ y).cells.size = n := by rw [d2]; simp; omega
                simp [Instr.storeAt, Instr.sureAddr, storeVar, run_sizeOf hn, d2, hst, show vs.length = n by omega]
    | _ => trivial

/-- The parts of a literal, as forms and as values. -/
def PR (val : Nat → Nat) (η : Env) (ρ : Operand → Value) : List (Nat × Operand) → List (Nat × List SC) → Prop
  | [], [] => True
  | (i, x) :: l, (j, cs) :: m => (i = j ∧ ∃ vs, dL val η cs = some vs ∧ (ρ x).cells = vs.toArray) ∧ PR val η ρ l m
  | _, _ => False
theorem partsX_ok (hr : RO val η r ρ) : ∀ {l : List (Nat × Operand)} {ps : List (Nat × List SC)}, partsX r l = some ps → PR val η ρ l ps
  | [], ps, h => by simp [partsX] at h; subst h; trivial
  | (i, x) :: l, ps, h => by
    simp only [partsX] at h
    split at h
    · rename_i v m hv hm
      cases hc : v.cells with
      | none => rw [hc] at h; cases h
      | some cs =>
        rw [hc] at h
        injection h with h; subst h
        exact ⟨⟨rfl, cells_ok (hr x v hv) hc⟩, partsX_ok hr hm⟩
    · cases h

theorem foldl_set (vs : List Value) : ∀ (o j : Nat) (cur : Array Value), o + j + vs.length ≤ cur.size →
    ((vs.zipIdx j).foldl (fun cs (c, j) => cs.setIfInBounds (o + j) c) cur).toList = cur.toList.take (o + j) ++ vs ++ cur.toList.drop (o + j + vs.length) := by
  induction vs with
  | nil => intro o j cur _; simp
  | cons v vs ih =>
    intro o j cur h
    simp only [List.length_cons] at h
    simp only [List.zipIdx_cons, List.foldl_cons]
    rw [ih o (j + 1) _ (by simp; omega)]
    simp only [Array.toList_setIfInBounds]
    have e := list_seg_step cur.toList (o + j) v vs (by simp; omega)
    simpa [Nat.add_assoc, Nat.add_comm, Nat.add_left_comm] using e

theorem fillX_ok {place : Nat → Option (Nat × Nat)} : ∀ {l : List (Nat × Operand)} {ps : List (Nat × List SC)} {z z' : List SC} {cur : List Value},
    PR val η ρ l ps → dL val η z = some cur → fillX place z ps = some z' → ∃ cur', Instr.fill place cur.toArray (l.map fun (i, x) => (i, ρ x)) = some cur'.toArray ∧ dL val η z' = some cur'
  | [], [], z, z', cur, _, hz, h => by simp [fillX] at h; subst h; exact ⟨cur, rfl, hz⟩
  | [], _ :: _, z, z', cur, hp, hz, h => hp.elim
  | _ :: _, [], z, z', cur, hp, hz, h => hp.elim
  | (i, x) :: l, (j, cs) :: ps, z, z', cur, ⟨⟨h1, vs, d1, d2⟩, hl⟩, hz, h => by
    subst h1
    simp only [fillX] at h
    cases hp : place i with
    | none => rw [hp] at h; cases h
    | some q =>
      obtain ⟨off, size⟩ := q
      rw [hp] at h
      simp only at h
      cases hb : (Nat.beq cs.length size && Nat.ble (off + size) z.length) with
      | false => rw [hb] at h; cases h
      | true =>
        rw [hb] at h
        simp only [cond_true] at h
        cases hq : putAt z off cs with
        | none => rw [hq] at h; cases h
        | some z1 =>
          rw [hq] at h
          simp only [beq_dec, ble_dec, Bool.and_eq_true, decide_eq_true_eq] at hb
          have hd := dL_putAt hz d1 hq
          have hl1 := dL_length d1
          have hl2 := dL_length hz
          obtain ⟨cur', f1, f2⟩ := fillX_ok hl hd h
          refine ⟨cur', ?_, f2⟩
          simp only [List.map_cons, Instr.fill, hp, d2]
          rw [if_neg (by simp; omega), ← f1]
          congr 1
          have e := foldl_set vs off 0 cur.toArray (by simp; omega)
          apply Array.ext'
          simp only [Nat.add_zero] at e
          rw [← Array.foldl_toList, Array.toList_zipIdx]
          exact e

theorem run_places : ∀ {fs : List Field} {pl : List (Nat × Nat)}, placesX P fs = some pl →
    (fs.mapM fun f => (do pure (f.offset, ← sizeOf f.type) : Sem (Nat × Nat))).run P w = .ok pl w
  | [], pl, h => by simp [placesX] at h; subst h; simp
  | f :: fs, pl, h => by
    simp only [placesX] at h
    split at h
    · rename_i n m hn hm
      injection h with h; subst h
      have ih := run_places hm
      simp only [List.mapM_cons, Sem.run_bind, run_sizeOf hn w, Result.andThen_ok, Sem.run_pure]
      rw [ih]; rfl
    · cases h

theorem op_build (hm : MR val η st w) (hr : RO val η r ρ) (t : TypeId) (parts : Array (Nat × Operand)) :
    ResOk val P η st w (do pure (.value (← Instr.build t (parts.map fun (i, x) => (i, ρ x))))) (resA (buildX P t (zeroT P t) (partsX r parts.toList)) st) := by
  refine ok_resA hm fun l hl => ?_
  cases hz : zeroT P t with
  | none => rw [hz] at hl; cases hl
  | some z =>
    cases hp : partsX r parts.toList with
    | none => rw [hz, hp] at hl; cases hl
    | some ps =>
      rw [hz, hp] at hl
      obtain ⟨v, z1, z2⟩ := zeroT_ok (val := val) (η := η) hz w
      have hpr := partsX_ok hr hp
      simp only [buildX] at hl
      cases hu : P.underlying t with
      | none => rw [hu] at hl; cases hl
      | some d =>
        rw [hu] at hl
        have hmap : (parts.map fun (i, x) => (i, ρ x)).toList = parts.toList.map fun (i, x) => (i, ρ x) := by simp
        cases d with
        | array n e =>
          simp only [buildX1] at hl
          cases hs : sizeT P e with
          | none => rw [hs] at hl; cases hl
          | some m =>
            rw [hs] at hl
            obtain ⟨cur', f1, f2⟩ := fillX_ok hpr z2 hl
            refine ⟨cur', run_v ?_, f2⟩
            simp only [Array.toArray_toList] at f1
            simp only [Instr.build, Sem.run_bind, z1, Result.andThen_ok, run_underlying hu w, run_sizeOf hs w, hmap, f1]
            rfl
        | struct fs =>
          simp only [buildX1] at hl
          cases hs : placesX P fs.toList with
          | none => rw [hs] at hl; cases hl
          | some pl =>
            rw [hs] at hl
            obtain ⟨cur', f1, f2⟩ := fillX_ok hpr z2 hl
            refine ⟨cur', run_v ?_, f2⟩
            simp only [Array.toArray_toList] at f1
            have hpl : (fs.mapM fun f => (do pure (f.offset, ← sizeOf f.type) : Sem (Nat × Nat))).run P w = .ok pl.toArray w := by
              rw [Array.mapM_eq_mapM_toList, Sem.run_map, run_places hs]; rfl
            simp only [Instr.build, Sem.run_bind, z1, Result.andThen_ok, run_underlying hu w, hpl, hmap]
            have e : (fun x : Nat => pl.toArray[x]?) = fun x : Nat => pl[x]? := by funext x; simp
            rw [e, f1]
            rfl
        | _ => cases hl

theorem rep_zero {n len : Nat} {z : List SC} {zv : Array Value} (hz : dL val η z = some zv.toList) (hn : z.length = n) :
    dL val η (rep len z) = some ((Array.range (len * n)).map (fun i => zv[i % zv.size]!)).toList := by
  have hzs : zv.size = n := by have := dL_length hz; simpa [hn] using this
  have key : ∀ len, dL val η (rep len z) = some (List.replicate len zv.toList).flatten := by
    intro len
    induction len with
    | zero => rfl
    | succ k ih =>
      simp only [rep, List.replicate_succ, List.flatten_cons] at ih ⊢
      exact dL_append hz ih
  rw [key len]
  congr 1
  apply List.ext_getElem
  · simp [hzs]
  · intro i h1 h2
    have hi : i < len * n := by simpa [hzs] using h2
    have hn0 : 0 < n := by rcases Nat.eq_zero_or_pos n with h | h; (subst h; simp at hi); exact h
    have e : (List.replicate len zv.toList).flatten[i]? = zv[i % n]? := by
      clear h1 h2
      induction len generalizing i with
      | zero => simp at hi
      | succ k ih =>
        simp only [List.replicate_succ, List.flatten_cons]
        by_cases hlt : i < n
        · rw [List.getElem?_append_left (by simpa [hzs] using hlt), Nat.mod_eq_of_lt hlt]; simp
        · rw [List.getElem?_append_right (by simp [hzs]; omega)]
          simp only [Array.length_toList, hzs]
          rw [ih (i - n) (by rw [Nat.succ_mul] at hi; omega), ← Nat.mod_eq_sub_mod (by omega)]
    have hm : i % n < zv.size := by rw [hzs]; exact Nat.mod_lt _ hn0
    rw [List.getElem?_eq_getElem h1, Array.getElem?_eq_getElem hm] at e
    injection e with e
    rw [e]
    have hm' : i % zv.size < zv.size := by rw [hzs]; rw [hzs] at hm; exact hm
    simp only [hzs, Array.getElem_toList, Array.getElem_map, Array.getElem_range]
    rw [getElem!_pos zv (i % n) hm]

theorem op_buildSlice (hm : MR val η st w) (hr : RO val η r ρ) (t : TypeId) (len : Nat) (parts : Array (Nat × Operand)) :
    ResOk val P η st w (do pure (.value (← Instr.buildSlice t len (parts.map fun (i, x) => (i, ρ x))))) (resNew .rw st (.sl · 0 len len) (buildSl P len (P.underlying t) (partsX r parts.toList))) := by
  refine ok_new (mkV := fun a _ => .slice (some a) len len) hm (fun η' p n e e0 => by simp [dS, e, e0]) fun l hl => ?_
  cases hu : P.underlying t with
  | none => rw [hu] at hl; cases hl
  | some d =>
    rw [hu] at hl
    cases d with
    | slice e =>
      cases hp : partsX r parts.toList with
      | none => rw [hp] at hl; cases hl
      | some ps =>
        rw [hp] at hl
        simp only [buildSl] at hl
        cases hs : sizeT P e with
        | none => rw [hs] at hl; cases hl
        | some n =>
          cases hz : zeroT P e with
          | none => rw [hs, hz] at hl; cases hl
          | some z =>
            rw [hs, hz] at hl
            simp only [buildSl1] at hl
            cases hb : (Nat.ble (len * n) 65536 && Nat.beq z.length n) with
            | false => rw [hb] at hl; cases hl
            | true =>
              rw [hb] at hl
              simp only [cond_true] at hl
              simp only [beq_dec, ble_dec, Bool.and_eq_true, decide_eq_true_eq] at hb
              obtain ⟨v, z1, z2⟩ := zeroT_ok (val := val) (η := η) hz w
              have hpr := partsX_ok hr hp
              have hrep := rep_zero (len := len) (zv := v.cells) z2 hb.2
              obtain ⟨cur', f1, f2⟩ := fillX_ok hpr hrep hl
              refine ⟨cur', e, f2, run_v ?_⟩
              have hmap : (parts.map fun (i, x) => (i, ρ x)).toList = parts.toList.map fun (i, x) => (i, ρ x) := by simp
              simp only [Array.toArray_toList] at f1
              by_cases h0 : len * n = 0
              · have f1' : Instr.fill (fun i => some (i * n, n)) ((Array.range (len * n)).map (fun x => (#[] : Array Value)[x % (#[] : Array Value).size]!)) (parts.toList.map fun (i, x) => (i, ρ x)) = some cur'.toArray := by
                  rw [← f1, h0, show Array.range 0 = #[] by simp [Array.range]]; simp
                simp only [Instr.buildSlice, Sem.run_bind, run_underlying hu w, Result.andThen_ok, run_sizeOf hs w]
                rw [if_neg (by omega), if_pos h0]
                simp only [Sem.run_pure, Sem.run_bind, Result.andThen_ok, hmap, f1']
                simp [newRow]
              · simp only [Instr.buildSlice, Sem.run_bind, run_underlying hu w, Result.andThen_ok, run_sizeOf hs w]
                rw [if_neg (by omega), if_neg h0]
                simp only [Sem.run_pure, Sem.run_bind, Result.andThen_ok, z1, hmap, f1]
                simp [newRow]
    | _ => cases hl
end
end Go.SX
