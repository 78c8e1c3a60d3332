/- laws.FnCore: for every input the call returns true, and the argument reads as it did. -/
import Derived.Test.YtopoejfnbnejpaaXF
import Derived.ProofKit
namespace Go.Proofs.Ytopoejfnbnejpaa
open Go.ChangeShapes Go.WideShapes Go.ChangeAt Go.RowKit

theorem Try.own : ownKnob Try.prog.godebug = none := by kernel_rfl
theorem Try.laidOut : laidOutB Try.prog = true := by kernel_rfl
theorem Try.cells5 : Try.prog.cellsOf 5 = 1 := by kernel_rfl

theorem byte_wf {x : Int} (h : (Lit.int .u8 x).wf = true) : 0 ≤ x ∧ x < 256 := by
  have h1 : IntKind.u8.min = 0 := rfl
  have h2 : IntKind.u8.max = 255 := rfl
  simp only [Lit.wf, Bool.and_eq_true, decide_eq_true_eq] at h
  omega

/-- An argument of bytes, opened. -/
theorem opened_u8 {H : Type} {enc : TypeId × Value → H} {P : Program} {t e : TypeId} (ht : P.underlying t = some (.slice e)) (he : P.underlying e = some (.int .u8)) (hc : P.cellsOf e = 1) {W : World} {a0 : Option Addr} {len cap : Nat} {d0 : DataW H} {p : List MemPlace}
    (h0 : DataW.Trod enc P W 0 (fun _ => true) true t (.slice a0 len cap) d0 p) :
    ∃ xs : List Int, xs.length = len ∧ len ≤ cap ∧ cap ≤ maxLen ∧ (∀ x ∈ xs, 0 ≤ x ∧ x < 256) ∧ (0 < len → ∃ b o, a0 = some ⟨b, o, none⟩ ∧ ∀ i, i < len → W.cell? ⟨b, o + i, none⟩ = some (.int .u8 (xs.getD i 0))) := by
  obtain ⟨fuel, hf⟩ := h0
  rcases open_ints ht he hc hf with ⟨hcs, hx⟩ | ⟨a, len', cap', zs, hcs, _, hl, hm, hz, hx, hcell, hwz⟩
  · simp [Value.cells] at hcs
    obtain ⟨rfl, rfl, rfl⟩ := hcs
    exact ⟨[], rfl, Nat.le_refl _, Nat.zero_le _, (fun _ h => by cases h), fun h => by omega⟩
  · simp [Value.cells] at hcs
    obtain ⟨rfl, rfl, rfl⟩ := hcs
    simp only [if_true] at hz
    refine ⟨zs.take len, by simp; omega, hl, hm, (fun x hx' => byte_wf (hwz x (List.mem_of_mem_take hx'))), fun hpos => ?_⟩
    obtain ⟨b, off, s⟩ := a
    obtain rfl : s = none := by simpa [Addr.add] using World.cell?_spot (hcell 0 (by omega))
    refine ⟨b, off, rfl, fun i hi => ?_⟩
    have := hcell i (by omega)
    rw [add_plain] at this
    rw [this]
    simp [List.getD, hi]

theorem fnCore_any (a0 : Option Addr) (len cap : Nat) (xs : List Int) (hx : xs.length = len) (hl : len ≤ cap) (hr : ∀ x ∈ xs, 0 ≤ x ∧ x < 256) (W : World)
    (hc : 0 < len → ∃ b o, a0 = some ⟨b, o, none⟩ ∧ ∀ i, i < len → W.cell? ⟨b, o + i, none⟩ = some (.int .u8 (xs.getD i 0))) :
    Calls Try.prog 3 #[.slice a0 len cap] W fun e w' => e = .returned (.bool true) ∧ Below W.heap.size W w' := by
  by_cases h : len = 64
  · subst h
    obtain ⟨b, o, rfl, hcell⟩ := hc (by decide)
    exact fnCore_64 xs (by omega) hr b o cap hl W hcell
  · exact (fnCore_else a0 len cap h W).mono fun e w' ⟨h1, h2⟩ => ⟨h1, by rw [h2]; exact Below.refl _ _⟩

set_option maxHeartbeats 800000 in
set_option maxRecDepth 100000 in
theorem fnCore_lifted (os : Os) (started : os.Started) (H : Type) (enc : TypeId × Value → H) :
    ReturnsInHanded {} Try.checked os 3 .any (Rows.fnCoreSpec.pre6 enc Try.prog Try.f3 Rows.fnCoreRow.domain false) (Rows.fnCoreSpec.post enc Try.prog Try.f3 false true false false) := by
  refine returnsInHanded_of_change (C := Try.checked) Try.own started (by kernel_rfl) Try.func3
    (ChangeSpec.witness6 (enc := enc) (C := Try.checked) false ⟨#[], #[.slice none 0 0], []⟩ 8 (by kernel_rfl) (by kernel_rfl) (by kernel_rfl) (by kernel_rfl)) ?_
  intro W base args ds gs before hval0 hW _ _
  have hval : ∀ (j : Nat) t v, Try.f3.params[j]? = some t → args[j]? = some v → Value.okWide Try.prog W .any base t v := hval0
  have hW' := hW
  obtain ⟨p, q, hA0, hV, rfl, _, _⟩ := hW
  have hA : DataW.TrodAll enc Try.prog W 0 (fun _ => true) true Try.f3.params.toList args.toList ds p := hA0
  rw [Try.params3] at hA hval
  obtain ⟨v0, d0, rfl, rfl, h0⟩ := trodAll_one hA
  obtain ⟨rfl, rfl⟩ := trodVars_none hV
  obtain ⟨a0, len0, cap0, rfl⟩ := okWide_slice Try.underlying22 (hval 0 22 v0 rfl rfl)
  clear hA0 hval0
  simp only [List.append_nil] at hW'
  obtain ⟨xs, hx, hl, _, hr, hcell⟩ := opened_u8 Try.underlying22 Try.underlying5 Try.cells5 h0
  refine (fnCore_any a0 len0 cap0 xs hx hl hr W hcell).mono fun e W' ⟨he, hB⟩ => ?_
  subst he
  have harg0 := Below.trod Try.laidOut (by kernel_rfl) (of_decide_eq_true (by kernel_rfl)) h0 hB (fun x hx => by simpa using hW'.lt x hx)
  exact ⟨_, rfl, _, _, _, [], p, [], hW', trodAll_mk1 (shut_bool Try.underlying4 true), trodAll_mk1 harg0, rfl, hB.frame _, fun h => by cases h⟩

theorem fnCore_holds : Rows.FnCoreSaid :=
  OpenClaim.holds_of_wide 3 Try.f3 rfl rfl rfl rfl rfl rfl rfl ⟨rfl, rfl, rfl, rfl, rfl⟩ rfl rfl rfl rfl rfl (by kernel_rfl) Try.func3 (by kernel_rfl)
    (of_decide_eq_true (by kernel_rfl)) (by unfold Func.isWrapper; rw [if_neg (by decide +kernel)]; exact ⟨rfl, rfl⟩)
    (fun os started H enc _ => fnCore_lifted os started H enc)

#print axioms fnCore_holds
end Go.Proofs.Ytopoejfnbnejpaa
