/- The walk of laws.FnCore. -/
import Derived.Test.YtopoejfnbnejpaaXR
import Derived.Test.YtopoejfnbnejpaaRows
import Derived.WalkKit
import Derived.WalkSpells
import Derived.WalkLawsBesides
import Derived.Laws.BytesArg
namespace Go.Proofs.Ytopoejfnbnejpaa
open Go.RowKit Go.SX Go.SX.Sal

/-- The numbers of the 64 bytes. -/
def inpOf (zs : List Int) (i : Nat) : Nat := (zs.getD i 0).toNat
noncomputable def outs (zs : List Int) : List Int := (List.range 64).map fun i => ((outN (V (inpOf zs)) 528 4 i : Nat) : Int)

theorem outs_get (zs : List Int) (i : Nat) (h : i < 64) : (outB (V (inpOf zs)) 528 4 0 64)[i]? = some (.int .u8 ((outs zs).getD i 0)) := by
  rw [outB_get, if_pos h, Nat.zero_add]
  congr 2
  simp [outs, List.getD, h]

theorem cells_in (zs : List Int) (h64 : 64 ≤ zs.length) (hr : ∀ x ∈ zs, 0 ≤ x ∧ x < 256) (b o : Nat) (w : World) (hc : ∀ i, i < 64 → w.cell? ⟨b, o + i, none⟩ = some (.int .u8 (zs.getD i 0))) :
    ∀ j u, (valB (inpOf zs) 0 64)[j]? = some u → w.cell? ⟨b, o + j, none⟩ = some u := by
  intro j u hu
  rw [valB_get] at hu
  split at hu
  · rename_i hj
    injection hu with hu
    rw [hc j hj, ← hu]
    have hm : zs.getD j 0 ∈ zs := by
      have : j < zs.length := by omega
      simp [List.getD, List.getElem?_eq_getElem this]
    have := hr _ hm
    simp only [Nat.zero_add, inpOf]
    congr 2
    omega
  · cases hu

theorem impl_at (zs : List Int) (h64 : 64 ≤ zs.length) (hr : ∀ x ∈ zs, 0 ≤ x ∧ x < 256) (b o cap : Nat) (hcap : 64 ≤ cap) (w : World) (hc : ∀ i, i < 64 → w.cell? ⟨b, o + i, none⟩ = some (.int .u8 (zs.getD i 0))) :
    Calls Try.prog 4 #[.slice (some ⟨b, o, none⟩) 64 cap] w fun e w' => ∃ g p c, e = .returned (.slice (some ⟨g, p, none⟩) 64 c) ∧ (∀ i, i < 64 → w'.cell? ⟨g, p + i, none⟩ = some (.int .u8 ((outs zs).getD i 0))) ∧ Below w.heap.size w w' :=
  (slice_of_run mixed run_impl8 (inpOf zs) (vs := []) (fun _ => rfl) b o cap hcap w (World.block_lt_of_cell? _ _ (hc 0 (by decide))) (cells_in zs h64 hr b o w hc)).mono
    fun e w' ⟨g, p, c, h1, h2, h3⟩ => ⟨g, p, c, h1, fun i hi => h2 i _ (outs_get zs i hi), h3⟩
theorem spec_at (zs : List Int) (h64 : 64 ≤ zs.length) (hr : ∀ x ∈ zs, 0 ≤ x ∧ x < 256) (b o cap : Nat) (hcap : 64 ≤ cap) (w : World) (hc : ∀ i, i < 64 → w.cell? ⟨b, o + i, none⟩ = some (.int .u8 (zs.getD i 0))) :
    Calls Try.prog 6 #[.slice (some ⟨b, o, none⟩) 64 cap, .int .i64 8] w fun e w' => ∃ g p c, e = .returned (.slice (some ⟨g, p, none⟩) 64 c) ∧ (∀ i, i < 64 → w'.cell? ⟨g, p + i, none⟩ = some (.int .u8 ((outs zs).getD i 0))) ∧ Below w.heap.size w w' :=
  (slice_of_run mixed run_spec8 (inpOf zs) (vs := [.int .i64 8]) (fun _ => rfl) b o cap hcap w (World.block_lt_of_cell? _ _ (hc 0 (by decide))) (cells_in zs h64 hr b o w hc)).mono
    fun e w' ⟨g, p, c, h1, h2, h3⟩ => ⟨g, p, c, h1, fun i hi => h2 i _ (outs_get zs i hi), h3⟩

/-- laws.same of slices with the same bytes. -/
theorem same_at (xs : List Int) (n : Nat) (hn : xs.length = n) (b o c b' o' c' : Nat) (w : World) (h1 : ∀ i, i < n → w.cell? ⟨b, o + i, none⟩ = some (.int .u8 (xs.getD i 0))) (h2 : ∀ i, i < n → w.cell? ⟨b', o' + i, none⟩ = some (.int .u8 (xs.getD i 0))) :
    Calls Try.prog 5 #[.slice (some ⟨b, o, none⟩) n c, .slice (some ⟨b', o', none⟩) n c'] w fun e w' => e = .returned (.bool true) ∧ w' = w := by
  have e1 := run_convert_bytes_arg (P := Try.prog) w 22 5 Try.underlying22 Try.underlying5 b o n c xs hn h1 9 Try.underlying9
  have e2 := run_convert_bytes_arg (P := Try.prog) w 22 5 Try.underlying22 Try.underlying5 b' o' n c' xs hn h2 9 Try.underlying9
  go_enter Try.func5, Try.ntmps5
  go_wp2
  go_ret
  exact ⟨by simp, rfl⟩

set_option maxHeartbeats 400000 in
theorem fnCore_64 (zs : List Int) (h64 : 64 ≤ zs.length) (hr : ∀ x ∈ zs, 0 ≤ x ∧ x < 256) (b o cap : Nat) (hcap : 64 ≤ cap) (w : World) (hc : ∀ i, i < 64 → w.cell? ⟨b, o + i, none⟩ = some (.int .u8 (zs.getD i 0))) :
    Calls Try.prog 3 #[.slice (some ⟨b, o, none⟩) 64 cap] w fun e w' => e = .returned (.bool true) ∧ Below w.heap.size w w' := by
  have hb : b < w.heap.size := World.block_lt_of_cell? _ _ (hc 0 (by decide))
  go_enter Try.func3, Try.ntmps3
  go_wp2_with (go_at_call 4; refine (impl_at zs h64 hr b o cap hcap w hc).mono ?_; rintro e w1 ⟨g, p, c, rfl, hg, hB1⟩)
  have hc1 : ∀ i, i < 64 → w1.cell? ⟨b, o + i, none⟩ = some (.int .u8 (zs.getD i 0)) := fun i hi => by rw [hB1.cell hb]; exact hc i hi
  go_wp2_with (go_at_call 6; refine (spec_at zs h64 hr b o cap hcap w1 hc1).mono ?_; rintro e w2 ⟨g2, p2, c2, rfl, hg2, hB2⟩)
  have hgl : g < w1.heap.size := World.block_lt_of_cell? _ _ (hg 0 (by decide))
  go_wp2_with (go_at_call 5; go_loud (refine (same_at (outs zs) 64 (by simp [outs]) g p c g2 p2 c2 w2 (fun i hi => by rw [hB2.cell hgl]; exact hg i hi) hg2).mono ?_); rintro e w3 ⟨rfl, rfl⟩)
  go_wp2
  go_ret
  exact ⟨rfl, hB1.trans (hB2.mono hB1.size)⟩

set_option maxHeartbeats 400000 in
theorem fnCore_else (a : Option Addr) (len cap : Nat) (hne : len ≠ 64) (w : World) :
    Calls Try.prog 3 #[.slice a len cap] w fun e w' => e = .returned (.bool true) ∧ w' = w := by
  have hne' : ¬ ((len : Int) = 64) := by omega
  by_cases h1 : (len : Int) > 2147483647
  · go_enter Try.func3, Try.ntmps3
    go_wp2
    go_ret
    exact ⟨rfl, rfl⟩
  · go_enter Try.func3, Try.ntmps3
    go_wp2
    go_ret
    exact ⟨by simp, rfl⟩
end Go.Proofs.Ytopoejfnbnejpaa
