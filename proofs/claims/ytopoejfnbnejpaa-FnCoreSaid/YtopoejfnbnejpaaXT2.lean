/- The table of the words of Salsa20's core is in order: there are such words for any 64 bytes. -/
import Derived.Test.YtopoejfnbnejpaaXT
import Derived.KernelRfl
namespace Go.SX.Sal
set_option maxRecDepth 100000
theorem tabOk_tab : tabOk tabD 128 2200 = true := by kernel_rfl
theorem closedT_tab : closedT tabD 64 2200 = true := by kernel_rfl
/-- The words that come of 64 bytes. -/
noncomputable def V (inp : Nat → Nat) : Nat → Nat := Classical.choose (tab_val tabOk_tab inp)
theorem V_low (inp : Nat → Nat) (i : Nat) (h : i < 128) : V inp i = inp i := (Classical.choose_spec (tab_val tabOk_tab inp)).1 i h
theorem V_sat (inp : Nat → Nat) : SatD (V inp) tabD := (Classical.choose_spec (tab_val tabOk_tab inp)).2
theorem V_congr {inp inp' : Nat → Nat} (h : ∀ i, i < 64 → inp i = inp' i) (r : Nat) (n : Nd) (hr : tabD.get r = some n) : V inp r = V inp' r :=
  tab_uniq tabOk_tab closedT_tab (V_sat inp) (V_sat inp') (fun i hi => by rw [V_low inp i (by omega), V_low inp' i (by omega), h i hi]) r n hr
end Go.SX.Sal
