/- The contracts of Salsa20's cores, whatever the program, from one closed run each. -/
import Derived.Test.YtopoejfnbnejpaaX10
import Derived.Test.YtopoejfnbnejpaaXT2
namespace Go.SX.Sal
open Go.RowKit
variable {P : Program}

theorem valB_congr {v v' : Nat → Nat} (a n : Nat) (h : ∀ i, a ≤ i → i < a + n → v i % 256 = v' i % 256) : valB v a n = valB v' a n := by
  induction n generalizing a with
  | zero => rfl
  | succ n ih =>
    simp only [valB]
    rw [h a (Nat.le_refl _) (by omega), ih (a + 1) fun i h1 h2 => h i (by omega) (by omega)]
theorem V_valB (inp : Nat → Nat) (a n : Nat) (h : a + n ≤ 128) : valB (V inp) a n = valB inp a n := valB_congr a n fun i _ hi => by rw [V_low inp i (by omega)]
theorem V_F (inp : Nat → Nat) : Sat (V inp) F := (V_sat inp).sat tabU

noncomputable def stS : St := ⟨Tr.nil.set 3 ⟨.ro, symB 0 64⟩, 10⟩
noncomputable def stC : St := ⟨(Tr.nil.set 3 ⟨.ro, symB 0 64⟩).set 4 ⟨.rw, symB 64 64⟩, 10⟩

theorem mr_S (inp : Nat → Nat) (b o cap : Nat) (w : World) (hb : b < w.heap.size) (hc : ∀ j u, (valB inp 0 64)[j]? = some u → w.cell? ⟨b, o + j, none⟩ = some u) :
    MR (V inp) (env0.upd 3 ⟨b, o, cap⟩) stS w :=
  (MR.nil w).add (g := 3) (B := ⟨.ro, symB 0 64⟩) (p := ⟨b, o, cap⟩) (by decide) rfl (dL_symB env0 64 0) ⟨hb, fun i v hv => hc i v (by rw [← V_valB inp 0 64 (by decide)]; exact hv)⟩
    (fun g' B' p' hg => by simp [st00, Tr.get_nil] at hg)

theorem gl0 (η : Env) : GL 0 η := fun g hg => by omega

/-- A function of 64 bytes (and what else) that hands back 64 bytes. -/
theorem slice_of_run (hmix : P.follows .mixedOrders = true) {f : FuncId} {as : List XV} {vs : List Value} {o' fuel : Nat} (run : isSl (subB o' 4 0 64) 64 (callX P F 0 noSum fuel f (.s (.slc 3 0 64) :: as) stS) = true)
    (inp : Nat → Nat) (has : ∀ η, dXs (V inp) η as = some vs) (b o cap : Nat) (hcap : 64 ≤ cap) (w : World) (hb : b < w.heap.size) (hc : ∀ j u, (valB inp 0 64)[j]? = some u → w.cell? ⟨b, o + j, none⟩ = some u) :
    Calls P f (.slice (some ⟨b, o, none⟩) 64 cap :: vs).toArray w fun e w' => ∃ g p c, e = .returned (.slice (some ⟨g, p, none⟩) 64 c) ∧ (∀ j u, (outB (V inp) o' 4 0 64)[j]? = some u → w'.cell? ⟨g, p + j, none⟩ = some u) ∧ Below w.heap.size w w' := by
  obtain ⟨v, st', hr, hval⟩ := isSl_ok run
  have hd : dXs (V inp) (env0.upd 3 ⟨b, o, cap⟩) (.s (.slc 3 0 64) :: as) = some (.slice (some ⟨b, o, none⟩) 64 cap :: vs) := by
    simp [dXs, dX, dA, dS, Env.upd, hcap, has]
  refine ((callX_ok (V_F inp) hmix noSum_ok fuel f _ _ v st' hr _ w _ hd (mr_S inp b o cap w hb hc) (gl0 _)).2).mono ?_
  rintro e w' ⟨η', x, rfl, hx, hs⟩
  obtain ⟨g, p, c, hx', hcell⟩ := hval η' w' x _ hs.mr hx (dL_subB η' o' 4 64 0)
  refine ⟨g, p, c, by rw [hx'], hcell, hs.kp.below (Nat.le_refl _) ?_⟩
  rintro k hk ⟨h, B, q, hB, hK, _⟩
  simp only [stS, Tr.get_set, Tr.get_nil] at hB
  split at hB
  · injection hB with hB; subst hB; exact hK rfl
  · cases hB

/-- Core208: 64 bytes into 64 bytes. -/
theorem core208_of_run (hmix : P.follows .mixedOrders = true) {f : FuncId} {o' fuel : Nat} (run : isMem 4 (subB o' 4 0 64) 64 (callX P F 0 noSum fuel f [.s (.ptr 4 0), .s (.ptr 3 0)] stC) = true)
    (inp : Nat → Nat) (g b o : Nat) (T : TypeId) (w : World) (hne : b ≠ g) (hto : w.heap[g]? = some (.cells (valB inp 64 64).toArray T (0, 0))) (hb : b < w.heap.size) (hc : ∀ j u, (valB inp 0 64)[j]? = some u → w.cell? ⟨b, o + j, none⟩ = some u) :
    Calls P f #[.pointer (some ⟨g, 0, none⟩), .pointer (some ⟨b, o, none⟩)] w fun e w' => e = .returned (.tuple #[]) ∧ (∃ T', w'.heap[g]? = some (.cells (outB (V inp) o' 4 0 64).toArray T' (0, 0))) ∧ KP (fun k => k = g) w w' := by
  obtain ⟨st', hr, hval⟩ := isMem_ok run
  have hm : MR (V inp) ((env0.upd 3 ⟨b, o, 64⟩).upd 4 ⟨g, 0, 64⟩) stC w :=
    (mr_S inp b o 64 w hb hc).add (g := 4) (B := ⟨.rw, symB 64 64⟩) (p := ⟨g, 0, 64⟩) (by decide) rfl (dL_symB _ 64 64) ⟨rfl, T, by rw [V_valB inp 64 64 (by decide)]; exact hto⟩
      (fun g' B' p' hg hp => by
        simp only [Env.upd] at hp
        split at hp
        · injection hp with hp; subst hp; exact hne
        · cases hp)
  have hd : dXs (V inp) ((env0.upd 3 ⟨b, o, 64⟩).upd 4 ⟨g, 0, 64⟩) [.s (.ptr 4 0), .s (.ptr 3 0)] = some [.pointer (some ⟨g, 0, none⟩), .pointer (some ⟨b, o, none⟩)] := by
    simp [dXs, dX, dA, dS, Env.upd]
  refine ((callX_ok (V_F inp) hmix noSum_ok fuel f _ _ _ st' hr _ w _ hd hm (gl0 _)).2).mono ?_
  rintro e w' ⟨η', x, rfl, hx, hs⟩
  simp only [dX, dAs, Option.map_some, Option.some.injEq] at hx
  subst hx
  refine ⟨rfl, ?_, hs.kp.os, hs.kp.tape, hs.kp.output, hs.kp.size, fun k hk hn => hs.kp.block k hk ?_⟩
  · obtain ⟨p, vs, e1, e2, e3⟩ := hs.mr.blk 4 _ hval
    have e4 : η' 4 = some ⟨g, 0, 64⟩ := hs.le _ _ (by simp [Env.upd])
    rw [e4] at e1; injection e1 with e1; subst e1
    have e5 := dL_subB (val := V inp) η' o' 4 64 0
    rw [e5] at e2; injection e2 with e2; subst e2
    obtain ⟨_, T', h⟩ := e3
    exact ⟨T', h⟩
  · rintro ⟨h, B, q, hB, hK, hq, rfl⟩
    simp only [stC, Tr.get_set, Tr.get_nil] at hB
    split at hB
    · rename_i e; subst e
      simp [Env.upd] at hq
      subst hq; exact hn rfl
    · split at hB
      · injection hB with hB; subst hB; exact hK rfl
      · cases hB
end Go.SX.Sal
