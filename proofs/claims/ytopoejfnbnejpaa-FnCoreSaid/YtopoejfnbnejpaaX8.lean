/- Code and calls: what the executor comes to, the model comes to. -/
import Derived.Test.YtopoejfnbnejpaaX7b
import Derived.LoopN
namespace Go.SX
variable {val : Nat → Nat} {P : Program} {F : Nd → Option Nat} {ng : Nat}

def exitOf : Out → Exit
  | .normal => .normal
  | .exit id => .exit id
  | .ret => .ret

def Post (val : Nat → Nat) (η : Env) (st : St) (w : World) (out : Out) (fr' : Fr) (st' : St) (Q : Exit → Act → World → Prop) : Prop :=
  ∀ η' a' w', FR val η' fr' a' → STP val η st w η' st' w' → Q (exitOf out) a' w'

def RunOk (val : Nat → Nat) (P : Program) (ng : Nat) (n : Nat) (run : Code → Fr → St → Option (Out × Fr × St)) : Prop :=
  ∀ c fr st out fr' st' η w a, run c fr st = some (out, fr', st') → MR val η st w → GL ng η → FR val η fr a →
    ∀ Q, Post val η st w out fr' st' Q → c.wp P Q a w ∧ ∀ x, c = .loop x → Code.rounds P x Q n a w

theorem run_callFunc_enter {f : FuncId} {fn : Func} {c : Code} (hf : P.funcs[f]? = some fn) (hb : fn.body = some c) (hname : (fn.name == "runtime.NumGoroutine") = false) (args : Array Value) (w : World) :
    (callFunc f args).run P w = .ok (.enter f args) w := by
  have h : ¬ fn.name = "runtime.NumGoroutine" := by simpa using hname
  simp [callFunc, hf, h, hb]

theorem initT_get {η : Env} : ∀ {l : List XV} {vs : List Value} {i : Nat} {t : Tr XV} {k : Nat} {v : XV}, dXs val η l = some vs → (initT i l t).get k = some v →
    (k < i ∧ t.get k = some v) ∨ (i + l.length ≤ k ∧ t.get k = some v) ∨ ∃ j x, k = i + j ∧ vs[j]? = some x ∧ dX val η v = some x
  | [], vs, i, t, k, v, _, h => by
    simp only [initT] at h
    by_cases hk : k < i
    · exact .inl ⟨hk, h⟩
    · exact .inr (.inl ⟨by simp; omega, h⟩)
  | u :: l, vs, i, t, k, v, hd, h => by
    simp only [dXs, Option.bind_eq_some_iff, Option.map_eq_some_iff] at hd
    obtain ⟨x, h1, ys, h2, rfl⟩ := hd
    simp only [initT] at h
    rcases initT_get h2 h with ⟨hk, hg⟩ | ⟨hk, hg⟩ | ⟨j, y, hk, hy, hv⟩
    · rw [Tr.get_set] at hg
      split at hg
      · rename_i e; subst e
        injection hg with hg; subst hg
        exact .inr (.inr ⟨0, x, rfl, by simp, h1⟩)
      · exact .inl ⟨by omega, hg⟩
    · rw [Tr.get_set, if_neg (by omega)] at hg
      exact .inr (.inl ⟨by simp; omega, hg⟩)
    · exact .inr (.inr ⟨j + 1, y, by omega, by simpa using hy, hv⟩)

theorem startX_ok {η : Env} {fn : Func} {args : List XV} {vs : List Value} (h : dXs val η args = some vs) :
    FR val η (startX fn args) { tmps := vs.toArray ++ Array.replicate (fn.ntmps - vs.toArray.size) undef, defers := [] } := by
  have hlen : vs.length = args.length := by
    clear fn
    induction args generalizing vs with
    | nil => simp [dXs] at h; subst h; rfl
    | cons u l ih =>
      simp only [dXs, Option.bind_eq_some_iff, Option.map_eq_some_iff] at h
      obtain ⟨x, h1, ys, h2, rfl⟩ := h
      simp [ih h2]
  refine ⟨?_, rfl, fun t v ht => ?_⟩
  · simp only [startX, Array.size_append, Array.size_replicate, List.size_toArray, hlen]
    change _ = max _ _
    omega
  · rcases initT_get h ht with ⟨_, hg⟩ | ⟨_, hg⟩ | ⟨j, x, hk, hx, hv⟩
    · cases hg
    · cases hg
    · have : t = j := by omega
      subst this
      have hlt : t < vs.length := (List.getElem?_eq_some_iff.1 hx).1
      rw [hv]
      congr 1
      have : (vs.toArray ++ Array.replicate (fn.ntmps - vs.toArray.size) undef)[t]? = some x := by
        rw [Array.getElem?_append_left (by simpa using hlt)]
        simpa using hx
      rw [Array.getD_eq_getD_getElem?]
      simp only [] at this ⊢
      rw [this]; rfl

theorem callGo_ok {n : Nat} {run : Code → Fr → St → Option (Out × Fr × St)} (hrun : RunOk val P ng n run) {sm : CallT} (hsm : CallOk val P ng sm) : CallOk val P ng (callGo sm run P) := by
  intro f args st v st' h η w vs hd hm hgl
  unfold callGo at h
  cases hs : sm f args st with
  | some q => rw [hs] at h; simp only [orR] at h; rw [h] at hs; exact hsm f args st v st' hs η w vs hd hm hgl
  | none =>
    rw [hs] at h
    simp only [orR] at h
    cases hf : P.funcs[f]? with
    | none => rw [hf] at h; cases h
    | some fn =>
      rw [hf] at h
      simp only [callF] at h
      cases hb : fn.body with
      | none => rw [hb] at h; cases h
      | some c =>
        rw [hb] at h
        simp only [callB1] at h
        cases hn : (fn.name == "runtime.NumGoroutine") with
        | true => rw [hn] at h; cases h
        | false =>
          rw [hn] at h
          simp only [cond_false] at h
          refine ⟨fun w => run_callFunc_enter hf hb hn _ w, ?_⟩
          cases hr : run c (startX fn args) st with
          | none => rw [hr] at h; cases h
          | some q =>
            obtain ⟨out, fr', st1⟩ := q
            rw [hr] at h
            refine calls_of_wp hf hb ((hrun c _ st out fr' st1 η w _ hr hm hgl (startX_ok hd) _ ?_).1)
            intro η' a' w' hf' hs'
            cases out with
            | exit id => cases h
            | normal =>
              simp only [retX] at h
              obtain ⟨e1, x, x1, x2⟩ := results_ok (P := P) hs'.mr hf' h
              subst e1
              exact ⟨hf'.defers, x, x1, η', x, rfl, x2, hs'⟩
            | ret =>
              simp only [retX] at h
              obtain ⟨e1, x, x1, x2⟩ := results_ok (P := P) hs'.mr hf' h
              subst e1
              exact ⟨hf'.defers, x, x1, η', x, rfl, x2, hs'⟩

theorem boolO_ok {η : Env} {v : Option XV} {t : Bool} {x : Value} (h : boolO v = some t) (hx : ∀ u, v = some u → dX val η u = some x) : x = .bool t := by
  unfold boolO at h
  split at h
  · rename_i b
    injection h with h; subst h
    simpa [dX, dA, dS, eq_comm] using hx _ rfl
  · cases h

theorem stepX_ok (hS : Sat val F) (hmix : P.follows .mixedOrders = true) {sm : CallT} (hsm : CallOk val P ng sm) {n : Nat} {run : Code → Fr → St → Option (Out × Fr × St)} (hrun : RunOk val P ng n run) :
    RunOk val P ng (n + 1) (stepX P F ng sm run) := by
  intro c fr st out fr' st' η w a h hm hgl hf Q hQ
  cases c <;> simp only [stepX] at h <;> try (cases h; done)
  case skip =>
    simp only [Option.some.injEq, Prod.mk.injEq] at h
    obtain ⟨rfl, rfl, rfl⟩ := h
    exact ⟨wp_skip (hQ η a w hf (STP.refl hm)), fun x hx => by cases hx⟩
  case label l =>
    simp only [Option.some.injEq, Prod.mk.injEq] at h
    obtain ⟨rfl, rfl, rfl⟩ := h
    exact ⟨wp_label (hQ η a w hf (STP.refl hm)), fun x hx => by cases hx⟩
  case exit id =>
    simp only [Option.some.injEq, Prod.mk.injEq] at h
    obtain ⟨rfl, rfl, rfl⟩ := h
    exact ⟨wp_exit (hQ η a w hf (STP.refl hm)), fun x hx => by cases hx⟩
  case ret =>
    simp only [Option.some.injEq, Prod.mk.injEq] at h
    obtain ⟨rfl, rfl, rfl⟩ := h
    exact ⟨wp_ret (hQ η a w hf (STP.refl hm)), fun x hx => by cases hx⟩
  case region id ops d =>
    refine ⟨?_, fun x hx => by cases hx⟩
    have hc := callGo_ok hrun hsm
    cases d with
    | true =>
      simp only [cond_true] at h
      cases hg : drawAll P F ng (callGo sm run P) ops fr st with
      | none => rw [hg] at h; cases h
      | some q =>
        obtain ⟨fr1, st1⟩ := q
        rw [hg] at h
        simp only [outRegion, Option.some.injEq, Prod.mk.injEq] at h
        obtain ⟨rfl, rfl, rfl⟩ := h
        refine wp_mono (Q := fun e a' w' => e = .normal ∧ Q .normal a' w') (drawAll_ok hS hc hmix (fun c a w h => by cases h.1) hg hm hgl hf fun η' a' w' hf' hs' => ⟨rfl, hQ η' a' w' hf' hs'⟩) ?_
        rintro e a w ⟨rfl, h⟩
        exact h
    | false =>
      simp only [cond_false] at h
      cases hg : opsGo P F ng (callGo sm run P) ops ops.toList fr st with
      | none => rw [hg] at h; cases h
      | some q =>
        obtain ⟨fr1, st1⟩ := q
        rw [hg] at h
        simp only [outRegion, Option.some.injEq, Prod.mk.injEq] at h
        obtain ⟨rfl, rfl, rfl⟩ := h
        exact wp_region_list (opsGo_ok hS hc ops.toList hg hm hgl hf fun η' a' w' hf' hs' => hQ η' a' w' hf' hs')
  case block id x =>
    refine ⟨?_, fun x hx => by cases hx⟩
    cases hg : run x fr st with
    | none => rw [hg] at h; cases h
    | some q =>
      obtain ⟨o1, fr1, st1⟩ := q
      rw [hg] at h
      refine wp_block ((hrun x fr st o1 fr1 st1 η w a hg hm hgl hf _ ?_).1)
      intro η' a' w' hf' hs'
      cases o1 with
      | normal =>
        simp only [outBlock, Option.some.injEq, Prod.mk.injEq] at h
        obtain ⟨rfl, rfl, rfl⟩ := h
        exact hQ η' a' w' hf' hs'
      | ret =>
        simp only [outBlock, Option.some.injEq, Prod.mk.injEq] at h
        obtain ⟨rfl, rfl, rfl⟩ := h
        exact hQ η' a' w' hf' hs'
      | exit id' =>
        simp only [outBlock, beq_dec] at h
        by_cases e : id' = id
        · simp only [e, decide_true, cond_true, Option.some.injEq, Prod.mk.injEq] at h
          obtain ⟨rfl, rfl, rfl⟩ := h
          simp only [exitOf, Exit.inBlock, e, if_true]
          exact hQ η' a' w' hf' hs'
        · simp only [e, decide_false, cond_false, Option.some.injEq, Prod.mk.injEq] at h
          obtain ⟨rfl, rfl, rfl⟩ := h
          simp only [exitOf, Exit.inBlock, e, if_false]
          exact hQ η' a' w' hf' hs'
  case seq x y =>
    refine ⟨?_, fun x hx => by cases hx⟩
    cases hg : run x fr st with
    | none => rw [hg] at h; cases h
    | some q =>
      obtain ⟨o1, fr1, st1⟩ := q
      rw [hg] at h
      refine wp_seq ((hrun x fr st o1 fr1 st1 η w a hg hm hgl hf _ ?_).1)
      intro η' a' w' hf' hs'
      cases o1 with
      | normal =>
        simp only [thenX] at h
        exact (hrun y fr1 st1 out fr' st' η' w' a' h hs'.mr (hgl.mono hs'.le) hf' Q fun η2 a2 w2 hf2 hs2 => hQ η2 a2 w2 hf2 (hs'.trans hs2)).1
      | ret =>
        simp only [thenX, Option.some.injEq, Prod.mk.injEq] at h
        obtain ⟨rfl, rfl, rfl⟩ := h
        exact hQ η' a' w' hf' hs'
      | exit id =>
        simp only [thenX, Option.some.injEq, Prod.mk.injEq] at h
        obtain ⟨rfl, rfl, rfl⟩ := h
        exact hQ η' a' w' hf' hs'
  case cond x y z =>
    refine ⟨?_, fun x hx => by cases hx⟩
    cases hb : boolO (fr.eval ng x) with
    | none => rw [hb] at h; cases h
    | some t =>
      rw [hb] at h
      simp only [condX] at h
      have hx := boolO_ok (val := val) (η := η) (x := a.eval x) hb (fun u hu => hf.eval hgl x u hu)
      refine wp_cond hx ?_
      have := (hrun _ fr st out fr' st' η w a h hm hgl hf Q hQ).1
      cases t <;> exact this
  case loop x =>
    have key : Code.rounds P x Q (n + 1) a w := by
      rw [rounds_succ]
      cases hg : run x fr st with
      | none => rw [hg] at h; cases h
      | some q =>
        obtain ⟨o1, fr1, st1⟩ := q
        rw [hg] at h
        refine (hrun x fr st o1 fr1 st1 η w a hg hm hgl hf _ ?_).1
        intro η' a' w' hf' hs'
        cases o1 with
        | normal =>
          simp only [thenX] at h
          exact (hrun (.loop x) fr1 st1 out fr' st' η' w' a' h hs'.mr (hgl.mono hs'.le) hf' Q fun η2 a2 w2 hf2 hs2 => hQ η2 a2 w2 hf2 (hs'.trans hs2)).2 x rfl
        | ret =>
          simp only [thenX, Option.some.injEq, Prod.mk.injEq] at h
          obtain ⟨rfl, rfl, rfl⟩ := h
          exact hQ η' a' w' hf' hs'
        | exit id =>
          simp only [thenX, Option.some.injEq, Prod.mk.injEq] at h
          obtain ⟨rfl, rfl, rfl⟩ := h
          exact hQ η' a' w' hf' hs'
    exact ⟨wp_loop_rounds _ key, fun y hy => by cases hy; exact key⟩

theorem runX_ok (hS : Sat val F) (hmix : P.follows .mixedOrders = true) {sm : CallT} (hsm : CallOk val P ng sm) : ∀ n, RunOk val P ng n (runX P F ng sm n)
  | 0 => fun c fr st out fr' st' η w a h => by cases h
  | n + 1 => stepX_ok hS hmix hsm (runX_ok hS hmix hsm n)

/-- What the executor says of a call is so. -/
theorem callX_ok (hS : Sat val F) (hmix : P.follows .mixedOrders = true) {sm : CallT} (hsm : CallOk val P ng sm) (n : Nat) : CallOk val P ng (callX P F ng sm n) :=
  callGo_ok (runX_ok hS hmix hsm n) hsm

theorem noSum_ok : CallOk val P ng noSum := fun f args st v st' h => by cases h
end Go.SX
