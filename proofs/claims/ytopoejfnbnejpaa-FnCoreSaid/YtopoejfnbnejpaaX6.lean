/- Code and calls, but for regions that draw their order. -/
import Derived.Test.YtopoejfnbnejpaaX5e
import Derived.LoopN
namespace Go.SX
variable {val : Nat → Nat} {P : Program} {F : Nd → Option Nat} {ng : Nat}

/-- What a frame's slots hold. -/
structure FR (val : Nat → Nat) (η : Env) (fr : Fr) (a : Act) : Prop where
  size : a.tmps.size = fr.size
  defers : a.defers = []
  slot : ∀ t v, fr.tmps.get t = some v → dX val η v = some (a.tmps.getD t undef)
theorem FR.mono {η η' : Env} {fr : Fr} {a : Act} (h : FR val η fr a) (hη : η.le η') : FR val η' fr a :=
  ⟨h.size, h.defers, fun t v ht => dX_mono hη (h.slot t v ht)⟩
/-- The package's variables lie at their places. -/
def GL (ng : Nat) (η : Env) : Prop := ∀ g, g < ng → ∃ c, η g = some ⟨g, 0, c⟩
theorem GL.mono {η η' : Env} (h : GL ng η) (hη : η.le η') : GL ng η' := fun g hg => let ⟨c, e⟩ := h g hg; ⟨c, hη _ _ e⟩

theorem FR.put {η : Env} {fr fr' : Fr} {a : Act} (h : FR val η fr a) {d : Option Tmp} {v : XV} {x : Value} (hx : dX val η v = some x) (hp : fr.put d v = some fr') : FR val η fr' (a.put d x) := by
  cases d with
  | none => simp only [Fr.put, Option.some.injEq] at hp; subst hp; exact h
  | some d =>
    simp only [Fr.put] at hp
    cases hb : Nat.blt d fr.size with
    | false => rw [hb] at hp; cases hp
    | true =>
      rw [hb] at hp
      simp only [cond_true, Option.some.injEq] at hp; subst hp
      have hlt : d < a.tmps.size := by rw [h.size]; simpa using hb
      refine ⟨by simp [Act.put, h.size], h.defers, fun t u hu => ?_⟩
      simp only [Tr.get_set] at hu
      split at hu
      · rename_i e; subst e
        injection hu with hu; subst hu
        simp [Act.put, Array.getD, hlt, hx]
      · rename_i e
        have := h.slot t u hu
        rw [this]
        simp only [Act.put, Array.getD_eq_getD_getElem?, Array.getElem?_setIfInBounds_ne (fun h => e h.symm)]
theorem Fr.putO_ok {fr fr' : Fr} {d : Option Tmp} {v : XV} {st st' : St} (h : fr.putO d v st = some (fr', st')) : fr.put d v = some fr' ∧ st' = st := by
  unfold Fr.putO at h
  cases hp : fr.put d v with
  | none => rw [hp] at h; cases h
  | some f => rw [hp] at h; simp only [Option.some.injEq, Prod.mk.injEq] at h; exact ⟨by rw [h.1], h.2.symm⟩

theorem avOf_ok {η : Env} {v : Value} {a : AV} (h : avOf v = some a) : dA val η a = some v := by
  unfold avOf at h
  split at h
  · rename_i cs
    simp only [Option.map_eq_some_iff] at h
    obtain ⟨l, h1, rfl⟩ := h
    simp [dA, scsOf_ok h1]
  · simp only [Option.map_eq_some_iff] at h
    obtain ⟨s, h1, rfl⟩ := h
    exact scOf_ok h1
theorem FR.eval {η : Env} {fr : Fr} {a : Act} (h : FR val η fr a) (hg : GL ng η) : RO val η (fr.eval ng) a.eval := by
  intro x v hv
  cases x with
  | tmp t => exact h.slot t v hv
  | const c =>
    simp only [Fr.eval] at hv
    cases ha : avOf c with
    | none => rw [ha] at hv; cases hv
    | some b => rw [ha] at hv; injection hv with hv; subst hv; exact avOf_ok ha
  | global g =>
    simp only [Fr.eval] at hv
    cases hb : Nat.blt g ng with
    | false => rw [hb] at hv; cases hv
    | true =>
      rw [hb] at hv; injection hv with hv; subst hv
      obtain ⟨c, e⟩ := hg g (by simpa using hb)
      simp [dX, dA, dS, e, Act.eval]
  | func f => simp only [Fr.eval, Option.some.injEq] at hv; subst hv; rfl

theorem guardX_ok {η : Env} {fr : Fr} {a : Act} (h : FR val η fr a) {ops : Array Oper} {o : Oper} {b : Bool} (hg : guardX ops fr o = some b) : Region.wanted o (yielded ops a.tmps) = b := by
  unfold guardX at hg
  unfold Region.wanted
  split at hg
  · rename_i e; rw [e]; simpa using hg
  · rename_i j want e
    rw [e]
    simp only
    cases hj : ops[j]? with
    | none => rw [hj] at hg; cases hg
    | some oj =>
      rw [hj] at hg
      simp only [guardO] at hg
      cases hd : oj.dst with
      | none => rw [hd] at hg; cases hg
      | some d =>
        rw [hd] at hg
        simp only at hg
        have hy : yielded ops a.tmps j = match a.tmps[d]? with | some (.bool b) => some b | _ => none := by
          simp [yielded, hj, hd]
          rfl
        rw [hy]
        cases ht : fr.tmps.get d with
        | none => rw [ht] at hg; cases hg
        | some v =>
          have hs := h.slot d v ht
          rw [ht] at hg
          unfold guardV at hg
          split at hg
          · rename_i b' hv
            injection hv with hv; subst hv
            injection hg with hg; subst hg
            have e2 : a.tmps.getD d undef = .bool b' := by simpa [dX, dA, dS, eq_comm] using hs
            rw [Array.getD_eq_getD_getElem?] at e2
            cases hq : a.tmps[d]? with
            | none => rw [hq] at e2; simp [undef] at e2
            | some u => rw [hq] at e2; simp at e2; subst e2; simp
          · rename_i hv
            injection hv with hv; subst hv
            injection hg with hg; subst hg
            have e2 : a.tmps.getD d undef = undef := by simpa [dX, eq_comm] using hs
            rw [Array.getD_eq_getD_getElem?] at e2
            cases hq : a.tmps[d]? with
            | none => simp
            | some u => rw [hq] at e2; simp at e2; subst e2; simp [undef]
          · cases hg

/-- What the executor says of calls is so. -/
def CallOk (val : Nat → Nat) (P : Program) (ng : Nat) (call : CallT) : Prop :=
  ∀ f args st v st', call f args st = some (v, st') → ∀ (η : Env) (w : World) (vs : List Value), dXs val η args = some vs → MR val η st w → GL ng η →
    (∀ w : World, (callFunc f vs.toArray).run P w = .ok (.enter f vs.toArray) w) ∧
    Calls P f vs.toArray w fun e w' => ∃ η' x, e = .returned x ∧ dX val η' v = some x ∧ STP val η st w η' st' w'

theorem resPut_ok (hS : Sat val F) {call : CallT} (hcall : CallOk val P ng call) {o : Oper} {fr fr' : Fr} {st st' : St} {r : Operand → Option XV} {η : Env} {w : World} {a : Act}
    (h : resPut call o.dst fr (opX P F r st o.op) = some (fr', st')) (hm : MR val η st w) (hgl : GL ng η) (hr : RO val η r a.eval)
    {K : Act → World → Prop} {Q : Exit → Act → World → Prop}
    (hk : ∀ η' v x w', STP val η st w η' st' w' → fr.put o.dst v = some fr' → dX val η' v = some x → K (a.put o.dst x) w') : o.wp P a w K Q := by
  have hop := opX_ok (P := P) hS hm hr o
  unfold Oper.wp
  cases hres : opX P F r st o.op with
  | no => rw [hres] at h; cases h
  | val v s1 =>
    rw [hres] at h hop
    obtain ⟨e1, rfl⟩ := Fr.putO_ok h
    obtain ⟨η', x, w', h1, h2, h3⟩ := hop
    rw [h1]
    exact hk η' v x w' h3 e1 h2
  | unit s1 =>
    rw [hres] at h hop
    obtain ⟨e1, rfl⟩ := Fr.putO_ok h
    obtain ⟨η', w', h1, h3⟩ := hop
    rw [h1]
    exact hk η' .undef undef w' h3 e1 rfl
  | call f args s1 =>
    rw [hres] at h hop
    obtain ⟨rfl, vs, h1, h2⟩ := hop
    simp only [resPut] at h
    cases hc : call f args s1 with
    | none => rw [hc] at h; cases h
    | some q =>
      obtain ⟨v, s2⟩ := q
      rw [hc] at h
      simp only [putC] at h
      obtain ⟨e1, rfl⟩ := Fr.putO_ok h
      obtain ⟨c1, c2⟩ := hcall f args _ v _ hc η w vs h1 hm hgl
      rw [h2, c1 w]
      refine Calls.mono c2 fun e w' ⟨η', x, he, hx, hs⟩ => ?_
      subst he
      exact hk η' v x w' hs e1 hx

theorem opGo_ok (hS : Sat val F) {call : CallT} (hcall : CallOk val P ng call) {o : Oper} {fr fr' : Fr} {st st' : St} {g : Option Bool} {η : Env} {w : World} {a : Act} {ops : Array Oper}
    (h : opGo P F ng call o fr st g = some (fr', st')) (hg : g = guardX ops fr o) (hm : MR val η st w) (hgl : GL ng η) (hf : FR val η fr a)
    {K : Act → World → Prop} {Q : Exit → Act → World → Prop} (hk : ∀ η' a' w', FR val η' fr' a' → STP val η st w η' st' w' → K a' w') :
    if Region.wanted o (yielded ops a.tmps) then o.wp P a w K Q else K (a.put o.dst undef) w := by
  cases g with
  | none => cases h
  | some b =>
    have hw := guardX_ok hf hg.symm
    rw [hw]
    cases b with
    | true =>
      simp only [if_true]
      simp only [opGo] at h
      exact resPut_ok hS hcall h hm hgl (hf.eval hgl) fun η' v x w' hs hp hx => hk η' _ w' ((hf.mono hs.le).put hx hp) hs
    | false =>
      simp only [Bool.false_eq_true, if_false]
      simp only [opGo] at h
      obtain ⟨e1, rfl⟩ := Fr.putO_ok h
      exact hk η _ w (hf.put (x := undef) rfl e1) (STP.refl hm)

theorem opsGo_ok (hS : Sat val F) {call : CallT} (hcall : CallOk val P ng call) {ops : Array Oper} {Q : Exit → Act → World → Prop} :
    ∀ (l : List Oper) {fr fr' : Fr} {st st' : St} {η : Env} {w : World} {a : Act}, opsGo P F ng call ops l fr st = some (fr', st') → MR val η st w → GL ng η → FR val η fr a →
      (∀ η' a' w', FR val η' fr' a' → STP val η st w η' st' w' → Q .normal a' w') → wpList P ops Q l a w
  | [], fr, fr', st, st', η, w, a, h, hm, hgl, hf, hq => by
    simp only [opsGo, Option.some.injEq, Prod.mk.injEq] at h
    obtain ⟨rfl, rfl⟩ := h
    exact hq η a w hf (STP.refl hm)
  | o :: l, fr, fr', st, st', η, w, a, h, hm, hgl, hf, hq => by
    change thenO (opsGo P F ng call ops l) (opGo P F ng call o fr st (guardX ops fr o)) = some (fr', st') at h
    cases h1 : opGo P F ng call o fr st (guardX ops fr o) with
    | none => rw [h1] at h; cases h
    | some q =>
      obtain ⟨fr1, st1⟩ := q
      rw [h1] at h
      simp only [thenO] at h
      refine wpList_step fun K hK => opGo_ok hS hcall h1 rfl hm hgl hf fun η1 a1 w1 hf1 hs1 => hK a1 w1 ?_
      exact opsGo_ok hS hcall l h hs1.mr (hgl.mono hs1.le) hf1 fun η' a' w' hf' hs' => hq η' a' w' hf' (hs1.trans hs')

/-! ### results -/
theorem cellR_ok {η : Env} {st : St} {w : World} (hm : MR val η st w) {t : TypeId} {u : XV} {v : XV} {x : Value} (hx : dX val η u = some x) (h : cellR P st t (some u) = some v) :
    ∃ y, (do loadVar t (← asAddr x) : Sem Value).run P w = .ok y w ∧ dX val η v = some y := by
  unfold cellR at h
  split at h
  · rename_i h' o e
    injection e with e; subst e
    simp only [dX, dA, dS, Option.map_eq_some_iff] at hx
    obtain ⟨p, hp, rfl⟩ := hx
    cases ha : isAggT P t with
    | none => rw [ha] at h; cases h
    | some b =>
      rw [ha] at h
      cases b with
      | true =>
        simp only [cellB] at h
        cases hn : sizeT P t with
        | none => rw [hn] at h; cases h
        | some n =>
          rw [hn] at h
          simp only [aggN] at h
          cases hr : readN st h' o n with
          | none => rw [hr] at h; cases h
          | some l =>
            rw [hr] at h; injection h with h; subst h
            obtain ⟨q, vs, e1, e2, e3, e4⟩ := hm.read hr
            rw [hp] at e1; injection e1 with e1; subst e1
            have hld := run_loadCells_list (P := P) w ⟨p.b, p.o + o, none⟩ vs (fun j v hv => by rw [Addr.add_lit]; exact e4 j v hv)
            refine ⟨.agg vs.toArray, ?_, by simp [dX, dA, e2]⟩
            simp [asAddr, loadVar, run_isAgg ha w, run_sizeOf hn, ← e3, hld]
      | false =>
        simp only [cellB] at h
        cases hr : readN st h' o 1 with
        | none => rw [hr] at h; cases h
        | some l =>
          rw [hr] at h
          unfold oneS at h
          split at h
          · rename_i s hs
            injection hs with hs; subst hs
            injection h with h; subst h
            obtain ⟨q, vs, e1, e2, e3, e4⟩ := hm.read hr
            rw [hp] at e1; injection e1 with e1; subst e1
            obtain ⟨y, d1, d2⟩ := dL_get (i := 0) e2 rfl
            have hc := e4 0 y d1
            simp only [Nat.add_zero] at hc
            exact ⟨y, by simp [asAddr, loadVar, run_isAgg ha w, hc], d2⟩
          · cases h
  · cases h

theorem resX_ok {η : Env} {fr : Fr} {st : St} {w : World} {a : Act} (hm : MR val η st w) (hf : FR val η fr a) : ∀ {l : List ResultVar} {vs : List XV}, resX P fr st l = some vs →
    ∃ xs, (l.mapM fun | .tmp t => pure (a.tmps.getD t undef) | .cell b t => do loadVar t (← asAddr (a.tmps.getD b undef)) : Sem (List Value)).run P w = .ok xs w ∧ dXs val η vs = some xs
  | [], vs, h => by simp only [resX, Option.some.injEq] at h; subst h; exact ⟨[], by simp, rfl⟩
  | r :: l, vs, h => by
    simp only [resX] at h
    cases hv : resV P fr st r with
    | none => rw [hv] at h; cases h
    | some v =>
      cases hl : resX P fr st l with
      | none => rw [hv, hl] at h; cases h
      | some us =>
        rw [hv, hl] at h; injection h with h; subst h
        obtain ⟨xs, h1, h2⟩ := resX_ok hm hf hl
        cases r with
        | tmp t =>
          have := hf.slot t v hv
          refine ⟨a.tmps.getD t undef :: xs, ?_, by simp [dXs, this, h2]⟩
          simp only [List.mapM_cons, Sem.run_bind, Sem.run_pure, Result.andThen_ok, h1]
        | cell b t =>
          simp only [resV] at hv
          cases hb : fr.tmps.get b with
          | none => rw [hb] at hv; cases hv
          | some u =>
            rw [hb] at hv
            obtain ⟨y, y1, y2⟩ := cellR_ok (P := P) hm (hf.slot b u hb) hv
            refine ⟨y :: xs, ?_, by simp [dXs, y2, h2]⟩
            simp only [List.mapM_cons]
            rw [Sem.run_bind, y1]
            simp only [Result.andThen_ok, Sem.run_bind, h1, Sem.run_pure]

theorem avs_ok {η : Env} : ∀ {l : List XV} {as : List AV} {xs : List Value}, avs l = some as → dXs val η l = some xs → dAs val η as = some xs
  | [], as, xs, h, hd => by simp [avs] at h; subst h; simpa [dXs, dAs] using hd
  | v :: l, as, xs, h, hd => by
    cases v <;> simp only [avs] at h <;> try (cases h; done)
    rename_i a
    cases hl : avs l with
    | none => rw [hl] at h; cases h
    | some m =>
      rw [hl] at h; injection h with h; subst h
      simp only [dXs, Option.bind_eq_some_iff, Option.map_eq_some_iff] at hd
      obtain ⟨x, h1, ys, h2, rfl⟩ := hd
      have h1' : dA val η a = some x := h1
      simp [dAs, h1', avs_ok hl h2]

theorem results_ok {η : Env} {fr : Fr} {st st' : St} {w : World} {a : Act} {fn : Func} {v : XV} (hm : MR val η st w) (hf : FR val η fr a) (h : retV st (resX P fr st fn.results.toList) = some (v, st')) :
    st' = st ∧ ∃ x, (results fn a.tmps).run P w = .ok x w ∧ dX val η v = some x := by
  cases hr : resX P fr st fn.results.toList with
  | none => rw [hr] at h; cases h
  | some l =>
    rw [hr] at h
    simp only [retV] at h
    cases ho : resOne l with
    | none => rw [ho] at h; cases h
    | some u =>
      rw [ho] at h
      simp only [Option.some.injEq, Prod.mk.injEq] at h
      obtain ⟨rfl, rfl⟩ := h
      refine ⟨rfl, ?_⟩
      obtain ⟨xs, h1, h2⟩ := resX_ok (P := P) hm hf hr
      have hmap : (fn.results.mapM fun | .tmp t => pure (a.tmps.getD t undef) | .cell b t => do loadVar t (← asAddr (a.tmps.getD b undef)) : Sem (Array Value)).run P w = .ok xs.toArray w := by
        rw [Array.mapM_eq_mapM_toList, Sem.run_map]
        rw [h1]; rfl
      have hrun : (results fn a.tmps).run P w = .ok (if h : xs.toArray.size = 1 then xs.toArray[0] else .tuple xs.toArray) w := by
        unfold results
        rw [Sem.run_bind]
        exact (congrArg (fun r : Result (Array Value) => r.andThen fun a w' => Sem.run P (pure (if h : a.size = 1 then a[0] else Value.tuple a)) w') hmap).trans rfl
      rw [hrun]
      match l, h2, ho with
      | [], h2, ho =>
        simp only [dXs, Option.some.injEq] at h2; subst h2
        simp only [resOne, avs, tupO, Option.some.injEq] at ho; subst ho
        exact ⟨_, rfl, by simp [dX, dAs]⟩
      | [x], h2, ho =>
        simp only [resOne, Option.some.injEq] at ho; subst ho
        simp only [dXs, Option.bind_eq_some_iff, Option.map_eq_some_iff] at h2
        obtain ⟨y, y1, _, y2, rfl⟩ := h2
        injection y2 with y2; subst y2
        exact ⟨y, by simp, y1⟩
      | x :: y :: l, h2, ho =>
        simp only [resOne] at ho
        cases ha : avs (x :: y :: l) with
        | none => rw [ha] at ho; cases ho
        | some m =>
          rw [ha] at ho; injection ho with ho; subst ho
          have h3 := avs_ok ha h2
          have hlen : xs.length ≠ 1 := by
            simp only [dXs, Option.bind_eq_some_iff, Option.map_eq_some_iff] at h2
            obtain ⟨_, _, _, ⟨_, _, _, _, rfl⟩, rfl⟩ := h2
            simp
          refine ⟨.tuple xs.toArray, by simp [hlen], by simp [dX, h3]⟩
end Go.SX
