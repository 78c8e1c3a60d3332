/- A region that draws its order and whose operations only read. -/
import Derived.Test.YtopoejfnbnejpaaX7
import Derived.Deep.Quiet
namespace Go.SX
variable {val : Nat → Nat} {P : Program} {F : Nd → Option Nat} {ng : Nat}

theorem edgesLt_ok {i : Nat} : ∀ {l : List Edge}, edgesLt i l = true → ∀ e ∈ l, Region.binds .any e = true → e.on < i
  | [], _, e, he, _ => by cases he
  | x :: l, h, e, he, hb => by
    simp only [edgesLt, Bool.and_eq_true] at h
    rcases List.mem_cons.1 he with rfl | he
    · have := h.1; rw [hb] at this; simpa using this
    · exact edgesLt_ok h.2 e he hb
theorem apartAll_ok {ops : Array Oper} {k : Nat} {o : Oper} : ∀ {l : List Oper}, apartAll ops k o l = true → ∀ x ∈ l, (∀ e ∈ x.after, Region.binds .any e = true → e.on ≠ k) → o.apart ops x = true
  | [], _, x, hx, _ => by cases hx
  | y :: l, h, x, hx, hno => by
    simp only [apartAll, Bool.and_eq_true, Bool.or_eq_true] at h
    rcases List.mem_cons.1 hx with rfl | hx
    · rcases h.1 with h1 | h1
      · obtain ⟨e, e1, e2, e3⟩ := hasEdge_ok h1
        exact absurd e3 (hno e (by simpa using e1) e2)
      · exact h1
    · exact apartAll_ok h.2 x hx hno

theorem wpAnyQ_lexG {C : World → Prop} {ops : Array Oper} {Q : Act → Prop} (hs : ∀ (j : Nat) (o : Oper) cs b, ops[j]? = some o → o.op ≠ .select cs b) : ∀ (l : List Oper) (k : Nat) (listed : Array Bool) (a : Act), (∀ j, l[j]? = ops[k + j]?) →
    listed.size = ops.size → (∀ j, j < ops.size → listed.getD j false = decide (j < k)) → lexG ops k l = true → wpQuiet P ops C Q l a → wpAnyQ P .any ops C Q l.length listed a
  | [], k, listed, a, hl, hsz, hg, _, h => by
    refine ⟨List.eq_nil_iff_forall_not_mem.2 fun j hj => ?_, h⟩
    obtain ⟨h0, o, ho, _⟩ := mem_ready.1 hj
    have hlt : j < ops.size := (Array.getElem?_eq_some_iff.1 ho).1
    have hk : ops.size ≤ k := by
      have := hl 0
      simp only [List.getElem?_nil, Nat.add_zero] at this
      simpa using this.symm
    have := hg j hlt
    rw [decide_eq_true (by omega)] at this
    have hj2 : j < listed.size := by omega
    simp [Array.getD, hj2] at h0 this
    rw [h0] at this; cases this
  | o :: l, k, listed, a, hl, hsz, hg, hB, h => by
    have h0 : ops[k]? = some o := by simpa using (hl 0).symm
    have hk : k < ops.size := (Array.getElem?_eq_some_iff.1 h0).1
    simp only [lexG, Bool.and_eq_true] at hB
    obtain ⟨⟨he, hf⟩, hB'⟩ := hB
    have hst : qOp P ops C k (wpQuiet P ops C Q l) a := by unfold qOp; simp only [h0]; exact h
    obtain ⟨v, hy, hK⟩ := yieldsIn_of_qOp h0 hst
    have getT : ∀ j, j < ops.size → listed.getD j true = decide (j < k) := fun j hj => by
      have := hg j hj
      have hj2 : j < listed.size := by omega
      simp [Array.getD, hj2] at this ⊢
      exact this
    refine wpAnyQ_first h0 hs l.length listed a ?_ ?_ hy (wpAnyQ_lexG hs l (k + 1) _ _ (fun j => by have := hl (j + 1); simpa [Nat.add_assoc, Nat.add_comm 1 j] using this) (by simpa using hsz) ?_ hB' hK)
    · intro j oj hj hne hun hno
      have hjl : j < ops.size := (Array.getElem?_eq_some_iff.1 hj).1
      rw [getT j hjl] at hun
      simp only [decide_eq_false_iff_not, Nat.not_lt] at hun
      have := hl (j - k)
      rw [Nat.add_sub_cancel' hun, hj] at this
      have hmem : oj ∈ l := by
        have h1 : (o :: l)[j - k]? = some oj := this
        have h2 : j - k = (j - k - 1) + 1 := by omega
        rw [h2] at h1
        exact List.mem_of_getElem? (by simpa using h1)
      exact apartAll_ok hf oj hmem hno
    · refine mem_ready.2 ⟨by rw [getT k hk]; simp, o, h0, fun e hem hb => ?_⟩
      have := edgesLt_ok he e (by simpa using hem) hb
      rw [hg e.on (by omega)]; simpa using this
    · intro j hj
      by_cases e : k = j
      · subst e
        have : k < listed.size := by omega
        simp [Array.getD, this]
      · rw [getD_set_ne false e, hg j hj]
        congr 1
        apply propext
        omega

theorem allQ_sel : ∀ {l : List Oper}, allQ l = true → ∀ (j : Nat) (o : Oper) cs b, l[j]? = some o → o.op ≠ .select cs b
  | [], _, j, o, cs, b, hj => by simp at hj
  | x :: l, h, j, o, cs, b, hj => by
    simp only [allQ, Bool.and_eq_true] at h
    cases j with
    | zero =>
      simp only [List.getElem?_cons_zero, Option.some.injEq] at hj
      subst hj
      intro e
      rw [e] at h; simp [isQ] at h
    | succ j => exact allQ_sel h.2 j o cs b (by simpa using hj)

theorem load_ok {η : Env} {st : St} {r : Operand → Option XV} {ρ : Operand → Value} (hr : RO val η r ρ) {t : TypeId} {x : Operand} {v : XV} (h : valR (loadX P t st (sc1 r x)) = some v) {w : World} (hm : MR val η st w) :
    ∃ z, (do pure (.value (← Instr.loadAt t (ρ x))) : Sem Next).run P w = .ok (.value z) w ∧ dX val η v = some z := by
  cases hx : sc1 r x with
  | none => rw [hx] at h; cases h
  | some s =>
    have hs := sc1_ok hr hx
    rw [hx] at h
    cases s with
    | ptr g o =>
      simp only [dS, Option.map_eq_some_iff] at hs
      obtain ⟨p, hp, hv⟩ := hs
      simp only [loadX] at h
      cases ha : isAggT P t with
      | none => rw [ha] at h; cases h
      | some b =>
        rw [ha] at h
        cases b with
        | true =>
          simp only [loadB] at h
          cases hn : sizeT P t with
          | none => rw [hn] at h; cases h
          | some n =>
            rw [hn] at h
            simp only [loadAgg] at h
            cases hl : readN st g o n with
            | none => rw [hl] at h; cases h
            | some l =>
              rw [hl] at h
              simp only [resA, valR, Option.some.injEq] at h
              subst h
              obtain ⟨q, vs, e1, e2, e3, e4⟩ := hm.read hl
              rw [hp] at e1; injection e1 with e1; subst e1
              refine ⟨.agg vs.toArray, run_v ?_, by simp [dX, dA, e2]⟩
              have hld := run_loadCells_list (P := P) w ⟨p.b, p.o + o, none⟩ vs (fun j v hv => by rw [Addr.add_lit]; exact e4 j v hv)
              rw [← hv]
              simp [Instr.loadAt, Instr.sureAddr, loadVar, run_isAgg ha w, run_sizeOf hn, ← e3, hld]
        | false =>
          simp only [loadB] at h
          cases hl : one (readN st g o 1) with
          | none => rw [hl] at h; cases h
          | some s =>
            rw [hl] at h
            simp only [resS, valR, Option.some.injEq] at h
            subst h
            obtain ⟨q, vs, e1, e2, e3, e4⟩ := hm.read (one_ok hl)
            rw [hp] at e1; injection e1 with e1; subst e1
            obtain ⟨v, d1, d2⟩ := dL_get (i := 0) e2 rfl
            have hc := e4 0 v d1
            refine ⟨v, run_v ?_, d2⟩
            rw [← hv]
            simp only [Nat.add_zero] at hc
            simp [Instr.loadAt, Instr.sureAddr, loadVar, run_isAgg ha w, hc]
    | _ => cases h

/-- What is read: the same in every world that the state stands for. -/
theorem readX_ok (hS : Sat val F) {η : Env} {st : St} {r : Operand → Option XV} {ρ : Operand → Value} (hr : RO val η r ρ) (o : Oper) {v : XV} (h : readX P F r st o.op = some v) {w0 : World} (h0 : MR val η st w0) :
    ∃ x, dX val η v = some x ∧ ∀ w, MR val η st w → (execOp ρ o).run P w = .ok (.value x) w := by
  have all : (∀ w, MR val η st w → ∃ x, (execOp ρ o).run P w = .ok (.value x) w ∧ dX val η v = some x) → ∃ x, dX val η v = some x ∧ ∀ w, MR val η st w → (execOp ρ o).run P w = .ok (.value x) w := fun h => by
    obtain ⟨x, _, h1⟩ := h w0 h0
    refine ⟨x, h1, fun w hw => ?_⟩
    obtain ⟨y, h2, h3⟩ := h w hw
    rw [h1] at h3; injection h3 with h3; rw [h3]; exact h2
  have pur : pureX P F r o.op = some v → ∃ x, dX val η v = some x ∧ ∀ w, MR val η st w → (execOp ρ o).run P w = .ok (.value x) w := fun h => by
    obtain ⟨x, h1, h2⟩ := pureX_ok hS hr o h
    exact ⟨x, h1, fun w _ => h2 w⟩
  obtain ⟨dst, op, type, pos, after, guard⟩ := o
  cases op <;> simp only [readX] at h <;> try exact pur h
  case load t x => exact all fun w hw => load_ok hr h hw
  case convert src dst x =>
    apply all
    intro w hw
    simp only [conv3] at h
    cases hb : (!Nat.beq src dst && isSomeT (P.underlying src)) with
    | false => rw [hb] at h; cases h
    | true =>
      rw [hb] at h
      simp only [cond_true] at h
      simp only [Bool.and_eq_true] at hb
      cases hc : conv1 F (P.underlying dst) (sc1 r x) with
      | none => rw [hc] at h; cases h
      | some s =>
        rw [hc] at h; injection h with h; subst h
        exact pure_conv hS hr src dst x hb.2 s hc

theorem quietL_ok (hS : Sat val F) {ops : Array Oper} {η : Env} {st : St} {w0 : World} (hm : MR val η st w0) (hgl : GL ng η) {Q : Act → Prop} : ∀ (l : List Oper) {fr fr' : Fr} {a : Act}, quietL P F ng ops st l fr = some fr' → FR val η fr a →
    (∀ a', FR val η fr' a' → Q a') → wpQuiet P ops (fun w => STP val η st w0 η st w) Q l a
  | [], fr, fr', a, h, hf, hq => by
    simp only [quietL, Option.some.injEq] at h; subst h; exact hq a hf
  | o :: l, fr, fr', a, h, hf, hq => by
    change thenF (quietL P F ng ops st l) (qOpX P F ng o fr st (guardX ops fr o)) = some fr' at h
    cases h1 : qOpX P F ng o fr st (guardX ops fr o) with
    | none => rw [h1] at h; cases h
    | some fr1 =>
      rw [h1] at h
      simp only [thenF] at h
      cases hg : guardX ops fr o with
      | none => rw [hg] at h1; cases h1
      | some b =>
        have hw := guardX_ok hf hg
        rw [hg] at h1
        unfold wpQuiet
        rw [hw]
        cases b with
        | true =>
          simp only [if_true]
          simp only [qOpX] at h1
          cases hv : readX P F (fr.eval ng) st o.op with
          | none => rw [hv] at h1; cases h1
          | some v =>
            rw [hv] at h1
            simp only [putF] at h1
            obtain ⟨x, x1, x2⟩ := readX_ok hS (hf.eval hgl) o hv hm
            refine ⟨x, fun w hw => ?_, quietL_ok hS hm hgl l h (hf.put x1 h1) hq⟩
            unfold Oper.quietAt
            rw [x2 w hw.mr]
            exact ⟨rfl, rfl⟩
        | false =>
          simp only [Bool.false_eq_true, if_false]
          simp only [qOpX] at h1
          exact quietL_ok hS hm hgl l h (hf.put (x := undef) rfl h1) hq

theorem drawAll_ok (hS : Sat val F) {call : CallT} (hcall : CallOk val P ng call) (hmix : P.follows .mixedOrders = true) {ops : Array Oper} {id : Nat} {Q : Exit → Act → World → Prop} (hQ : ∀ c a w, ¬ Q (.panic c) a w)
    {fr fr' : Fr} {st st' : St} {η : Env} {w : World} {a : Act} (h : drawAll P F ng call ops fr st = some (fr', st')) (hm : MR val η st w) (hgl : GL ng η) (hf : FR val η fr a)
    (hq : ∀ η' a' w', FR val η' fr' a' → STP val η st w η' st' w' → Q .normal a' w') : (Code.region id ops true).wp P Q a w := by
  unfold drawAll at h
  cases hb : (allQ ops.toList && lexG ops 0 ops.toList) with
  | false => rw [hb] at h; exact drawGo_ok hS hcall hmix hQ h hm hgl hf hq
  | true =>
    rw [hb] at h
    simp only [Bool.and_eq_true] at hb
    simp only [cond_true] at h
    cases hl : quietL P F ng ops st ops.toList fr with
    | none => rw [hl] at h; cases h
    | some fr1 =>
      rw [hl] at h
      simp only [outQ, Option.some.injEq, Prod.mk.injEq] at h
      obtain ⟨rfl, rfl⟩ := h
      have hd := hm.drew
      refine wp_region_any hmix (wpAny_of_quiet (C := fun w' => STP val η st w η st w') (Q := fun a' => FR val η fr1 a') (fun a' w' hw' hf' => hq η a' w' hf' hw') _ _ _ _ hd ?_)
      have := wpAnyQ_lexG (P := P) (C := fun w' => STP val η st w η st w') (Q := fun a' => FR val η fr1 a') (ops := ops) (fun j o cs b hj => allQ_sel hb.1 j o cs b (by simpa using hj)) ops.toList 0 (Array.replicate ops.size false) a (by simp) (by simp)
        (fun j hj => by simp [Array.getD, hj]) hb.2 (quietL_ok hS hm hgl ops.toList hl hf fun a' h => h)
      simpa using this
end Go.SX
