/- A region that draws its order. -/
import Derived.Test.YtopoejfnbnejpaaX6
namespace Go.SX
variable {val : Nat → Nat} {P : Program} {F : Nd → Option Nat} {ng : Nat}

theorem Tr.same_ok {α : Type} [BEq α] [LawfulBEq α] : ∀ {a b : Tr α}, a.same b = true → a = b
  | .nil, .nil, _ => rfl
  | .nil, .node _ _ _, h => by simp [Tr.same] at h
  | .node _ _ _, .nil, h => by simp [Tr.same] at h
  | .node v l r, .node v' l' r', h => by
    simp only [Tr.same, Bool.and_eq_true, beq_iff_eq] at h
    rw [h.1.1, Tr.same_ok h.1.2, Tr.same_ok h.2]
theorem same2_ok {a b : Option (Fr × St)} (h : same2 a b = true) : a = b := by
  unfold same2 at h
  split at h
  · rename_i f s f' s'
    obtain ⟨fs, ft⟩ := f
    obtain ⟨fs', ft'⟩ := f'
    obtain ⟨m, n⟩ := s
    obtain ⟨m', n'⟩ := s'
    simp only [Bool.and_eq_true, beq_dec, decide_eq_true_eq] at h
    obtain ⟨⟨⟨h1, h2⟩, h3⟩, h4⟩ := h
    rw [h1, Tr.same_ok h2, Tr.same_ok h3, h4]
  · cases h
theorem brs_ok {step : Nat × Oper → Option (Fr × St)} {r : Option (Fr × St)} {q : Fr × St} : ∀ {l : List (Nat × Oper)}, brs step r l = some q → r = some q ∧ ∀ x ∈ l, step x = some q
  | [], h => ⟨h, fun x hx => by cases hx⟩
  | y :: l, h => by
    simp only [brs] at h
    cases hs : same2 (step y) r with
    | false => rw [hs] at h; cases h
    | true =>
      rw [hs] at h
      simp only [cond_true] at h
      obtain ⟨h1, h2⟩ := brs_ok h
      refine ⟨h1, fun x hx => ?_⟩
      rcases List.mem_cons.1 hx with rfl | hx
      · rw [same2_ok hs, h1]
      · exact h2 x hx
theorem branch_ok {step : Nat × Oper → Option (Fr × St)} {fr : Fr} {st : St} {q : Fr × St} : ∀ {l : List (Nat × Oper)}, branch step fr st l = some q → (l = [] ∧ q = (fr, st)) ∨ (l ≠ [] ∧ ∀ x ∈ l, step x = some q)
  | [], h => .inl ⟨rfl, by simpa [branch, eq_comm] using h⟩
  | y :: l, h => by
    obtain ⟨h1, h2⟩ := brs_ok h
    refine .inr ⟨by simp, fun x hx => ?_⟩
    rcases List.mem_cons.1 hx with rfl | hx
    · exact h1
    · exact h2 x hx

theorem deps_ok {S : Nat} : ∀ {l : List Edge}, deps S l = true ↔ ∀ e ∈ l, Region.binds .any e = true → Nat.testBit S e.on = true
  | [] => by simp [deps]
  | e :: l => by
    simp only [deps, Bool.and_eq_true, deps_ok (l := l), List.mem_cons, forall_eq_or_imp]
    refine and_congr ?_ Iff.rfl
    cases Region.binds .any e <;> simp
theorem rdy_mem {S : Nat} {j : Nat} {o : Oper} : ∀ {l : List Oper} {k : Nat}, (j, o) ∈ rdy S k l ↔ ∃ i, l[i]? = some o ∧ j = k + i ∧ Nat.testBit S j = false ∧ deps S o.after.toList = true
  | [], k => by simp [rdy]
  | x :: l, k => by
    have ih := @rdy_mem S j o l (k + 1)
    have split : (∃ i, (x :: l)[i]? = some o ∧ j = k + i ∧ Nat.testBit S j = false ∧ deps S o.after.toList = true) ↔
        (x = o ∧ j = k ∧ Nat.testBit S j = false ∧ deps S o.after.toList = true) ∨ ∃ i, l[i]? = some o ∧ j = k + 1 + i ∧ Nat.testBit S j = false ∧ deps S o.after.toList = true := by
      constructor
      · rintro ⟨i, h1, h2, h3⟩
        cases i with
        | zero => exact .inl ⟨by simpa using h1, by simpa using h2, h3⟩
        | succ i => exact .inr ⟨i, by simpa using h1, by omega, h3⟩
      · rintro (⟨h1, h2, h3⟩ | ⟨i, h1, h2, h3⟩)
        · exact ⟨0, by simp [h1], by simp [h2], h3⟩
        · exact ⟨i + 1, by simpa using h1, by omega, h3⟩
    rw [split, ← ih]
    simp only [rdy]
    cases hc : (!Nat.testBit S k && deps S x.after.toList) with
    | true =>
      simp only [cond_true, List.mem_cons, Prod.mk.injEq]
      simp only [Bool.and_eq_true, Bool.not_eq_true'] at hc
      constructor
      · rintro (⟨rfl, rfl⟩ | h)
        · exact .inl ⟨rfl, rfl, hc.1, hc.2⟩
        · exact .inr h
      · rintro (⟨rfl, rfl, _⟩ | h)
        · exact .inl ⟨rfl, rfl⟩
        · exact .inr h
    | false =>
      simp only [cond_false]
      constructor
      · exact .inr
      · rintro (⟨rfl, rfl, h3, h4⟩ | h)
        · rw [h3, h4] at hc; cases hc
        · exact h

theorem hasEdge_ok {i : Nat} : ∀ {l : List Edge}, hasEdge i l = true → ∃ e ∈ l, Region.binds .any e = true ∧ e.on = i
  | [], h => by cases h
  | e :: l, h => by
    simp only [hasEdge, Bool.or_eq_true, Bool.and_eq_true, beq_dec, decide_eq_true_eq] at h
    rcases h with ⟨h1, h2⟩ | h
    · exact ⟨e, by simp, h1, h2⟩
    · obtain ⟨e', h1, h2⟩ := hasEdge_ok h
      exact ⟨e', by simp [h1], h2⟩
theorem freeL_ok {ops : Array Oper} {S i : Nat} {oi : Oper} : ∀ {l : List Oper} {k : Nat}, freeL ops S i oi k l = true → ∀ j o, l[j]? = some o → k + j ≠ i → Nat.testBit S (k + j) = false → (∀ e ∈ o.after, Region.binds .any e = true → e.on ≠ i) → oi.apart ops o = true
  | [], k, _, j, o, h, _, _, _ => by simp at h
  | x :: l, k, h, j, o, hj, hne, hun, hno => by
    simp only [freeL, Bool.and_eq_true, Bool.or_eq_true, beq_dec, decide_eq_true_eq] at h
    cases j with
    | zero =>
      simp only [List.getElem?_cons_zero, Option.some.injEq] at hj
      subst hj
      rcases h.1 with ((h1 | h1) | h1) | h1
      · exact absurd (by simpa using h1) hne
      · simp only [Nat.add_zero] at hun; rw [hun] at h1; cases h1
      · obtain ⟨e, e1, e2, e3⟩ := hasEdge_ok h1
        exact absurd e3 (hno e (by simpa using e1) e2)
      · exact h1
    | succ j => exact freeL_ok h.2 j o (by simpa using hj) (by omega) (by rwa [Nat.add_assoc, Nat.add_comm 1 j]) hno
theorem noSel_ok : ∀ {l : List Oper}, noSel l = true → ∀ (j : Nat) (o : Oper), l[j]? = some o → ∀ cs b, o.op ≠ .select cs b
  | [], _, j, o, h, _, _ => by simp at h
  | x :: l, h, j, o, hj, cs, b => by
    simp only [noSel, Bool.and_eq_true, Bool.not_eq_true'] at h
    cases j with
    | zero =>
      simp only [List.getElem?_cons_zero, Option.some.injEq] at hj
      subst hj
      intro e
      rw [e] at h; simp [isSel] at h
    | succ j => exact noSel_ok h.2 j o (by simpa using hj) cs b

theorem pick_ok {r : Operand → Option XV} {ops : Array Oper} {S i : Nat} {o : Oper} {v : XV} : ∀ {l : List (Nat × Oper)}, pick P F r ops S l = some (i, o, v) → (i, o) ∈ l ∧ o.guard = none ∧ pureX P F r o.op = some v ∧ freeL ops S i o 0 ops.toList = true
  | [], h => by cases h
  | (j, x) :: l, h => by
    simp only [pick] at h
    have rest : ∀ {b : Bool}, pick P F r ops S l = some (i, o, v) → (i, o) ∈ (j, x) :: l ∧ o.guard = none ∧ pureX P F r o.op = some v ∧ freeL ops S i o 0 ops.toList = true := fun h => by
      obtain ⟨h1, h2⟩ := pick_ok h
      exact ⟨by simp [h1], h2⟩
    cases hg : x.guard with
    | some g => rw [hg] at h; exact rest (b := true) h
    | none =>
      rw [hg] at h
      simp only [pureG] at h
      cases hp : pureX P F r x.op with
      | none => rw [hp] at h; exact rest (b := true) h
      | some u =>
        rw [hp] at h
        simp only [pickF] at h
        cases hf : freeL ops S j x 0 ops.toList with
        | false => rw [hf] at h; exact rest (b := true) h
        | true =>
          rw [hf] at h
          simp only [cond_true, Option.some.injEq, Prod.mk.injEq] at h
          obtain ⟨rfl, rfl, rfl⟩ := h
          exact ⟨by simp, hg, hp, hf⟩

/-- The same in whatever world. -/
theorem pureX_ok (hS : Sat val F) {η : Env} {r : Operand → Option XV} {ρ : Operand → Value} (hr : RO val η r ρ) (o : Oper) {v : XV} (h : pureX P F r o.op = some v) :
    ∃ x, dX val η v = some x ∧ ∀ w, (execOp ρ o).run P w = .ok (.value x) w := by
  have all : (∀ w, ∃ x, (execOp ρ o).run P w = .ok (.value x) w ∧ dX val η v = some x) → ∃ x, dX val η v = some x ∧ ∀ w, (execOp ρ o).run P w = .ok (.value x) w := fun h => by
    obtain ⟨x, _, h1⟩ := h default
    refine ⟨x, h1, fun w => ?_⟩
    obtain ⟨y, h2, h3⟩ := h w
    rw [h1] at h3; injection h3 with h3; rw [h3]; exact h2
  apply all
  intro w
  obtain ⟨dst, op, type, pos, after, guard⟩ := o
  cases op <;> simp only [pureX] at h <;> try (cases h; done)
  case move x => exact ⟨ρ x, rfl, hr x v h⟩
  case assign x => exact ⟨ρ x, rfl, hr x v h⟩
  case nilCheck x =>
    cases hx : sc1 r x with
    | none => rw [hx] at h; cases h
    | some s =>
      rw [hx] at h
      have hs := sc1_ok hr hx
      cases s <;> try (cases h; done)
      rename_i g p
      simp only [nilP, Option.some.injEq] at h
      subst h
      have hs' := hs
      simp only [dS, Option.map_eq_some_iff] at hs
      obtain ⟨q, _, hv⟩ := hs
      refine ⟨ρ x, ?_, hs'⟩
      simp only [execOp]
      rw [← hv]; rfl
  case binOp op t x y yt =>
    cases hb : bin3 P F op t (sc1 r x) (sc1 r y) with
    | none => rw [hb] at h; cases h
    | some s =>
      rw [hb] at h; injection h with h; subst h
      exact pure_bin hS hr op t x y s hb
  case indexAddr t x ix =>
    cases hb : ixAddr P (P.underlying t) (sc1 r x) (sc1 r ix) with
    | none => rw [hb] at h; cases h
    | some s =>
      rw [hb] at h; injection h with h; subst h
      exact pure_ix hr t x ix s hb

/-- What is listed. -/
structure LI (ops : Array Oper) (S : Nat) (listed : Array Bool) : Prop where
  size : listed.size = ops.size
  get : ∀ j, listed.getD j false = Nat.testBit S j
theorem LI.getT {ops : Array Oper} {S : Nat} {listed : Array Bool} (h : LI ops S listed) {j : Nat} (hj : j < ops.size) : listed.getD j true = Nat.testBit S j := by
  rw [← h.get j]
  have : j < listed.size := by rw [h.size]; exact hj
  simp [Array.getD, this]
theorem LI.set {ops : Array Oper} {S : Nat} {listed : Array Bool} (h : LI ops S listed) {i : Nat} (hi : i < ops.size) : LI ops (S ||| 2 ^ i) (listed.setIfInBounds i true) := by
  refine ⟨by simp [h.size], fun j => ?_⟩
  rw [Nat.testBit_or, Nat.testBit_two_pow]
  by_cases hij : i = j
  · subst hij
    have : i < listed.size := by rw [h.size]; exact hi
    simp [Array.getD, this]
  · rw [getD_set_ne false hij, h.get j]; simp [hij]
theorem LI.mem {ops : Array Oper} {S : Nat} {listed : Array Bool} (h : LI ops S listed) {j : Nat} : j ∈ Region.ready .any ops listed ↔ ∃ o, ops[j]? = some o ∧ (j, o) ∈ rdy S 0 ops.toList := by
  rw [mem_ready]
  constructor
  · rintro ⟨h0, o, ho, hall⟩
    have hlt : j < ops.size := (Array.getElem?_eq_some_iff.1 ho).1
    refine ⟨o, ho, rdy_mem.2 ⟨j, by simpa using ho, by simp, by rw [← h.getT hlt]; exact h0, deps_ok.2 fun e he hb => ?_⟩⟩
    rw [← h.get]; exact hall e (by simpa using he) hb
  · rintro ⟨o, ho, hm⟩
    obtain ⟨i, h1, h2, h3, h4⟩ := rdy_mem.1 hm
    have hlt : j < ops.size := (Array.getElem?_eq_some_iff.1 ho).1
    refine ⟨by rw [h.getT hlt]; exact h3, o, ho, fun e he hb => ?_⟩
    rw [h.get]; exact deps_ok.1 h4 e (by simpa using he) hb

theorem goAny_ok (hS : Sat val F) {call : CallT} (hcall : CallOk val P ng call) {ops : Array Oper} (hsel : noSel ops.toList = true) {Q : Exit → Act → World → Prop} (hQ : ∀ c a w, ¬ Q (.panic c) a w) :
    ∀ (n S : Nat) (fr fr' : Fr) (st st' : St) (listed : Array Bool) (η : Env) (w : World) (a : Act), goAny P F ng call ops n S fr st = some (fr', st') → LI ops S listed → MR val η st w → GL ng η → FR val η fr a →
      (∀ η' a' w', FR val η' fr' a' → STP val η st w η' st' w' → Q .normal a' w') → wpAny P .any ops Q n listed a w := by
  intro n
  induction n with
  | zero =>
    intro S fr fr' st st' listed η w a h hl hm hgl hf hq
    change endAny fr st (rdy S 0 ops.toList) = some (fr', st') at h
    cases hr : rdy S 0 ops.toList with
    | cons x l => rw [hr] at h; cases h
    | nil =>
      rw [hr] at h
      simp only [endAny, Option.some.injEq, Prod.mk.injEq] at h
      obtain ⟨rfl, rfl⟩ := h
      refine ⟨?_, hq η a w hf (STP.refl hm)⟩
      apply List.eq_nil_iff_forall_not_mem.2
      intro j hj
      obtain ⟨o, _, hmem⟩ := hl.mem.1 hj
      rw [hr] at hmem; cases hmem
  | succ n ih =>
    intro S fr fr' st st' listed η w a h hl hm hgl hf hq
    change anyStep P F ng call ops (goAny P F ng call ops n) S fr st (rdy S 0 ops.toList) = some (fr', st') at h
    unfold anyStep at h
    have hr := hf.eval hgl
    have old : ∀ {i : Nat} {o : Oper}, (i, o) ∈ rdy S 0 ops.toList → ops[i]? = some o ∧ i < ops.size := by
      intro i o hmem
      obtain ⟨k, h1, h2, _⟩ := rdy_mem.1 hmem
      have h2' : i = k := by simpa using h2
      have : ops[i]? = some o := by rw [h2']; simpa using h1
      exact ⟨this, (Array.getElem?_eq_some_iff.1 this).1⟩
    cases hp : pick P F (fr.eval ng) ops S (rdy S 0 ops.toList) with
    | some t =>
      obtain ⟨i, o, v⟩ := t
      rw [hp] at h
      simp only [anyPick] at h
      obtain ⟨p1, p2, p3, p4⟩ := pick_ok hp
      obtain ⟨hoi, hlt⟩ := old p1
      cases hpo : fr.putO o.dst v st with
      | none => rw [hpo] at h; cases h
      | some q =>
        obtain ⟨fr1, st1⟩ := q
        obtain ⟨hp1, rfl⟩ := Fr.putO_ok hpo
        rw [hpo] at h
        simp only [thenO] at h
        obtain ⟨x, x1, x2⟩ := pureX_ok hS hr o p3
        refine wpAny_first hoi (fun j o' cs b hj => noSel_ok hsel j o' (by simpa using hj) cs b) (fun c a w hc => absurd hc (hQ _ _ _)) n listed a w ?_ (hl.mem.2 ⟨o, hoi, p1⟩) (.inl ⟨by simp [Region.wanted, p2], x2⟩)
          (ih _ fr1 fr' st1 st' _ η w _ h (hl.set hlt) hm hgl (hf.put x1 hp1) hq)
        intro j oj hj hne hun hno
        have hjl : j < ops.size := (Array.getElem?_eq_some_iff.1 hj).1
        exact freeL_ok p4 j oj (by simpa using hj) (by simpa using hne) (by rw [Nat.zero_add, ← hl.getT hjl]; exact hun) hno
    | none =>
      rw [hp] at h
      simp only [anyPick] at h
      rcases branch_ok h with ⟨hnil, hq'⟩ | ⟨hne, hall⟩
      · simp only [Prod.mk.injEq] at hq'
        obtain ⟨rfl, rfl⟩ := hq'
        have hready : Region.ready .any ops listed = [] := by
          apply List.eq_nil_iff_forall_not_mem.2
          intro j hj
          obtain ⟨o, _, hmem⟩ := hl.mem.1 hj
          rw [hnil] at hmem; cases hmem
        exact wpAny_done hready (hq η a w hf (STP.refl hm)) _
      · refine ⟨fun hready => ?_, fun i hi => ?_⟩
        · exfalso
          apply hne
          apply List.eq_nil_iff_forall_not_mem.2
          rintro ⟨j, o⟩ hmem
          have : j ∈ Region.ready .any ops listed := hl.mem.2 ⟨o, (old hmem).1, hmem⟩
          rw [hready] at this; cases this
        · obtain ⟨o, ho, hmem⟩ := hl.mem.1 hi
          have hstep := hall _ hmem
          unfold anyOp at hstep
          cases hg : opGo P F ng call o fr st (guardX ops fr o) with
          | none => simp only [hg] at hstep; cases hstep
          | some q =>
            obtain ⟨fr1, st1⟩ := q
            simp only [hg, thenO] at hstep
            unfold wpOp
            simp only [ho]
            have key := opGo_ok (Q := Q) (K := wpAny P .any ops Q n (listed.setIfInBounds i true)) hS hcall hg rfl hm hgl hf (fun η1 a1 w1 hf1 hs1 =>
              ih _ fr1 fr' st1 st' _ η1 w1 a1 hstep (hl.set (old hmem).2) hs1.mr (hgl.mono hs1.le) hf1 fun η' a' w' hf' hs' => hq η' a' w' hf' (hs1.trans hs'))
            split
            · rename_i hw; rw [if_pos hw] at key; exact .inl key
            · rename_i hw; rw [if_neg hw] at key; exact key

theorem MR.drew {η : Env} {st : St} {w : World} (h : MR val η st w) : STP val η st w η st { w with drawn := w.drawn + 1 } :=
  ⟨Env.le_refl _, ⟨fun g B hg => let ⟨p, vs, e1, e2, e3⟩ := h.blk g B hg; ⟨p, vs, e1, e2, e3.kept rfl⟩, h.sep, h.fresh⟩, ⟨rfl, rfl, rfl, Nat.le_refl _, fun _ _ _ => rfl⟩,
    fun _ h => .inl h, Nat.le_refl _, fun _ _ => rfl, fun g p hg hp => by rw [h.fresh g hg] at hp; cases hp⟩

theorem drawGo_ok (hS : Sat val F) {call : CallT} (hcall : CallOk val P ng call) (hmix : P.follows .mixedOrders = true) {ops : Array Oper} {id : Nat} {Q : Exit → Act → World → Prop} (hQ : ∀ c a w, ¬ Q (.panic c) a w)
    {fr fr' : Fr} {st st' : St} {η : Env} {w : World} {a : Act} (h : drawGo P F ng call ops fr st = some (fr', st')) (hm : MR val η st w) (hgl : GL ng η) (hf : FR val η fr a)
    (hq : ∀ η' a' w', FR val η' fr' a' → STP val η st w η' st' w' → Q .normal a' w') : (Code.region id ops true).wp P Q a w := by
  unfold drawGo at h
  cases hs : noSel ops.toList with
  | false => rw [hs] at h; cases h
  | true =>
    rw [hs] at h
    simp only [cond_true] at h
    have hd := hm.drew
    refine wp_region_any hmix (goAny_ok hS hcall hs hQ ops.size 0 fr fr' st st' _ η _ a h ⟨by simp, fun j => ?_⟩ hd.mr hgl hf fun η' a' w' hf' hs' => hq η' a' w' hf' (hd.trans hs'))
    by_cases hj : j < ops.size <;> simp [Array.getD, hj]
end Go.SX
