/- Each operation of the executor does what the model's does: fields, conversions, len, append; and all of them together. -/
import Derived.Test.YtopoejfnbnejpaaX5d
namespace Go.SX
variable {val : Nat → Nat} {P : Program} {F : Nd → Option Nat}
section
variable {η : Env} {st : St} {w : World} {r : Operand → Option XV} {ρ : Operand → Value}

theorem part_ok {t : Nat} {cs : List SC} {vs : List Value} {off : Nat} {v : XV} (hd : dL val η cs = some vs) (h : partX P t cs off = some v) :
    ∃ x, (part t vs.toArray off).run P w = .ok x w ∧ dX val η v = some x := by
  unfold partX at h
  cases ha : isAggT P t with
  | none => rw [ha] at h; cases h
  | some b =>
    rw [ha] at h
    cases b with
    | true =>
      simp only [partB] at h
      cases hn : sizeT P t with
      | none => rw [hn] at h; cases h
      | some n =>
        rw [hn] at h
        simp only [cutA] at h
        cases hc : cut cs off n with
        | none => rw [hc] at h; cases h
        | some l =>
          rw [hc] at h; injection h with h; subst h
          obtain ⟨c1, rfl⟩ := cut_ok hc
          refine ⟨.agg ((vs.drop off).take n).toArray, ?_, by simp only [dX, dA, dL_cut off n hd]; rfl⟩
          simp only [part, Sem.run_bind, run_isAgg ha w, Result.andThen_ok, if_true, run_sizeOf hn w, Sem.run_pure]
          congr 2
          apply Array.ext'
          simp [List.extract_eq_take_drop]
    | false =>
      simp only [partB] at h
      cases hg : cs[off]? with
      | none => rw [hg] at h; cases h
      | some s =>
        rw [hg] at h; injection h with h; subst h
        obtain ⟨x, e1, e2⟩ := dL_get hd hg
        refine ⟨x, ?_, e2⟩
        have e1' : vs.toArray[off]? = some x := by simpa using e1
        simp only [part, Sem.run_bind, run_isAgg ha w, Result.andThen_ok, Bool.false_eq_true, if_false, e1', Sem.run_pure]

theorem op_field (hm : MR val η st w) (hr : RO val η r ρ) (t : TypeId) (x : Operand) (f : Nat) :
    ResOk val P η st w (do pure (.value (← Instr.field t (ρ x) f))) (resO (fieldX P f (P.underlying t) (r x)) st) := by
  refine ok_resO hm fun v hv => ?_
  cases hu : P.underlying t with
  | none => rw [hu] at hv; cases hv
  | some d =>
    rw [hu] at hv
    cases d <;> try (cases hv; done)
    rename_i fs
    cases hx : r x with
    | none => rw [hx] at hv; cases hv
    | some u =>
      rw [hx] at hv
      have hd := hr x _ hx
      cases u with
      | av a =>
        cases a with
        | sc s => cases hv
        | agg cs =>
          simp only [fieldX] at hv
          cases hf : fs[f]? with
          | none => rw [hf] at hv; cases hv
          | some fd =>
            rw [hf] at hv
            simp only [dX, dA, Option.map_eq_some_iff] at hd
            obtain ⟨vs, d1, d2⟩ := hd
            obtain ⟨y, p1, p2⟩ := part_ok (P := P) (w := w) d1 hv
            refine ⟨y, run_v ?_, p2⟩
            rw [← d2]
            simp only [Instr.field, Sem.run_bind, run_underlying hu w, Result.andThen_ok, hf, asAgg, Sem.run_pure, p1]
      | tup l => cases hv
      | undef => cases hv

theorem freeze_heap (w : World) (b n : Nat) (cs : Array Value) (T : TypeId) (h : w.heap[b]? = some (.cells cs T (0, 0))) :
    (w.freeze ⟨b, n, none⟩ 1).heap[b]? = some (.cells cs T (n, n + 1)) := by
  simp [World.freeze, Array.getElem?_modify, h]
theorem kp_freeze (w : World) (b n : Nat) : KP (fun k => k = b) w (w.freeze ⟨b, n, none⟩ 1) := by
  refine ⟨by simp [World.freeze], by simp [World.freeze], by simp [World.freeze], by simp [World.freeze], fun k hk hn => ?_⟩
  simp only [World.freeze, Nat.one_ne_zero, if_false, Array.getElem?_modify]
  rw [if_neg (fun e => hn e.symm)]

theorem op_convSl (hm : MR val η st w) (hr : RO val η r ρ) (t : TypeId) (x : Operand) (hb : isBytes P (P.underlying t) = true) :
    ResOk val P η st w (do pure (.value (← convert t t (ρ x)))) (convSl st (sc1 r x)) := by
  cases hx : sc1 r x with
  | none => trivial
  | some s =>
    have hs := sc1_ok hr hx
    cases s <;> try trivial
    rename_i h o len cap
    simp only [convSl]
    cases hg : st.mem.get h with
    | none => trivial
    | some B =>
      obtain ⟨k, cells⟩ := B
      cases k <;> try trivial
      simp only [roO]
      obtain ⟨p, vs, e1, e2, e3, T, e4⟩ := hm.blk h _ hg
      simp only [dS, e1, Option.map_some, Option.some.injEq] at hs
      simp only at e2
      have hstp : STP val η st w η { st with mem := st.mem.set h ⟨.ro, cells⟩ } (w.freeze ⟨p.b, vs.length, none⟩ 1) := by
        refine hm.turn hg (by simp) e1 e2 (kp_freeze _ _ _) ?_
        have hf := freeze_heap w p.b vs.length _ T e4
        refine ⟨(Array.getElem?_eq_some_iff.1 hf).1, fun i v hv => ?_⟩
        simp only [World.cell?, hf, e3]
        simpa using hv
      refine ⟨η, ρ x, _, run_v ?_, by simp only [dX, dA, dS, e1, Option.map_some, hs], hstp⟩
      unfold isBytes at hb
      split at hb
      · rename_i e he
        split at hb
        · rename_i hu
          rw [← hs]
          have hsh : w.shape? p.b = some (T, vs.length) := by simp [World.shape?, e4]
          simp [convert, run_underlying he w, run_underlying hu w, markStringish, hsh]
        · cases hb
      · cases hb

theorem pure_conv (hS : Sat val F) (hr : RO val η r ρ) (src dst : TypeId) (x : Operand) (hsrc : isSomeT (P.underlying src) = true) (s : SC) (hs : conv1 F (P.underlying dst) (sc1 r x) = some s) :
    ∃ z, (do pure (.value (← convert src dst (ρ x))) : Sem Next).run P w = .ok (.value z) w ∧ dS val η s = some z := by
  cases hx : sc1 r x with
  | none => rw [hx] at hs; cases hs
  | some a =>
    rw [hx] at hs
    simp only [conv1] at hs
    cases hu : P.underlying dst with
    | none => rw [hu] at hs; cases hs
    | some d =>
      rw [hu] at hs
      cases d <;> simp only [conv2] at hs <;> try (cases hs; done)
      rename_i k
      obtain ⟨k', n, e1, e2⟩ := convX_ok hS (sc1_ok hr hx) hs
      refine ⟨_, run_v ?_, e2⟩
      rw [e1]
      cases hus : P.underlying src with
      | none => rw [hus] at hsrc; cases hsrc
      | some ds =>
        simp only [convert, Sem.run_bind, run_underlying hus w, run_underlying hu w, Result.andThen_ok]
        cases ds <;> rfl

theorem op_conv (hS : Sat val F) (hm : MR val η st w) (hr : RO val η r ρ) (src dst : TypeId) (x : Operand) :
    ResOk val P η st w (do pure (.value (← convert src dst (ρ x)))) (convR P F st src dst (sc1 r x)) := by
  unfold convR
  cases hb : (Nat.beq src dst && isBytes P (P.underlying src)) with
  | true =>
    simp only [cond_true]
    simp only [Bool.and_eq_true, beq_dec, decide_eq_true_eq] at hb
    obtain ⟨rfl, hb⟩ := hb
    exact op_convSl hm hr src x hb
  | false =>
    simp only [cond_false]
    cases hsrc : isSomeT (P.underlying src) with
    | false => trivial
    | true =>
    simp only [cond_true]
    exact ok_resS hm fun s hs => pure_conv hS hr src dst x hsrc s hs

theorem argsX_ok (hr : RO val η r ρ) : ∀ {l : List Operand} {vs : List XV}, argsX r l = some vs → dXs val η vs = some (l.map ρ)
  | [], vs, h => by simp [argsX] at h; subst h; rfl
  | x :: l, vs, h => by
    simp only [argsX] at h
    split at h
    · rename_i v m hv hm
      injection h with h; subst h
      simp [dXs, hr x v hv, argsX_ok hr hm]
    · cases h
theorem scals_ok : ∀ {l : List XV} {m : List SC}, scals l = some m → ∀ {vs : List Value}, dXs val η l = some vs → dL val η m = some vs
  | [], m, h, vs, hd => by simp [scals] at h; subst h; simpa [dXs, dL] using hd
  | x :: l, m, h, vs, hd => by
    simp only [scals] at h
    split at h
    · rename_i s t hs ht
      injection h with h; subst h
      have := scal_ok hs; subst this
      simp only [dXs, Option.bind_eq_some_iff, Option.map_eq_some_iff] at hd
      obtain ⟨v, h1, w, h2, rfl⟩ := hd
      have h1' : dS val η s = some v := h1
      simp [dL, h1', scals_ok ht h2]
    · cases h

theorem lenX_ok {x : SC} {n : Nat} {v : Value} (hx : dS val η x = some v) (h : lenX x = some n) : ∃ a c, v = .slice a n c := by
  cases x <;> simp only [lenX] at h <;> try (cases h; done)
  · rename_i hh o len cap
    injection h with h; subst h
    simp only [dS, Option.map_eq_some_iff] at hx
    obtain ⟨p, _, rfl⟩ := hx
    exact ⟨_, _, rfl⟩
  · rename_i hh o len
    injection h with h; subst h
    simp only [dS, Option.bind_eq_some_iff] at hx
    obtain ⟨p, _, hx⟩ := hx
    split at hx
    · injection hx with hx; exact ⟨_, _, hx.symm⟩
    · cases hx
  · injection h with h; subst h
    simp only [dS, Option.some.injEq] at hx
    exact ⟨_, _, hx.symm⟩

/-- The cells of a slice that is not nil. -/
theorem firstX_ok (hm : MR val η st w) {x : SC} {n : Nat} {l : List SC} {v : Value} (hx : dS val η x = some v) (hn : notNil x = true) (hl : lenX x = some n) (h : firstX st x n = some l) :
    ∃ a c vs, v = .slice (some a) n c ∧ dL val η l = some vs ∧ vs.length = n ∧ ∀ j u, vs[j]? = some u → w.cell? (a.add j) = some u := by
  cases x <;> simp only [notNil] at hn <;> try (cases hn; done)
  · rename_i hh o len cap
    simp only [lenX, Option.some.injEq] at hl; subst hl
    simp only [firstX] at h
    simp only [dS, Option.map_eq_some_iff] at hx
    obtain ⟨p, hp, rfl⟩ := hx
    obtain ⟨q, vs, e1, e2, e3, e4⟩ := hm.read h
    rw [hp] at e1; injection e1 with e1; subst e1
    exact ⟨_, _, vs, rfl, e2, e3, fun j u hj => by rw [Addr.add_lit]; exact e4 j u hj⟩
  · rename_i hh o len
    simp only [lenX, Option.some.injEq] at hl; subst hl
    simp only [firstX] at h
    simp only [dS, Option.bind_eq_some_iff] at hx
    obtain ⟨p, hp, hx⟩ := hx
    split at hx
    · injection hx with hx; subst hx
      obtain ⟨q, vs, e1, e2, e3, e4⟩ := hm.read h
      rw [hp] at e1; injection e1 with e1; subst e1
      exact ⟨_, _, vs, rfl, e2, e3, fun j u hj => by rw [Addr.add_lit]; exact e4 j u hj⟩
    · cases hx

/-- A slice that the call owns, laid anew: its old block's name is given up. -/
theorem MR.renew {st : St} {w w' : World} (h : MR val η st w) {g : Nat} {e : Nat} {k' : BK} {cells cells' : List SC} {p p' : Pl} {vs' : List Value}
    (hg : st.mem.get g = some ⟨.gr e, cells⟩) (hp : η g = some p) (hd : dL val η cells' = some vs')
    (hkp : KP (fun b => b = p.b) w w') (hb : BR w' p' k' vs') (hpb : p'.b = p.b ∨ w.heap.size ≤ p'.b) :
    STP val η st w (η.upd st.nh p') { mem := (st.mem.del g).set st.nh ⟨k', cells'⟩, nh := st.nh + 1 } w' := by
  have hn : η st.nh = none := h.fresh _ (Nat.le_refl _)
  have hle : η.le (η.upd st.nh p') := Env.le_upd hn
  have hgn : g ≠ st.nh := fun e => by subst e; rw [hn] at hp; cases hp
  have hold : ∀ f B, ((st.mem.del g).set st.nh ⟨k', cells'⟩).get f = some B → (f = st.nh ∧ B = ⟨k', cells'⟩) ∨ (f ≠ st.nh ∧ f ≠ g ∧ st.mem.get f = some B) := by
    intro f B hf
    rw [Tr.get_set] at hf
    split at hf
    · exact .inl ⟨by assumption, by simpa using hf.symm⟩
    · rw [Tr.get_del] at hf
      split at hf
      · cases hf
      · exact .inr ⟨by assumption, by assumption, hf⟩
  have hown : own η st p.b := ⟨g, _, p, hg, by simp, hp, rfl⟩
  have hlt : ∀ f B q, st.mem.get f = some B → η f = some q → q.b < w.heap.size := fun f B q hf hq => by
    obtain ⟨q', vs', e1, _, e3⟩ := h.blk f B hf
    rw [hq] at e1; injection e1 with e1; subst e1
    exact e3.lt
  have hsep : ∀ f B q, f ≠ g → st.mem.get f = some B → η f = some q → p'.b ≠ q.b := fun f B q hne hf hq => by
    rcases hpb with e1 | e1
    · rw [e1]; exact h.sep g f _ B p q hg hf hp hq (fun e => hne e.symm) (by simp)
    · have := hlt f B q hf hq; omega
  refine ⟨hle, ⟨?_, ?_, ?_⟩, ⟨hkp.os, hkp.tape, hkp.output, hkp.size, fun b hb hn => hkp.block b hb (fun e => hn (e ▸ hown))⟩, ?_, by simp, fun f hf => Env.upd_other (by omega), fun f q hf hq => ?_⟩
  · intro f B hf
    rcases hold f B hf with ⟨rfl, rfl⟩ | ⟨h1, h2, hf⟩
    · exact ⟨p', vs', Env.upd_same _ _ _, dL_mono hle hd, hb⟩
    · obtain ⟨q, us, e1, e2, e3⟩ := h.blk f B hf
      refine ⟨q, us, hle _ _ e1, dL_mono hle e2, e3.kept (hkp.block _ e3.lt (fun e => ?_))⟩
      exact h.sep g f _ B p q hg hf hp e1 (fun e => h2 e.symm) (by simp) e.symm
  · intro f f' B B' q q' hf hf' hq hq' hne hk
    rcases hold f B hf with ⟨e1, e2⟩ | ⟨h1, h2, hf2⟩
    · rcases hold f' B' hf' with ⟨e3, e4⟩ | ⟨h3, h4, hf3⟩
      · exact absurd (e1.trans e3.symm) hne
      · rw [e1, Env.upd_same] at hq; injection hq with hq; subst hq
        rw [Env.upd_other h3] at hq'
        exact hsep f' B' q' h4 hf3 hq'
    · rw [Env.upd_other h1] at hq
      rcases hold f' B' hf' with ⟨e3, e4⟩ | ⟨h3, h4, hf3⟩
      · rw [e3, Env.upd_same] at hq'; injection hq' with hq'; subst hq'
        exact fun e => hsep f B q h2 hf2 hq e.symm
      · rw [Env.upd_other h3] at hq'
        exact h.sep f f' B B' q q' hf2 hf3 hq hq' hne hk
  · intro f hf
    simp only at hf
    rw [Env.upd_other (by omega)]
    exact h.fresh f (by omega)
  · rintro b ⟨f, B, q, hf, hk, hq, rfl⟩
    rcases hold f B hf with ⟨rfl, rfl⟩ | ⟨h1, h2, hf2⟩
    · rw [Env.upd_same] at hq; injection hq with hq; subst hq
      rcases hpb with e1 | e1
      · rw [e1]; exact .inl hown
      · exact .inr e1
    · rw [Env.upd_other h1] at hq
      exact .inl ⟨f, B, q, hf2, hk, hq, rfl⟩
  · by_cases e1 : f = st.nh
    · subst e1; rw [Env.upd_same] at hq; injection hq with hq; subst hq
      rcases hpb with e2 | e2
      · rw [e2]; exact .inl hown
      · exact .inr e2
    · rw [Env.upd_other e1, h.fresh f hf] at hq; cases hq

theorem kp_grow (w : World) (o : Obj) (S : Nat → Prop) : KP S w (w.drew.alloc o) :=
  ⟨rfl, rfl, rfl, by simp, fun k hk _ => heap_alloc_old w.drew o k hk⟩
theorem KP.mono {S S' : Nat → Prop} {w w' : World} (h : KP S w w') (hs : ∀ k, S k → S' k) : KP S' w w' :=
  ⟨h.os, h.tape, h.output, h.size, fun k hk hn => h.block k hk (fun e => hn (hs k e))⟩

theorem okI_ok {o : Option TypeInfo} (h : okI o = true) : ∃ i z, o = some i ∧ i.size = 1 ∧ i.bytes ≤ 64 ∧ i.zero = some z ∧ z.cells.size = 1 := by
  cases o with
  | none => cases h
  | some i =>
    simp only [okI, Bool.and_eq_true, beq_dec, ble_dec, decide_eq_true_eq] at h
    obtain ⟨⟨h1, h2⟩, h3⟩ := h
    cases hz : i.zero with
    | none => rw [hz] at h3; cases h3
    | some z => rw [hz] at h3; exact ⟨i, z, rfl, h1, h2, hz, by simpa using h3⟩

theorem grow_owns (w : World) (e : Nat) (z : Value) (hz : z.cells.size = 1) (xs : List Value) (cap : Nat) (hc : xs.length ≤ cap) (hm : cap ≤ maxLen) :
    (w.drew.alloc (.cells (xs.toArray ++ Builtin.zeroCells z.cells (cap - xs.length)) e)).ownsRow 0 e 1 (.slice (some ⟨w.heap.size, 0, none⟩) xs.length cap) xs.length xs := by
  refine ⟨by omega, .inr ⟨w.heap.size, cap, _, rfl, Nat.zero_le _, heap_alloc_new w.drew _, hc, hm, ?_, ?_⟩⟩
  · simp [size_zeroCells, hz]; omega
  · simp

theorem op_append (hm : MR val η st w) {t ty e : TypeId} {s x c : SC} {u v : Value} {st' : St} (hs : dS val η s = some u) (hx : dS val η x = some v)
    (hu : P.underlying t = some (.slice e)) (hi : okI (P.info? e) = true) (h : appendX e st s x = some (c, st')) :
    ∃ η' y w', (Builtin.append_ #[t, t] ty #[u, v]).run P w = .ok y w' ∧ dS val η' c = some y ∧ STP val η st w η' st' w' := by
  obtain ⟨i, z, hi, hi1, hi2, hi3, hi4⟩ := okI_ok hi
  unfold appendX at h
  cases hn : notNil x with
  | false => rw [hn] at h; cases h
  | true =>
    rw [hn] at h
    simp only [cond_true] at h
    cases hls : lenX s with
    | none => rw [hls] at h; cases h
    | some m =>
      cases hlx : lenX x with
      | none => rw [hls, hlx] at h; cases h
      | some n =>
        rw [hls, hlx] at h
        simp only [append1] at h
        cases hb : Nat.ble (m + n) 1000000 with
        | false => rw [hb] at h; cases h
        | true =>
          rw [hb] at h
          simp only [cond_true] at h
          simp only [ble_dec, decide_eq_true_eq] at hb
          cases hf : firstX st x n with
          | none => rw [hf] at h; cases h
          | some new =>
            rw [hf] at h
            simp only [append2] at h
            obtain ⟨ax, cx, ws, rfl, x2, x3, x4⟩ := firstX_ok hm hx hn hlx hf
            have hbytes : (m + n) * i.bytes ≤ 140737488355328 := by
              have := Nat.mul_le_mul hb hi2; omega
            have hml : m + n ≤ maxLen := by unfold maxLen; omega
            have hlw : ws.length = n * i.size := by rw [hi1, x3]; omega
            cases s <;> simp only [appendS] at h <;> try (cases h; done)
            · rename_i g o len cap
              simp only [lenX, Option.some.injEq] at hls; subst hls
              cases hr : Nat.ble (len + n) cap with
              | true => rw [hr] at h; cases h
              | false =>
                rw [hr] at h
                simp only [cond_false] at h
                simp only [ble_dec, decide_eq_false_iff_not] at hr
                cases hrd : readN st g o len with
                | none => rw [hrd] at h; cases h
                | some old =>
                  rw [hrd] at h
                  simp only [apGrow, newS, Option.some.injEq, Prod.mk.injEq] at h
                  obtain ⟨rfl, rfl⟩ := h
                  simp only [dS, Option.map_eq_some_iff] at hs
                  obtain ⟨p, hp, rfl⟩ := hs
                  obtain ⟨q, us, e1, e2, e3, e4⟩ := hm.read hrd
                  rw [hp] at e1; injection e1 with e1; subst e1
                  have hrun := run_append_grow (P := P) w t ty e i z hu hi hi3 ⟨p.b, p.o + o, none⟩ len cap us (by rw [hi1, e3]; omega) (fun j u hj => by rw [Addr.add_lit]; exact e4 j u hj) ax n cx ws hlw x4
                    (by omega) (by omega) (growslice_fits (by omega) hbytes)
                  have hcat := dL_append e2 x2
                  have hlen : (us ++ ws).length = len + n := by simp [e3, x3]
                  have hcm := grownCap_le_maxLen w (len + n) cap e hml
                  have hcg := grownCap_ge w (len + n) cap e
                  have hown := grow_owns w e z hi4 (us ++ ws) (grownCap w (len + n) cap e) (by omega) hcm
                  have hobj : (us.toArray ++ ws.toArray ++ Builtin.zeroCells z.cells (grownCap w (len + n) cap e - (len + n))) = ((us ++ ws).toArray ++ Builtin.zeroCells z.cells (grownCap w (len + n) cap e - (us ++ ws).length)) := by
                    rw [hlen]; simp
                  rw [hobj] at hrun
                  refine ⟨_, _, _, hrun, ?_, hm.new (p := ⟨w.heap.size, 0, grownCap w (len + n) cap e⟩) hcat (kp_grow w _ _) ⟨rfl, hown⟩ (Nat.le_refl _)⟩
                  simp only [dS, Env.upd_same, Option.bind_some]
                  rw [if_pos (by omega)]
                  simp
            · rename_i g o len
              simp only [lenX, Option.some.injEq] at hls; subst hls
              cases o with
              | succ o => cases h
              | zero =>
                simp only at h
                cases hg : st.mem.get g with
                | none => rw [hg] at h; cases h
                | some B =>
                  obtain ⟨k, cells⟩ := B
                  rw [hg] at h
                  cases k <;> simp only [apOwn] at h <;> try (cases h; done)
                  rename_i e'
                  cases hc : (Nat.beq e e' && Nat.beq cells.length len) with
                  | false => rw [hc] at h; cases h
                  | true =>
                    rw [hc] at h
                    simp only [Bool.and_eq_true, beq_dec, decide_eq_true_eq] at hc
                    obtain ⟨rfl, hcl⟩ := hc
                    simp only [cond_true, newS, newBlk, Option.some.injEq, Prod.mk.injEq] at h
                    obtain ⟨rfl, rfl⟩ := h
                    obtain ⟨p, us, e1, e2, e3, e4⟩ := hm.blk g _ hg
                    simp only at e2
                    have hul := dL_length e2
                    obtain ⟨cur, a1, a2, a3, a4, a5, a6⟩ := owns_heap e4
                    simp only [dS, e1, Option.bind_some, e3, Nat.zero_add, Nat.add_zero, Nat.sub_zero] at hs
                    split at hs
                    · injection hs with hs; subst hs
                      have hcat := dL_append e2 x2
                      have hlen : (us ++ ws).length = len + n := by simp [x3]; omega
                      by_cases hroom : len + n ≤ p.cap
                      · have hrun := run_append_room (P := P) w t ty e i hu hi p.b len p.cap cur a1 ax n cx ws hlw x4 (dL_oneCell x2) hroom (by rw [hi1, Nat.mul_one, x3, a4]; exact hroom)
                        simp only [hi1, Nat.mul_one] at hrun
                        have hul' : us.length = len := by omega
                        have hown : (w.setRow p.b (cur.toList.take len ++ ws ++ cur.toList.drop (len + ws.length)).toArray).ownsRow 0 e 1 (.slice (some ⟨p.b, 0, none⟩) (us ++ ws).length p.cap) (us ++ ws).length (us ++ ws) := by
                          refine ⟨by omega, .inr ⟨p.b, p.cap, _, rfl, Nat.zero_le _, setRow_heap w p.b cur _ e _ a1, by omega, a3, ?_, ?_⟩⟩
                          · have : cur.toList.length = p.cap := by simpa using a4
                            simp; omega
                          · have e5 : cur.toList.take len = us := by rw [← hul']; exact a5
                            rw [List.toList_toArray, e5, Nat.mul_one]
                            exact List.take_left
                        refine ⟨_, _, _, hrun, ?_, hm.renew (p' := ⟨p.b, 0, p.cap⟩) hg e1 hcat (kp_setRow _ _ _) ⟨rfl, hown⟩ (.inl rfl)⟩
                        simp only [dS, Env.upd_same, Option.bind_some]
                        rw [if_pos (by omega)]
                        simp
                      · have hcells : ∀ j u, us[j]? = some u → w.cell? ((⟨p.b, 0, none⟩ : Addr).add j) = some u := fun j u hj => by
                          rw [Addr.add_lit, Nat.zero_add]
                          have := BR.cell (k := .gr e) ⟨e3, e4⟩ hj
                          simpa [e3] using this
                        have hrun := run_append_grow (P := P) w t ty e i z hu hi hi3 ⟨p.b, 0, none⟩ len p.cap us (by rw [hi1]; omega) hcells ax n cx ws hlw x4
                          (by omega) (by omega) (growslice_fits (by omega) hbytes)
                        have hcm := grownCap_le_maxLen w (len + n) p.cap e hml
                        have hcg := grownCap_ge w (len + n) p.cap e
                        have hown := grow_owns w e z hi4 (us ++ ws) (grownCap w (len + n) p.cap e) (by omega) hcm
                        have hobj : (us.toArray ++ ws.toArray ++ Builtin.zeroCells z.cells (grownCap w (len + n) p.cap e - (len + n))) = ((us ++ ws).toArray ++ Builtin.zeroCells z.cells (grownCap w (len + n) p.cap e - (us ++ ws).length)) := by
                          rw [hlen]; simp
                        rw [hobj] at hrun
                        refine ⟨_, _, _, hrun, ?_, hm.renew (p' := ⟨w.heap.size, 0, grownCap w (len + n) p.cap e⟩) hg e1 hcat ((kp_grow w _ _)) ⟨rfl, hown⟩ (.inr (Nat.le_refl _))⟩
                        simp only [dS, Env.upd_same, Option.bind_some]
                        rw [if_pos (by omega)]
                        simp
                    · cases hs

theorem elemA_ok {o : Option TypeDesc} {e : Nat} (h : elemA P o = some e) : o = some (.slice e) ∧ okI (P.info? e) = true := by
  unfold elemA at h
  split at h
  · rename_i e'
    cases hb : okI (P.info? e') with
    | false => rw [hb] at h; cases h
    | true => rw [hb] at h; injection h with h; subst h; exact ⟨rfl, hb⟩
  · cases h

theorem map_arr (args : Array Operand) : args.map ρ = (args.toList.map ρ).toArray := by
  apply Array.ext'; simp
theorem op_builtin (hm : MR val η st w) (hr : RO val η r ρ) (b : Builtin) (args : Array Operand) (ats : Array TypeId) (ty : TypeId) (cs : Array Bool) :
    ResOk val P η st w (builtin b ats ty cs (args.map ρ)) (callB P st b ats.toList (scalsO (argsX r args.toList))) := by
  cases ha : argsX r args.toList with
  | none => trivial
  | some vs =>
    have hd := argsX_ok hr ha
    cases hs : scals vs with
    | none => simp only [scalsO, hs, callB]; trivial
    | some ss =>
      have hds := scals_ok hs hd
      simp only [scalsO, hs]
      rw [map_arr]
      obtain ⟨ts⟩ := ats
      simp only
      generalize args.toList.map ρ = as at *
      match ss, hds with
      | [], _ => simp only [callB]; trivial
      | [x], hds =>
        simp only [dL, Option.bind_eq_some_iff, Option.map_eq_some_iff] at hds
        obtain ⟨u, h1, _, h2, h3⟩ := hds
        injection h2 with h2; subst h2
        subst h3
        cases b <;> simp only [callB] <;> try trivial
        match ts with
        | [] => trivial
        | [t] =>
          simp only
          refine ok_resS hm fun s hs => ?_
          unfold lenT at hs
          split at hs
          · rename_i e he
            cases hl : lenX x with
            | none => rw [hl] at hs; cases hs
            | some n =>
              rw [hl] at hs
              injection hs with hs; subst hs
              obtain ⟨a, c, rfl⟩ := lenX_ok h1 hl
              refine ⟨_, ?_, rfl⟩
              simp only [builtin]
              exact run_v (by simp [Builtin.len_, run_underlying he w, goInt])
          · cases hs
        | _ :: _ :: _ => trivial
      | [x, y], hds =>
        simp only [dL, Option.bind_eq_some_iff, Option.map_eq_some_iff] at hds
        obtain ⟨u, h1, _, ⟨v, h2, _, h4, h5⟩, h3⟩ := hds
        injection h4 with h4; subst h4
        subst h5; subst h3
        cases b <;> simp only [callB] <;> try trivial
        match ts with
        | [] => trivial
        | [_] => trivial
        | [t, t'] =>
          simp only
          cases hb : Nat.beq t t' with
          | false => trivial
          | true =>
            simp only [beq_dec, decide_eq_true_eq] at hb
            subst hb
            simp only [cond_true]
            cases he : elemA P (P.underlying t) with
            | none => trivial
            | some e =>
              obtain ⟨e1, e2⟩ := elemA_ok he
              simp only [appE]
              cases hap : appendX e st x y with
              | none => trivial
              | some q =>
                obtain ⟨c, st'⟩ := q
                obtain ⟨η', z, w', a1, a2, a3⟩ := op_append (P := P) (ty := ty) hm h1 h2 e1 e2 hap
                refine ⟨η', z, w', ?_, a2, a3⟩
                simp only [builtin]
                exact run_v a1
        | _ :: _ :: _ :: _ => trivial
      | _ :: _ :: _ :: _, _ => simp only [callB]; trivial

/-- EACH OPERATION. -/
theorem opX_ok (hS : Sat val F) (hm : MR val η st w) (hr : RO val η r ρ) (o : Oper) : ResOk val P η st w (execOp ρ o) (opX P F r st o.op) := by
  obtain ⟨dst, op, type, pos, after, guard⟩ := o
  cases op <;> simp only [opX] <;> try trivial
  case move x => exact ok_resO hm fun v hv => ⟨ρ x, rfl, hr x v hv⟩
  case assign x => exact ok_resO hm fun v hv => ⟨ρ x, rfl, hr x v hv⟩
  case alloc t => exact op_alloc hm t
  case box t x => exact op_box hm hr t x
  case build t parts => exact op_build hm hr t parts
  case buildSlice t len parts => exact op_buildSlice hm hr t len parts
  case load t x => exact op_load hm hr t x
  case store t x y => exact op_store hm hr t x y
  case nilCheck x => exact op_nil hm hr x _ rfl
  case binOp op t x y yt => exact op_bin hS hm hr op t x y
  case convert src dst x => exact op_conv hS hm hr src dst x
  case sliceToArrayPointer t x => exact op_s2a hm hr t x
  case slice t x lo hi mx => exact op_slice hm hr t x lo hi mx
  case field t x f => exact op_field hm hr t x f
  case indexAddr t x ix => exact op_ix hm hr t x ix
  case call c =>
    obtain ⟨callee, args, ats⟩ := c
    cases callee <;> simp only [callC] <;> try trivial
    · rename_i f
      cases hf : sc1 r f with
      | none => trivial
      | some s =>
        cases s <;> try trivial
        rename_i g
        cases ha : argsX r args.toList with
        | none => trivial
        | some vs =>
          simp only [callV]
          have hg := sc1_ok hr hf
          simp only [dS, Option.some.injEq] at hg
          refine ⟨rfl, args.toList.map ρ, argsX_ok hr ha, ?_⟩
          simp [execOp, resolve, ← hg, Deferred.ofValue, invoke, map_arr (ρ := ρ) args]
    · rename_i b
      exact op_builtin hm hr b args ats type _
end
end Go.SX
