/- Memory: what the executor's blocks stand for, and what reading, writing and making them does. -/
import Derived.Test.YtopoejfnbnejpaaX4
import Derived.Laws.AppendOwn
namespace Go.SX
variable {val : Nat → Nat} {P : Program}

def BR (w : World) (p : Pl) (k : BK) (vs : List Value) : Prop :=
  match k with
  | .rw => p.o = 0 ∧ ∃ T, w.heap[p.b]? = some (.cells vs.toArray T (0, 0))
  | .gr e => p.o = 0 ∧ w.ownsRow 0 e 1 (.slice (some ⟨p.b, 0, none⟩) vs.length p.cap) vs.length vs
  | .ro => p.b < w.heap.size ∧ ∀ i v, vs[i]? = some v → w.cell? ⟨p.b, p.o + i, none⟩ = some v

theorem owns_heap {w : World} {e b n cap : Nat} {xs : List Value} (h : w.ownsRow 0 e 1 (.slice (some ⟨b, 0, none⟩) n cap) n xs) :
    ∃ cur, w.heap[b]? = some (.cells cur e (0, 0)) ∧ n ≤ cap ∧ cap ≤ maxLen ∧ cur.size = cap ∧ cur.toList.take n = xs ∧ xs.length = n := by
  obtain ⟨h1, h2⟩ := h
  rcases h2 with ⟨h2, _⟩ | ⟨g, c, cur, hv, _, hg, a1, a2, a3, a4⟩
  · cases h2
  · simp only [Value.slice.injEq, Option.some.injEq, Addr.mk.injEq, and_true, true_and] at hv
    obtain ⟨rfl, rfl⟩ := hv
    exact ⟨cur, hg, a1, a2, by simpa using a3, by simpa using a4, by simpa using h1⟩

theorem BR.lt {w : World} {p : Pl} {k : BK} {vs : List Value} (h : BR w p k vs) : p.b < w.heap.size := by
  cases k with
  | rw => obtain ⟨_, T, h⟩ := h; exact (Array.getElem?_eq_some_iff.1 h).1
  | gr e => obtain ⟨_, h⟩ := h; obtain ⟨cur, h, _⟩ := owns_heap h; exact (Array.getElem?_eq_some_iff.1 h).1
  | ro => exact h.1
theorem BR.cell {w : World} {p : Pl} {k : BK} {vs : List Value} (h : BR w p k vs) {i : Nat} {v : Value} (hv : vs[i]? = some v) : w.cell? ⟨p.b, p.o + i, none⟩ = some v := by
  cases k with
  | rw => obtain ⟨h0, T, h⟩ := h; simp [World.cell?, h, h0, hv]
  | gr e =>
    obtain ⟨h0, h⟩ := h
    obtain ⟨cur, h, _, _, _, h4, _⟩ := owns_heap h
    have : cur[i]? = some v := by
      rw [← h4, List.getElem?_take] at hv
      split at hv
      · simpa using hv
      · cases hv
    simp [World.cell?, h, h0, this]
  | ro => exact h.2 i v hv
/-- A block that has not been turned reads as it did. -/
theorem BR.kept {w w' : World} {p : Pl} {k : BK} {vs : List Value} (h : BR w p k vs) (hb : w'.heap[p.b]? = w.heap[p.b]?) : BR w' p k vs := by
  have hlt := h.lt
  cases k with
  | rw => obtain ⟨h0, T, h⟩ := h; exact ⟨h0, T, hb.trans h⟩
  | gr e =>
    obtain ⟨h0, h1, h2⟩ := h
    refine ⟨h0, h1, ?_⟩
    rcases h2 with h2 | ⟨g, c, cur, hv, a0, hg, rest⟩
    · exact .inl h2
    · have : g = p.b := by simp only [Value.slice.injEq, Option.some.injEq, Addr.mk.injEq] at hv; exact hv.1.1.symm
      subst this
      exact .inr ⟨_, c, cur, hv, a0, hb.trans hg, rest⟩
  | ro =>
    refine ⟨?_, fun i v hv => by rw [World.cell?_of_block (w := w) (by exact hb)]; exact h.2 i v hv⟩
    have : (w'.heap[p.b]?).isSome = true := by rw [hb]; simp [hlt]
    simpa using this

structure MR (val : Nat → Nat) (η : Env) (st : St) (w : World) : Prop where
  blk : ∀ h B, st.mem.get h = some B → ∃ p vs, η h = some p ∧ dL val η B.cells = some vs ∧ BR w p B.kind vs
  sep : ∀ h h' B B' p p', st.mem.get h = some B → st.mem.get h' = some B' → η h = some p → η h' = some p' → h ≠ h' → B.kind ≠ .ro → p.b ≠ p'.b
  fresh : ∀ h, st.nh ≤ h → η h = none

/-- The blocks that may be written. -/
def own (η : Env) (st : St) (k : Nat) : Prop := ∃ h B p, st.mem.get h = some B ∧ B.kind ≠ .ro ∧ η h = some p ∧ p.b = k

structure KP (S : Nat → Prop) (w w' : World) : Prop where
  os : w'.os = w.os
  tape : w'.tape = w.tape
  output : w'.output = w.output
  size : w.heap.size ≤ w'.heap.size
  block : ∀ k, k < w.heap.size → ¬ S k → w'.heap[k]? = w.heap[k]?
theorem KP.refl (S : Nat → Prop) (w : World) : KP S w w := ⟨rfl, rfl, rfl, Nat.le_refl _, fun _ _ _ => rfl⟩

structure STP (val : Nat → Nat) (η : Env) (st : St) (w : World) (η' : Env) (st' : St) (w' : World) : Prop where
  le : η.le η'
  mr : MR val η' st' w'
  kp : KP (own η st) w w'
  grow : ∀ k, own η' st' k → own η st k ∨ w.heap.size ≤ k
  nh : st.nh ≤ st'.nh
  same : ∀ h, h < st.nh → η' h = η h
  newb : ∀ h p, st.nh ≤ h → η' h = some p → own η st p.b ∨ w.heap.size ≤ p.b

theorem STP.refl {η : Env} {st : St} {w : World} (h : MR val η st w) : STP val η st w η st w :=
  ⟨Env.le_refl _, h, KP.refl _ _, fun _ h => .inl h, Nat.le_refl _, fun _ _ => rfl, fun g p hg hp => by rw [h.fresh g hg] at hp; cases hp⟩
theorem STP.trans {η₁ η₂ η₃ : Env} {s₁ s₂ s₃ : St} {w₁ w₂ w₃ : World} (a : STP val η₁ s₁ w₁ η₂ s₂ w₂) (b : STP val η₂ s₂ w₂ η₃ s₃ w₃) : STP val η₁ s₁ w₁ η₃ s₃ w₃ :=
  ⟨Env.le_trans a.le b.le, b.mr,
   ⟨b.kp.os.trans a.kp.os, b.kp.tape.trans a.kp.tape, b.kp.output.trans a.kp.output, Nat.le_trans a.kp.size b.kp.size, fun k hk hn => by
     have : ¬ own η₂ s₂ k := fun h => by
       rcases a.grow k h with h | h
       · exact hn h
       · omega
     rw [b.kp.block k (Nat.lt_of_lt_of_le hk a.kp.size) this, a.kp.block k hk hn]⟩,
   fun k h => by
     rcases b.grow k h with h | h
     · exact a.grow k h
     · exact .inr (Nat.le_trans a.kp.size h),
   Nat.le_trans a.nh b.nh,
   fun h hh => (b.same h (Nat.lt_of_lt_of_le hh a.nh)).trans (a.same h hh),
   fun h p hh hp => by
     by_cases hlt : h < s₂.nh
     · exact a.newb h p hh ((b.same h hlt).symm.trans hp)
     · rcases b.newb h p (by omega) hp with e | e
       · exact a.grow _ e
       · exact .inr (Nat.le_trans a.kp.size e)⟩

def Env.upd (η : Env) (h : Nat) (p : Pl) : Env := fun k => if k = h then some p else η k
theorem Env.upd_same (η : Env) (h : Nat) (p : Pl) : η.upd h p h = some p := by simp [Env.upd]
theorem Env.upd_other {η : Env} {h k : Nat} {p : Pl} (hk : k ≠ h) : η.upd h p k = η k := by simp [Env.upd, hk]
theorem Env.le_upd {η : Env} {h : Nat} {p : Pl} (hn : η h = none) : η.le (η.upd h p) := fun k q hq => by
  unfold Env.upd
  split
  · rename_i e; subst e; rw [hn] at hq; cases hq
  · exact hq

theorem MR.known {η : Env} {st : St} {w : World} (h : MR val η st w) {g : Nat} {p : Pl} (hg : η g = some p) : g < st.nh := by
  rcases Nat.lt_or_ge g st.nh with h1 | h1
  · exact h1
  · rw [h.fresh g h1] at hg; cases hg

/-- A new block, in a world that is as it was but for that (and draws). -/
theorem MR.new {η : Env} {st : St} {w w' : World} (h : MR val η st w) {k : BK} {cells : List SC} {vs : List Value} {p : Pl} (hd : dL val η cells = some vs)
    (hkp : KP (fun _ => False) w w') (hb : BR w' p k vs) (hp : w.heap.size ≤ p.b) :
    STP val η st w (η.upd st.nh p) (newBlk st k cells).2 w' := by
  have hn : η st.nh = none := h.fresh _ (Nat.le_refl _)
  have hle : η.le (η.upd st.nh p) := Env.le_upd hn
  have hold : ∀ g B, (newBlk st k cells).2.mem.get g = some B → (g = st.nh ∧ B = ⟨k, cells⟩) ∨ (g ≠ st.nh ∧ st.mem.get g = some B) := by
    intro g B hg
    simp only [newBlk, Tr.get_set] at hg
    split at hg
    · exact .inl ⟨by assumption, by simpa using hg.symm⟩
    · exact .inr ⟨by assumption, hg⟩
  have hlt : ∀ g B q, st.mem.get g = some B → η g = some q → q.b < w.heap.size := fun g B q hg hq => by
    obtain ⟨q', vs', e1, _, e3⟩ := h.blk g B hg
    rw [hq] at e1; injection e1 with e1; subst e1
    exact e3.lt
  refine ⟨hle, ⟨?_, ?_, ?_⟩, ⟨hkp.os, hkp.tape, hkp.output, hkp.size, fun k hk _ => hkp.block k hk (fun h => h)⟩, ?_, by simp [newBlk], fun g hg => Env.upd_other (by omega), fun g q hg hq => ?_⟩
  · intro g B hg
    rcases hold g B hg with ⟨rfl, rfl⟩ | ⟨hne, hg⟩
    · exact ⟨p, vs, Env.upd_same _ _ _, dL_mono hle hd, hb⟩
    · obtain ⟨q, us, e1, e2, e3⟩ := h.blk g B hg
      exact ⟨q, us, hle _ _ e1, dL_mono hle e2, e3.kept (hkp.block _ e3.lt (fun h => h))⟩
  · intro g g' B B' q q' hg hg' hq hq' hne hk
    rcases hold g B hg with ⟨rfl, rfl⟩ | ⟨h1, hg⟩
    · rcases hold g' B' hg' with ⟨rfl, rfl⟩ | ⟨h2, hg'⟩
      · exact absurd rfl hne
      · rw [Env.upd_same] at hq; injection hq with hq; subst hq
        rw [Env.upd_other h2] at hq'
        have := hlt _ _ _ hg' hq'; omega
    · rw [Env.upd_other h1] at hq
      rcases hold g' B' hg' with ⟨rfl, rfl⟩ | ⟨h2, hg'⟩
      · rw [Env.upd_same] at hq'; injection hq' with hq'; subst hq'
        have := hlt _ _ _ hg hq; omega
      · rw [Env.upd_other h2] at hq'
        exact h.sep g g' B B' q q' hg hg' hq hq' hne hk
  · intro g hg
    simp only [newBlk] at hg
    rw [Env.upd_other (by omega)]
    exact h.fresh g (by omega)
  · rintro k' ⟨g, B, q, hg, hk, hq, rfl⟩
    rcases hold g B hg with ⟨rfl, rfl⟩ | ⟨h1, hg⟩
    · rw [Env.upd_same] at hq; injection hq with hq; subst hq
      exact .inr hp
    · rw [Env.upd_other h1] at hq
      exact .inl ⟨g, B, q, hg, hk, hq, rfl⟩
  · by_cases e : g = st.nh
    · subst e; rw [Env.upd_same] at hq; injection hq with hq; subst hq; exact .inr hp
    · rw [Env.upd_other e, h.fresh g hg] at hq; cases hq

theorem kp_alloc (w : World) (o : Obj) : KP (fun _ => False) w (w.alloc o) :=
  ⟨rfl, rfl, rfl, by simp, fun k hk _ => heap_alloc_old w o k hk⟩

/-- Laid as a new block of known cells. -/
theorem MR.alloc {η : Env} {st : St} {w : World} (h : MR val η st w) {cells : List SC} {vs : List Value} (T : TypeId) (hd : dL val η cells = some vs) :
    STP val η st w (η.upd st.nh ⟨w.heap.size, 0, vs.length⟩) (newBlk st .rw cells).2 (w.alloc (.cells vs.toArray T)) :=
  h.new hd (kp_alloc w _) ⟨rfl, T, heap_alloc_new w _⟩ (Nat.le_refl _)

theorem cut_ok {α : Type} {l m : List α} {o n : Nat} (h : cut l o n = some m) : o + n ≤ l.length ∧ m = (l.drop o).take n := by
  unfold cut at h
  cases hc : Nat.ble (o + n) l.length with
  | false => rw [hc] at h; cases h
  | true =>
    rw [hc] at h
    injection h with h
    exact ⟨Nat.le_of_ble_eq_true hc, h.symm⟩

theorem MR.read {η : Env} {st : St} {w : World} (h : MR val η st w) {g o n : Nat} {l : List SC} (hr : readN st g o n = some l) :
    ∃ p vs, η g = some p ∧ dL val η l = some vs ∧ vs.length = n ∧ ∀ j v, vs[j]? = some v → w.cell? ⟨p.b, p.o + o + j, none⟩ = some v := by
  unfold readN at hr
  cases hg : st.mem.get g with
  | none => rw [hg] at hr; cases hr
  | some B =>
    rw [hg] at hr
    obtain ⟨p, vs, e1, e2, e3⟩ := h.blk g B hg
    obtain ⟨c1, rfl⟩ := cut_ok hr
    have hl := dL_length e2
    refine ⟨p, _, e1, dL_cut o n e2, by simp; omega, fun j v hv => ?_⟩
    rw [List.getElem?_take] at hv
    split at hv
    · rw [List.getElem?_drop] at hv
      have := e3.cell hv
      rwa [← Nat.add_assoc] at this
    · cases hv

theorem putAt_len {α : Type} : ∀ {l m l' : List α} {o : Nat}, putAt l o m = some l' → l'.length = l.length ∧ (m ≠ [] → o + m.length ≤ l.length)
  | l, [], l', o, h => by
    have : l' = l := by cases l <;> simpa [putAt, eq_comm] using h
    subst this; exact ⟨rfl, fun h => absurd rfl h⟩
  | [], y :: m, l', o, h => by simp [putAt] at h
  | x :: l, y :: m, l', 0, h => by
    simp only [putAt] at h
    cases hq : putAt l 0 m with
    | none => rw [hq] at h; cases h
    | some q =>
      rw [hq] at h; injection h with h; subst h
      obtain ⟨e1, e2⟩ := putAt_len hq
      refine ⟨by simp [e1], fun _ => ?_⟩
      cases m with
      | nil => simp
      | cons z m => have := e2 (by simp); simp at this ⊢; omega
  | x :: l, y :: m, l', o + 1, h => by
    simp only [putAt] at h
    cases hq : putAt l o (y :: m) with
    | none => rw [hq] at h; cases h
    | some q =>
      rw [hq] at h; injection h with h; subst h
      obtain ⟨e1, e2⟩ := putAt_len hq
      refine ⟨by simp [e1], fun _ => ?_⟩
      have := e2 (by simp); simp at this ⊢; omega

theorem dL_putAt {η : Env} : ∀ {l m l' : List SC} {vs ws : List Value} {o : Nat}, dL val η l = some vs → dL val η m = some ws → putAt l o m = some l' →
    dL val η l' = some (vs.take o ++ ws ++ vs.drop (o + ws.length))
  | l, [], l', vs, ws, o, h, k, hp => by
    have : l' = l := by cases l <;> simpa [putAt, eq_comm] using hp
    subst this
    simp [dL] at k; subst k
    simp [h]
  | [], y :: m, l', vs, ws, o, h, k, hp => by simp [putAt] at hp
  | x :: l, y :: m, l', vs, ws, 0, h, k, hp => by
    simp only [dL, Option.bind_eq_some_iff, Option.map_eq_some_iff] at h k
    obtain ⟨u, h1, w, h2, rfl⟩ := h
    obtain ⟨z, k1, t, k2, rfl⟩ := k
    simp only [putAt] at hp
    cases hq : putAt l 0 m with
    | none => rw [hq] at hp; cases hp
    | some q =>
      rw [hq] at hp
      injection hp with hp; subst hp
      have e2 := dL_putAt h2 k2 hq
      simp only [List.take_zero, List.nil_append, Nat.zero_add] at e2
      simp [dL, k1, e2]
  | x :: l, y :: m, l', vs, ws, o + 1, h, k, hp => by
    simp only [dL, Option.bind_eq_some_iff, Option.map_eq_some_iff] at h
    obtain ⟨u, h1, w, h2, rfl⟩ := h
    simp only [putAt] at hp
    cases hq : putAt l o (y :: m) with
    | none => rw [hq] at hp; cases hp
    | some q =>
      rw [hq] at hp
      injection hp with hp; subst hp
      have e2 := dL_putAt h2 k hq
      simp [dL, h1, e2, Nat.add_right_comm]

theorem take_splice {α : Type} (cl vs : List α) (n o : Nat) (h : o + vs.length ≤ n) (hn : n ≤ cl.length) :
    (cl.take o ++ vs ++ cl.drop (o + vs.length)).take n = (cl.take n).take o ++ vs ++ (cl.take n).drop (o + vs.length) := by
  rw [List.take_take, Nat.min_eq_left (by omega), List.drop_take, List.append_assoc, List.take_append, List.take_append]
  have e1 : (cl.take o).length = o := by simp; omega
  rw [e1, List.take_of_length_le (by omega), List.take_of_length_le (l := vs) (by omega), ← List.append_assoc]
  congr 2
  omega

/-- One block turned, its kind and place as they were. -/
theorem MR.turn {η : Env} {st : St} {w w' : World} (h : MR val η st w) {g : Nat} {k k' : BK} {cells cells' : List SC} {p : Pl} {vs' : List Value}
    (hg : st.mem.get g = some ⟨k, cells⟩) (hk : k ≠ .ro) (hp : η g = some p) (hd : dL val η cells' = some vs')
    (hkp : KP (fun b => b = p.b) w w') (hb : BR w' p k' vs') :
    STP val η st w η { st with mem := st.mem.set g ⟨k', cells'⟩ } w' := by
  have hold : ∀ f B, (st.mem.set g ⟨k', cells'⟩).get f = some B → (f = g ∧ B = ⟨k', cells'⟩) ∨ (f ≠ g ∧ st.mem.get f = some B) := by
    intro f B hf
    rw [Tr.get_set] at hf
    split at hf
    · exact .inl ⟨by assumption, by simpa using hf.symm⟩
    · exact .inr ⟨by assumption, hf⟩
  have hown : own η st p.b := ⟨g, _, p, hg, hk, hp, rfl⟩
  refine ⟨Env.le_refl _, ⟨?_, ?_, h.fresh⟩, ⟨hkp.os, hkp.tape, hkp.output, hkp.size, fun b hb hn => hkp.block b hb (fun e => hn (e ▸ hown))⟩, ?_, Nat.le_refl _, fun _ _ => rfl, fun f q hf hq => by rw [h.fresh f hf] at hq; cases hq⟩
  · intro f B hf
    rcases hold f B hf with ⟨rfl, rfl⟩ | ⟨hne, hf⟩
    · exact ⟨p, vs', hp, hd, hb⟩
    · obtain ⟨q, us, e1, e2, e3⟩ := h.blk f B hf
      refine ⟨q, us, e1, e2, e3.kept (hkp.block _ e3.lt (fun e => ?_))⟩
      exact h.sep g f _ B p q hg hf hp e1 (fun e => hne e.symm) hk e.symm
  · intro f f' B B' q q' hf hf' hq hq' hne hkk
    rcases hold f B hf with ⟨e1, e2⟩ | ⟨h1, hf2⟩
    · rcases hold f' B' hf' with ⟨e3, e4⟩ | ⟨h2, hf3⟩
      · exact absurd (e1.trans e3.symm) hne
      · exact h.sep g f' _ B' q q' hg hf3 (e1 ▸ hq) hq' (e1 ▸ hne) hk
    · rcases hold f' B' hf' with ⟨e3, e4⟩ | ⟨h2, hf3⟩
      · exact h.sep f g B _ q q' hf2 hg hq (e3 ▸ hq') (e3 ▸ hne) hkk
      · exact h.sep f f' B B' q q' hf2 hf3 hq hq' hne hkk
  · rintro b ⟨f, B, q, hf, hkk, hq, rfl⟩
    rcases hold f B hf with ⟨rfl, rfl⟩ | ⟨h1, hf⟩
    · exact .inl ⟨f, _, q, hg, hk, hq, rfl⟩
    · exact .inl ⟨f, B, q, hf, hkk, hq, rfl⟩

theorem kp_setRow (w : World) (g : Nat) (cs : Array Value) : KP (fun b => b = g) w (w.setRow g cs) :=
  ⟨rfl, rfl, rfl, by simp, fun k _ hn => setRow_other w g k cs hn⟩

/-- A store of cells: where, and what becomes of the world. -/
theorem MR.write {η : Env} {st st' : St} {w : World} (h : MR val η st w) {g o : Nat} {cs : List SC} {vs : List Value} (hd : dL val η cs = some vs) (hw : writeN st g o cs = some st') :
    ∃ p T cur, η g = some p ∧ p.o = 0 ∧ w.heap[p.b]? = some (.cells cur T (0, 0)) ∧ (vs ≠ [] → o + vs.length ≤ cur.size) ∧
      STP val η st w η st' (w.setRow p.b (cur.toList.take o ++ vs ++ cur.toList.drop (o + vs.length)).toArray) := by
  unfold writeN at hw
  cases hg : st.mem.get g with
  | none => rw [hg] at hw; cases hw
  | some B =>
    obtain ⟨k, cells⟩ := B
    rw [hg] at hw
    obtain ⟨p, us, e1, e2, e3⟩ := h.blk g _ hg
    have hlen := dL_length e2
    have hl2 := dL_length hd
    have go : ∀ cells', putAt cells o cs = some cells' → st' = { st with mem := st.mem.set g ⟨k, cells'⟩ } → k ≠ .ro →
        ∃ p T cur, η g = some p ∧ p.o = 0 ∧ w.heap[p.b]? = some (.cells cur T (0, 0)) ∧ (vs ≠ [] → o + vs.length ≤ cur.size) ∧
          STP val η st w η st' (w.setRow p.b (cur.toList.take o ++ vs ++ cur.toList.drop (o + vs.length)).toArray) := by
      intro cells' hc hst hk
      subst hst
      have hd' := dL_putAt e2 hd hc
      obtain ⟨c1, c2⟩ := putAt_len hc
      have hne : vs ≠ [] → o + vs.length ≤ us.length := fun hv => by
        have := c2 (fun e => hv (by subst e; simpa [dL, eq_comm] using hd))
        rw [hl2, hlen]; exact this
      cases k with
      | ro => exact absurd rfl hk
      | rw =>
        obtain ⟨h0, T, hh⟩ := e3
        refine ⟨p, T, us.toArray, e1, h0, hh, by simpa using hne, ?_⟩
        refine h.turn hg hk e1 hd' (kp_setRow _ _ _) ⟨h0, T, ?_⟩
        simpa using setRow_heap w p.b _ _ T _ hh
      | gr e =>
        obtain ⟨h0, hh⟩ := e3
        obtain ⟨cur, a1, a2, a3, a4, a5, a6⟩ := owns_heap hh
        have hcl : us.length ≤ cur.size := by omega
        refine ⟨p, e, cur, e1, h0, a1, fun hv => by have := hne hv; omega, ?_⟩
        refine h.turn hg hk e1 hd' (kp_setRow _ _ _) ⟨h0, ?_⟩
        have hlen' := dL_length hd'
        have hl3 : (List.take o us ++ vs ++ List.drop (o + vs.length) us).length = us.length := by rw [hlen', c1, hlen]
        refine ⟨by omega, .inr ⟨p.b, p.cap, _, rfl, Nat.zero_le _, setRow_heap w p.b _ _ e _ a1, by omega, a3, ?_, ?_⟩⟩
        · by_cases hv : vs = []
          · subst hv; simp; omega
          · have := hne hv
            simp; omega
        · by_cases hv : vs = []
          · subst hv; simp [a5]
          · have := hne hv
            rw [hl3, Nat.mul_one, List.toList_toArray, take_splice _ _ _ _ (by omega) (by simpa using hcl), a5]
    cases k with
    | ro => simp at hw
    | rw =>
      simp only [] at hw
      cases hc : putAt cells o cs with
      | none => rw [hc] at hw; cases hw
      | some cells' => rw [hc] at hw; simp only [setO, Option.some.injEq] at hw; exact go cells' hc hw.symm (by simp)
    | gr e =>
      simp only [] at hw
      cases hc : putAt cells o cs with
      | none => rw [hc] at hw; cases hw
      | some cells' => rw [hc] at hw; simp only [setO, Option.some.injEq] at hw; exact go cells' hc hw.symm (by simp)
end Go.SX
