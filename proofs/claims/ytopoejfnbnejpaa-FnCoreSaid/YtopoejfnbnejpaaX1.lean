/- A first-order executor for concretely steered code, whose words are forms over a table of named words: words, tries: definitions alone. -/
import Derived.Calls
import Derived.Orders
import Derived.Tactics
namespace Go.SX

/-! ### tries keyed by numbers (by recursors: the kernel evaluates them) -/
inductive Tr (α : Type) where
  | nil
  | node (v : Option α) (l r : Tr α)

noncomputable def Tr.get {α : Type} (t : Tr α) : Nat → Option α :=
  Tr.rec (motive := fun _ => Nat → Option α) (fun _ => none)
    (fun v _ _ il ir n => bif Nat.beq n 0 then v else bif Nat.beq (n % 2) 1 then il (n / 2) else ir (n / 2 - 1)) t

noncomputable def Tr.put {α : Type} (f : Nat) : Tr α → Nat → Option α → Tr α :=
  Nat.rec (motive := fun _ => Tr α → Nat → Option α → Tr α) (fun _ _ _ => .nil)
    (fun _ ih t n x => Tr.rec (motive := fun _ => Tr α)
      (bif Nat.beq n 0 then .node x .nil .nil else bif Nat.beq (n % 2) 1 then .node none (ih .nil (n / 2) x) .nil else .node none .nil (ih .nil (n / 2 - 1) x))
      (fun v l r _ _ => bif Nat.beq n 0 then .node x l r else bif Nat.beq (n % 2) 1 then .node v (ih l (n / 2) x) r else .node v l (ih r (n / 2 - 1) x)) t) f

theorem Tr.get_nil {α : Type} (n : Nat) : (Tr.nil : Tr α).get n = none := rfl
theorem Tr.get_node {α : Type} (v : Option α) (l r : Tr α) (n : Nat) :
    (Tr.node v l r).get n = bif Nat.beq n 0 then v else bif Nat.beq (n % 2) 1 then l.get (n / 2) else r.get (n / 2 - 1) := rfl
theorem Tr.put_zero {α : Type} (t : Tr α) (n : Nat) (x : Option α) : Tr.put 0 t n x = .nil := rfl
theorem Tr.put_nil {α : Type} (f n : Nat) (x : Option α) : Tr.put (f + 1) .nil n x =
    bif Nat.beq n 0 then .node x .nil .nil else bif Nat.beq (n % 2) 1 then .node none (Tr.put f .nil (n / 2) x) .nil else .node none .nil (Tr.put f .nil (n / 2 - 1) x) := rfl
theorem Tr.put_node {α : Type} (f n : Nat) (v : Option α) (l r : Tr α) (x : Option α) : Tr.put (f + 1) (.node v l r) n x =
    bif Nat.beq n 0 then .node x l r else bif Nat.beq (n % 2) 1 then .node v (Tr.put f l (n / 2) x) r else .node v l (Tr.put f r (n / 2 - 1) x) := rfl

theorem beq_dec (a b : Nat) : Nat.beq a b = decide (a = b) := by
  cases h : Nat.beq a b
  · have : a ≠ b := fun e => by subst e; simp at h
    simp [this]
  · have := Nat.eq_of_beq_eq_true h
    simp [this]
theorem ble_dec (a b : Nat) : Nat.ble a b = decide (a ≤ b) := by
  cases h : Nat.ble a b
  · have : ¬ a ≤ b := fun e => by rw [Nat.ble_eq_true_of_le e] at h; cases h
    simp [this]
  · have := Nat.le_of_ble_eq_true h
    simp [this]

/-- What is read behind a put. -/
theorem Tr.get_put {α : Type} : ∀ (f : Nat) (t : Tr α) (n m : Nat) (x : Option α), n < f → (Tr.put f t n x).get m = if m = n then x else t.get m
  | 0, _, _, _, _, h => by omega
  | f + 1, t, n, m, x, h => by
    have ih := @Tr.get_put α f
    have e1 : n ≠ 0 → n / 2 < f := by omega
    have e2 : n ≠ 0 → n / 2 - 1 < f := by omega
    cases t with
    | nil =>
      rw [Tr.put_nil]
      by_cases hn : n = 0
      · subst hn
        by_cases hm : m = 0 <;> simp [beq_dec, hm, Tr.get_node, Tr.get_nil]
      · by_cases hb : n % 2 = 1
        · by_cases hm : m = 0
          · subst hm; simp [beq_dec, hn, hb, Tr.get_node, Tr.get_nil]; omega
          · by_cases hc : m % 2 = 1
            · simp [beq_dec, hn, hb, hm, hc, Tr.get_node, Tr.get_nil, ih _ _ _ _ (e1 hn)]
              by_cases e : m = n
              · subst e; simp
              · rw [if_neg e, if_neg (by omega)]
            · simp [beq_dec, hn, hb, hm, hc, Tr.get_node, Tr.get_nil]; omega
        · by_cases hm : m = 0
          · subst hm; simp [beq_dec, hn, hb, Tr.get_node, Tr.get_nil]; omega
          · by_cases hc : m % 2 = 1
            · simp [beq_dec, hn, hb, hm, hc, Tr.get_node, Tr.get_nil]; omega
            · simp [beq_dec, hn, hb, hm, hc, Tr.get_node, Tr.get_nil, ih _ _ _ _ (e2 hn)]
              by_cases e : m = n
              · subst e; simp
              · rw [if_neg e, if_neg (by omega)]
    | node v l r =>
      rw [Tr.put_node, Tr.get_node]
      by_cases hn : n = 0
      · subst hn
        by_cases hm : m = 0 <;> simp [beq_dec, hm, Tr.get_node]
      · by_cases hb : n % 2 = 1
        · by_cases hm : m = 0
          · subst hm; simp [beq_dec, hn, hb, Tr.get_node]; omega
          · by_cases hc : m % 2 = 1
            · simp [beq_dec, hn, hb, hm, hc, Tr.get_node, ih _ _ _ _ (e1 hn)]
              by_cases e : m = n
              · subst e; simp
              · rw [if_neg e, if_neg (by omega)]
            · simp [beq_dec, hn, hb, hm, hc, Tr.get_node]; omega
        · by_cases hm : m = 0
          · subst hm; simp [beq_dec, hn, hb, Tr.get_node]; omega
          · by_cases hc : m % 2 = 1
            · simp [beq_dec, hn, hb, hm, hc, Tr.get_node]; omega
            · simp [beq_dec, hn, hb, hm, hc, Tr.get_node, ih _ _ _ _ (e2 hn)]
              by_cases e : m = n
              · subst e; simp
              · rw [if_neg e, if_neg (by omega)]

noncomputable def Tr.set {α : Type} (t : Tr α) (n : Nat) (x : α) : Tr α := Tr.put (n + 1) t n (some x)
noncomputable def Tr.del {α : Type} (t : Tr α) (n : Nat) : Tr α := Tr.put (n + 1) t n none
theorem Tr.get_set {α : Type} (t : Tr α) (n m : Nat) (x : α) : (t.set n x).get m = if m = n then some x else t.get m := Tr.get_put _ _ _ _ _ (by omega)
theorem Tr.get_del {α : Type} (t : Tr α) (n m : Nat) : (t.del n).get m = if m = n then none else t.get m := Tr.get_put _ _ _ _ _ (by omega)

/-! ### forms of words -/
/-- A byte: a number, or byte i of a named word. -/
inductive BA where
  | lit (n : Nat)
  | sub (r i : Nat)
deriving BEq, ReflBEq, LawfulBEq

inductive WX where
  | at (r : Nat)
  | pk (l : List BA)
  | sum (l : List Nat) (c : Nat)
  | shl (r n : Nat)
  | shr (r n : Nat)
deriving BEq, ReflBEq, LawfulBEq

/-- A named word: what it is made of. -/
inductive Nd where
  | wx (b : Nat) (x : WX)
  | xor (a b : Nat)
  | xorc (a c : Nat)
  | rot (b a n : Nat)
deriving BEq, ReflBEq, LawfulBEq

inductive SC where
  | bool (b : Bool)
  | int (k : IntKind) (n : Int)
  | sym (k : IntKind) (x : WX)
  | ptr (h o : Nat)
  | nilp
  | sl (h o len cap : Nat)
  | slc (h o len : Nat)
  | snil
  | iface (t h o : Nat)
  | niface
  | func (f : Nat)
deriving BEq, ReflBEq, LawfulBEq

inductive AV where
  | sc (s : SC)
  | agg (l : List SC)
deriving BEq, ReflBEq, LawfulBEq

inductive XV where
  | av (a : AV)
  | tup (l : List AV)
  | undef
deriving BEq, ReflBEq, LawfulBEq

inductive BK where
  | rw
  | gr (e : Nat)
  | ro
deriving BEq, ReflBEq, LawfulBEq

structure Blk where
  kind : BK
  cells : List SC
deriving BEq, ReflBEq, LawfulBEq

structure St where
  mem : Tr Blk
  nh : Nat

/-- The frame: its size, and what some of its slots hold. -/
structure Fr where
  size : Nat
  tmps : Tr XV

@[reducible] def XV.s (s : SC) : XV := .av (.sc s)
def XV.scal : XV → Option SC
  | .av (.sc s) => some s
  | _ => none
def XV.cells : XV → Option (List SC)
  | .av (.sc s) => some [s]
  | .av (.agg l) => some l
  | _ => none

/-! ### words: operations on forms, over the table 'F' (the name that a node bears) -/
section words
variable (F : Nd → Option Nat)

def eqSeq (r : Nat) : Nat → List BA → Bool
  | _, [] => true
  | i, .sub r' i' :: l => Nat.beq r r' && Nat.beq i i' && eqSeq r (i + 1) l
  | _, _ => false

/-- The name of a word. -/
def nameOf (b : Nat) (x : WX) : Option Nat :=
  match x with
  | .at r => some r
  | .pk (.sub r 0 :: l') => bif Nat.beq (l'.length * 8 + 8) b && eqSeq r 1 l' then some r else F (.wx b x)
  | .sum [r] 0 => some r
  | x => F (.wx b x)

def subO (i : Nat) : Option Nat → Option BA
  | some r => some (.sub r i)
  | none => none
/-- Byte i of a word. -/
def byteOf (b : Nat) (x : WX) (i : Nat) : Option BA :=
  match x with
  | .pk l => l[i]?
  | x => subO i (nameOf F b x)

def bytesOf (b : Nat) (x : WX) : Nat → Nat → Option (List BA)
  | _, 0 => some []
  | i, n + 1 => match byteOf F b x i, bytesOf b x (i + 1) n with
    | some a, some l => some (a :: l)
    | _, _ => none

def litBytes (n : Nat) : Nat → List BA
  | 0 => []
  | k + 1 => .lit (n % 256) :: litBytes (n / 256) k

def merge : Nat → List Nat → List Nat → List Nat
  | 0, l, m => l ++ m
  | _ + 1, [], m => m
  | _ + 1, l, [] => l
  | f + 1, a :: l, b :: m => bif Nat.ble a b then a :: merge f l (b :: m) else b :: merge f (a :: l) m

def oneT : Option Nat → Option (List Nat × Nat)
  | some r => some ([r], 0)
  | none => none
/-- The terms of a word as a sum. -/
def terms (b : Nat) (x : WX) : Option (List Nat × Nat) :=
  match x with
  | .sum l c => some (l, c)
  | x => oneT (nameOf F b x)

def add2 (b : Nat) : Option (List Nat × Nat) → Option (List Nat × Nat) → Option WX
  | some (l, c), some (m, d) => some (.sum (merge (l.length + m.length) l m) ((c + d) % 2 ^ b))
  | _, _ => none
def addW (b : Nat) (x y : WX) : Option WX := add2 b (terms F b x) (terms F b y)
def addC (b : Nat) (x : WX) (n : Nat) : Option WX := add2 b (terms F b x) (some ([], n))

def atO : Option Nat → Option WX
  | some r => some (.at r)
  | none => none
def xor2 : Option Nat → Option Nat → Option WX
  | some r, some s => atO (F (bif Nat.ble r s then .xor r s else .xor s r))
  | _, _ => none
def xorW (b : Nat) (x y : WX) : Option WX := xor2 F (nameOf F b x) (nameOf F b y)
def xorC1 (n : Nat) : Option Nat → Option WX
  | some r => atO (F (.xorc r n))
  | none => none
def xorC (b : Nat) (x : WX) (n : Nat) : Option WX :=
  bif Nat.beq n 0 then some x else xorC1 F n (nameOf F b x)

def pkO (l : List BA) (m : List BA) : Option (List BA) → Option WX
  | some k => some (.pk (l ++ k ++ m))
  | none => none
def shlO (n : Nat) : Option Nat → Option WX
  | some r => some (.shl r n)
  | none => none
def shrO (n : Nat) : Option Nat → Option WX
  | some r => some (.shr r n)
  | none => none
def shlW (b : Nat) (x : WX) (n : Nat) : Option WX :=
  bif Nat.beq n 0 then some x else
  bif Nat.ble b n then some (.pk (litBytes 0 (b / 8))) else
  bif Nat.beq (n % 8) 0 then pkO (litBytes 0 (n / 8)) [] (bytesOf F b x 0 (b / 8 - n / 8)) else shlO n (nameOf F b x)
def shrW (b : Nat) (x : WX) (n : Nat) : Option WX :=
  bif Nat.beq n 0 then some x else
  bif Nat.ble b n then some (.pk (litBytes 0 (b / 8))) else
  bif Nat.beq (n % 8) 0 then pkO [] (litBytes 0 (n / 8)) (bytesOf F b x (n / 8) (b / 8 - n / 8)) else shrO n (nameOf F b x)

def consO (a : BA) : Option (List BA) → Option (List BA)
  | some l => some (a :: l)
  | none => none
def orBytes : List BA → List BA → Option (List BA)
  | [], [] => some []
  | .lit 0 :: l, y :: m => consO y (orBytes l m)
  | x :: l, .lit 0 :: m => consO x (orBytes l m)
  | _, _ => none
def or2 : Option (List BA) → Option (List BA) → Option WX
  | some l, some m => pkO [] [] (orBytes l m)
  | _, _ => none
def orW (b : Nat) (x y : WX) : Option WX :=
  match x, y with
  | .shl r n, .shr s m => bif Nat.beq r s && Nat.beq (n + m) b then atO (F (.rot b r n)) else none
  | .pk l, y => or2 (some l) (bytesOf F b y 0 (b / 8))
  | x, .pk m => or2 (bytesOf F b x 0 (b / 8)) (some m)
  | _, _ => none
end words
end Go.SX
