/- The executor: operations, code, calls: definitions alone. -/
import Derived.Test.YtopoejfnbnejpaaX1
namespace Go.SX

/-! ### values written out -/
def fnOf : Fn → Bool → Option SC
  | .func f, true => some (.func f)
  | _, _ => none
def scOf : Value → Option SC
  | .bool b => some (.bool b)
  | .int k n => some (.int k n)
  | .pointer none => some .nilp
  | .slice none 0 0 => some .snil
  | .nilIface => some .niface
  | .func fn first cap => fnOf fn (first.isEmpty && cap.isEmpty)
  | _ => none
def scsOf : List Value → Option (List SC)
  | [] => some []
  | v :: l => match scOf v, scsOf l with
    | some s, some t => some (s :: t)
    | _, _ => none
def avOf : Value → Option AV
  | .agg cs => (scsOf cs.toList).map .agg
  | v => (scOf v).map .sc

section
variable (P : Program) (F : Nd → Option Nat)

def aggD : Option TypeDesc → Option Bool
  | some (.struct _) => some true
  | some (.array _ _) => some true
  | some _ => some false
  | none => none
def isAggT (t : TypeId) : Option Bool := aggD (P.underlying t)
def sizeT (t : TypeId) : Option Nat := match P.info? t with | some i => some i.size | none => none
def zeroT (t : TypeId) : Option (List SC) :=
  match P.info? t with
  | some i => match i.zero with
    | some v => scsOf v.cells.toList
    | none => none
  | none => none

def consL {α : Type} (a : α) : Option (List α) → Option (List α)
  | some l => some (a :: l)
  | none => none
def putAt {α : Type} : List α → Nat → List α → Option (List α)
  | l, _, [] => some l
  | [], _, _ :: _ => none
  | _ :: l, 0, y :: ys => consL y (putAt l 0 ys)
  | x :: l, o + 1, y :: ys => consL x (putAt l o (y :: ys))

def cut {α : Type} (l : List α) (o n : Nat) : Option (List α) :=
  bif Nat.ble (o + n) l.length then some ((l.drop o).take n) else none

/-! ### memory -/
noncomputable def newBlk (st : St) (k : BK) (cells : List SC) : Nat × St :=
  (st.nh, { mem := st.mem.set st.nh ⟨k, cells⟩, nh := st.nh + 1 })
noncomputable def readN (st : St) (h o n : Nat) : Option (List SC) :=
  match st.mem.get h with
  | some B => cut B.cells o n
  | none => none
noncomputable def setO (st : St) (h : Nat) (k : BK) : Option (List SC) → Option St
  | some cells => some { st with mem := st.mem.set h ⟨k, cells⟩ }
  | none => none
noncomputable def writeN (st : St) (h o : Nat) (vs : List SC) : Option St :=
  match st.mem.get h with
  | some ⟨k, cells⟩ => match k with
    | .ro => none
    | k => setO st h k (putAt cells o vs)
  | none => none

/-! ### integers -/
def uns (k : IntKind) : Bool := match k with | .u8 | .u32 | .u64 | .u16 => true | _ => false

def natBits (op : BinOp) (k : IntKind) (a b : Int) : Option Int :=
  match op with
  | .and => some (k.wrap ((BitVec.ofInt k.bits a &&& BitVec.ofInt k.bits b).toNat))
  | .or => some (k.wrap ((BitVec.ofInt k.bits a ||| BitVec.ofInt k.bits b).toNat))
  | .xor => some (k.wrap ((BitVec.ofInt k.bits a ^^^ BitVec.ofInt k.bits b).toNat))
  | .andNot => some (k.wrap ((BitVec.ofInt k.bits a &&& ~~~ BitVec.ofInt k.bits b).toNat))
  | _ => none

def intO (k : IntKind) : Option Int → Option SC
  | some x => some (.int k x)
  | none => none
def litOp (op : BinOp) (k : IntKind) (a b : Int) : Option SC :=
  match op with
  | .add => some (.int k (k.wrap (a + b)))
  | .sub => some (.int k (k.wrap (a - b)))
  | .mul => some (.int k (k.wrap (a * b)))
  | .quo => bif b == 0 then none else some (.int k (k.wrap (a.tdiv b)))
  | .rem => bif b == 0 then none else some (.int k (a.tmod b))
  | .and => intO k (natBits .and k a b)
  | .or => intO k (natBits .or k a b)
  | .xor => intO k (natBits .xor k a b)
  | .andNot => intO k (natBits .andNot k a b)
  | .eql => some (.bool (a == b))
  | .neq => some (.bool (a != b))
  | .lss => some (.bool (a < b))
  | .leq => some (.bool (a ≤ b))
  | .gtr => some (.bool (a > b))
  | .geq => some (.bool (a ≥ b))
  | _ => none

def symOp (op : BinOp) (b : Nat) (x y : WX) : Option WX :=
  match op with
  | .add => addW F b x y
  | .xor => xorW F b x y
  | .or => orW F b x y
  | _ => none
/-- A form and a literal. -/
def symLit (op : BinOp) (b : Nat) (x : WX) (n : Nat) : Option WX :=
  match op with
  | .add => addC F b x n
  | .xor => xorC F b x n
  | .or => bif Nat.beq n 0 then some x else none
  | _ => none
def symO (k : IntKind) : Option WX → Option SC
  | some x => some (.sym k x)
  | none => none

def isShift : BinOp → Bool
  | .shl => true
  | .shr => true
  | _ => false
def shlLit (k : IntKind) (a : Int) (n : Nat) : SC := .int k (k.wrap (a * 2 ^ (min n k.bits)))
def shrLit (k : IntKind) (a : Int) (n : Nat) : SC := .int k (a.fdiv (2 ^ (min n k.bits)))
def shX (op : BinOp) (x : SC) (n : Nat) : Option SC :=
  match x with
  | .int k a => match op with
    | .shl => some (shlLit k a n)
    | _ => some (shrLit k a n)
  | .sym k x => bif uns k then (match op with
    | .shl => symO k (shlW F k.bits x n)
    | _ => symO k (shrW F k.bits x n)) else none
  | _ => none
def shB (op : BinOp) (x : SC) : SC → Option SC
  | .int _ b => bif b < 0 then none else shX F op x b.toNat
  | _ => none
def inK (k : IntKind) (n : Int) : Bool := decide (0 ≤ n) && decide (n < 2 ^ k.bits)
def arB (op : BinOp) (x y : SC) : Option SC :=
  match x with
  | .int k a => match y with
    | .int k' b => bif k == k' then litOp op k a b else none
    | .sym k' b => bif k == k' && uns k && inK k a then symO k (symLit F op k.bits b a.toNat) else none
    | _ => none
  | .sym k a => match y with
    | .int k' b => bif k == k' && uns k && inK k b then symO k (symLit F op k.bits a b.toNat) else none
    | .sym k' b => bif k == k' && uns k then symO k (symOp F op k.bits a b) else none
    | _ => none
  | _ => none
def binX (op : BinOp) (x y : SC) : Option SC := bif isShift op then shB F op x y else arB F op x y

/-- A word read as another kind. -/
def convW (k k' : IntKind) (x : WX) : Option WX :=
  bif Nat.beq k.bits k'.bits then some x else pkO [] (litBytes 0 (k'.bits / 8 - k.bits / 8)) (bytesOf F k.bits x 0 (min (k.bits / 8) (k'.bits / 8)))
def convX (k' : IntKind) (x : SC) : Option SC :=
  match x with
  | .int _ n => some (.int k' (k'.wrap n))
  | .sym k x => bif uns k' && uns k then symO k' (convW F k k' x) else none
  | _ => none

def ixIn (lim : Nat) (n : Int) : Option Nat := bif decide (0 ≤ n) && decide (n ≤ lim) then some n.toNat else none
/-- A bound of a cut: what it is where none is given, and the greatest that may be. -/
def bdX (dflt lim : Nat) : Option SC → Option Nat
  | none => some dflt
  | some (.int _ n) => ixIn lim n
  | _ => none
def pairL (h : Nat) : Option Nat → Option (Nat × Nat)
  | some l => some (l, h)
  | none => none
def loX (lo : Option SC) : Option Nat → Option (Nat × Nat)
  | some h => pairL h (bdX 0 h lo)
  | none => none
def boundsX (len cap : Nat) (lo hi : Option SC) : Option (Nat × Nat) := loX lo (bdX len cap hi)
def cutArr (h o n : Nat) : Option (Nat × Nat) → Option SC
  | some (l, hh) => bif Nat.blt l n then some (.sl h (o + l) (hh - l) (n - l)) else none
  | none => none
def cutSl (h o cap : Nat) : Option (Nat × Nat) → Option SC
  | some (l, hh) => bif Nat.blt l cap || Nat.beq l 0 then some (.sl h (o + l) (hh - l) (cap - l)) else none
  | none => none
def cutSlc (h o len : Nat) : Option (Nat × Nat) → Option SC
  | some (l, hh) => bif Nat.blt l len || Nat.beq l 0 then some (.slc h (o + l) (hh - l)) else none
  | none => none
def sliceA (n : Nat) (x : SC) (lo hi : Option SC) : Option Nat → Option SC
  | some 1 => match x with
    | .ptr h o => cutArr h o n (boundsX n n lo hi)
    | _ => none
  | _ => none
def sliceS (x : SC) (lo hi : Option SC) : Option Nat → Option SC
  | some 1 => match x with
    | .sl h o len cap => cutSl h o cap (boundsX len cap lo hi)
    | .slc h o len => cutSlc h o len (boundsX len len lo hi)
    | _ => none
  | _ => none
def sliceX (x : SC) (lo hi : Option SC) : Option TypeDesc → Option SC
  | some (.array n e) => sliceA n x lo hi (sizeT P e)
  | some (.slice e) => sliceS x lo hi (sizeT P e)
  | _ => none

def natIx (x : SC) (len : Nat) : Option Nat :=
  match x with
  | .int _ n => bif decide (0 ≤ n) && decide (n < len) then some n.toNat else none
  | _ => none

def fillX (place : Nat → Option (Nat × Nat)) (cells : List SC) : List (Nat × List SC) → Option (List SC)
  | [] => some cells
  | (i, v) :: rest =>
    match place i with
    | none => none
    | some (off, size) => bif Nat.beq v.length size && Nat.ble (off + size) cells.length then
        match putAt cells off v with
        | some cells' => fillX place cells' rest
        | none => none
      else none

def lenX (x : SC) : Option Nat :=
  match x with
  | .sl _ _ n _ => some n
  | .slc _ _ n => some n
  | .snil => some 0
  | _ => none

noncomputable def firstX (st : St) (x : SC) (n : Nat) : Option (List SC) :=
  match x with
  | .sl h o _ _ => readN st h o n
  | .slc h o _ => readN st h o n
  | .snil => some []
  | _ => none

inductive Res where
  | val (v : XV) (st : St)
  | unit (st : St)
  | call (f : FuncId) (args : List XV) (st : St)
  | no

noncomputable def newS (e : Nat) (st : St) (cells : List SC) (len : Nat) : SC × St := (.slc st.nh 0 len, (newBlk st (.gr e) cells).2)
noncomputable def apGrow (e : Nat) (st : St) (len : Nat) (new : List SC) : Option (List SC) → Option (SC × St)
  | some old => some (newS e st (old ++ new) len)
  | none => none
noncomputable def apOwn (e : Nat) (st : St) (h len n : Nat) (new : List SC) : Option Blk → Option (SC × St)
  | some ⟨.gr e', cells⟩ => bif Nat.beq e e' && Nat.beq cells.length len then some (newS e { st with mem := st.mem.del h } (cells ++ new) (len + n)) else none
  | _ => none
noncomputable def appendS (e : Nat) (st : St) (n : Nat) (new : List SC) : SC → Option (SC × St)
  | .sl h o len cap => bif Nat.ble (len + n) cap then none else apGrow e st (len + n) new (readN st h o len)
  | .slc h 0 len => apOwn e st h len n new (st.mem.get h)
  | _ => none
noncomputable def append2 (e : Nat) (st : St) (s : SC) (n : Nat) : Option (List SC) → Option (SC × St)
  | some new => appendS e st n new s
  | none => none
noncomputable def append1 (e : Nat) (st : St) (s x : SC) : Option Nat → Option Nat → Option (SC × St)
  | some m, some n => bif Nat.ble (m + n) 1000000 then append2 e st s n (firstX st x n) else none
  | _, _ => none
/-- What is appended: a slice that is not nil. -/
def notNil : SC → Bool
  | .sl _ _ _ _ => true
  | .slc _ _ _ => true
  | _ => false
noncomputable def appendX (e : Nat) (st : St) (s x : SC) : Option (SC × St) := bif notNil x then append1 e st s x (lenX s) (lenX x) else none

def scals : List XV → Option (List SC)
  | [] => some []
  | x :: l => match x.scal, scals l with
    | some s, some m => some (s :: m)
    | _, _ => none

def cutA (cs : List SC) (off : Nat) : Option Nat → Option XV
  | some n => match cut cs off n with
    | some l => some (.av (.agg l))
    | none => none
  | none => none
def getS : Option SC → Option XV
  | some s => some (.s s)
  | none => none
def partB (t : TypeId) (cs : List SC) (off : Nat) : Option Bool → Option XV
  | some true => cutA cs off (sizeT P t)
  | some false => getS cs[off]?
  | none => none
def partX (t : TypeId) (cs : List SC) (off : Nat) : Option XV := partB P t cs off (isAggT P t)

def partsX (r : Operand → Option XV) : List (Nat × Operand) → Option (List (Nat × List SC))
  | [] => some []
  | (i, x) :: l => match r x, partsX r l with
    | some v, some m => match v.cells with
      | some cs => some ((i, cs) :: m)
      | none => none
    | _, _ => none

def argsX (r : Operand → Option XV) : List Operand → Option (List XV)
  | [] => some []
  | x :: l => match r x, argsX r l with
    | some v, some m => some (v :: m)
    | _, _ => none

def rep {α : Type} (n : Nat) (l : List α) : List α := (List.replicate n l).flatten

def scalO (r : Operand → Option XV) : Option Operand → Option (Option SC)
  | none => some none
  | some x => match r x with
    | some v => match v.scal with
      | some s => some (some s)
      | none => none
    | none => none

def sc1 (r : Operand → Option XV) (x : Operand) : Option SC :=
  match r x with
  | some v => v.scal
  | none => none

def placesX : List Field → Option (List (Nat × Nat))
  | [] => some []
  | f :: l => match sizeT P f.type, placesX l with
    | some n, some m => some ((f.offset, n) :: m)
    | _, _ => none

/-! ### one operation: an arm each (small terms: the kernel copies a definition's whole body at each use) -/
def resO : Option XV → St → Res
  | some v, st => .val v st
  | none, _ => .no
def resS : Option SC → St → Res
  | some v, st => .val (.s v) st
  | none, _ => .no
def resA : Option (List SC) → St → Res
  | some v, st => .val (.av (.agg v)) st
  | none, _ => .no
def resSS : Option (SC × St) → Res
  | some (v, st) => .val (.s v) st
  | none => .no
def resU : Option St → Res
  | some st => .unit st
  | none => .no
noncomputable def resNew (k : BK) (st : St) (mk : Nat → SC) : Option (List SC) → Res
  | some cs => .val (.s (mk st.nh)) (newBlk st k cs).2
  | none => .no

def cellsO : Option XV → Option (List SC)
  | some v => v.cells
  | none => none
def fillArr (z : List SC) (ps : List (Nat × List SC)) : Option Nat → Option (List SC)
  | some n => fillX (fun i => some (i * n, n)) z ps
  | none => none
def fillStruct (z : List SC) (ps : List (Nat × List SC)) : Option (List (Nat × Nat)) → Option (List SC)
  | some pl => fillX (pl[·]?) z ps
  | none => none
def buildX1 (z : List SC) (ps : List (Nat × List SC)) : Option TypeDesc → Option (List SC)
  | some (.struct fs) => fillStruct z ps (placesX P fs.toList)
  | some (.array _ e) => fillArr z ps (sizeT P e)
  | _ => none
def buildX (t : TypeId) : Option (List SC) → Option (List (Nat × List SC)) → Option (List SC)
  | some z, some ps => buildX1 P z ps (P.underlying t)
  | _, _ => none
def buildSl1 (len : Nat) (ps : List (Nat × List SC)) : Option Nat → Option (List SC) → Option (List SC)
  | some n, some z => bif Nat.ble (len * n) 65536 && Nat.beq z.length n then fillX (fun i => some (i * n, n)) (rep len z) ps else none
  | _, _ => none
def buildSl (len : Nat) : Option TypeDesc → Option (List (Nat × List SC)) → Option (List SC)
  | some (.slice e), some ps => buildSl1 len ps (sizeT P e) (zeroT P e)
  | _, _ => none
noncomputable def loadAgg (st : St) (h o : Nat) : Option Nat → Res
  | some n => resA (readN st h o n) st
  | none => .no
def one : Option (List SC) → Option SC
  | some [s] => some s
  | _ => none
noncomputable def loadB (t : TypeId) (st : St) (h o : Nat) : Option Bool → Res
  | some true => loadAgg st h o (sizeT P t)
  | some false => resS (one (readN st h o 1)) st
  | none => .no
noncomputable def loadX (t : TypeId) (st : St) : Option SC → Res
  | some (.ptr h o) => loadB P t st h o (isAggT P t)
  | _ => .no
noncomputable def storeX1 (st : St) (h o : Nat) : Option (List SC) → Option Nat → Res
  | some cs, some n => bif Nat.beq cs.length n then resU (writeN st h o cs) else .no
  | _, _ => .no
noncomputable def storeX (t : TypeId) (st : St) (v : Option XV) : Option SC → Res
  | some (.ptr h o) => storeX1 st h o (cellsO v) (sizeT P t)
  | _ => .no
noncomputable def nilX (st : St) : Option SC → Res
  | some (.ptr h o) => .val (.s (.ptr h o)) st
  | _ => .no
def bin2 (op : BinOp) : Option SC → Option SC → Option SC
  | some a, some b => binX F op a b
  | _, _ => none
def isSlT : Option TypeDesc → Bool
  | some (.slice _) => true
  | _ => false
def eqB (op : BinOp) (b t : Bool) : Option SC :=
  match op with
  | .eql => bif t then some (.bool b) else none
  | _ => none
def nilEq1 (op : BinOp) (b : Bool) (ud : Option TypeDesc) : SC → Option SC
  | .snil => eqB op b (isSlT ud)
  | _ => none
/-- A slice against nil. -/
def nilEq (op : BinOp) (t : TypeId) (y : SC) : SC → Option SC
  | .sl _ _ _ _ => nilEq1 op false (P.underlying t) y
  | .slc _ _ _ => nilEq1 op false (P.underlying t) y
  | .snil => nilEq1 op true (P.underlying t) y
  | _ => none
def orS : Option SC → Option SC → Option SC
  | some x, _ => some x
  | none, y => y
def bin3 (op : BinOp) (t : TypeId) : Option SC → Option SC → Option SC
  | some a, some b => orS (nilEq P op t b a) (binX F op a b)
  | _, _ => none
def conv2 (a : SC) : Option TypeDesc → Option SC
  | some (.int k) => convX F k a
  | _ => none
def conv1 (ud : Option TypeDesc) : Option SC → Option SC
  | some a => conv2 F a ud
  | none => none
def isBytes : Option TypeDesc → Bool
  | some (.slice e) => match P.underlying e with
    | some (.int .u8) => true
    | _ => false
  | _ => false
/-- '[]byte("..")': a block of its own that is marked as a string's: from now on it is only read. -/
noncomputable def roO (st : St) (h o len cap : Nat) : Option Blk → Res
  | some ⟨.rw, cells⟩ => .val (.s (.sl h o len cap)) { st with mem := st.mem.set h ⟨.ro, cells⟩ }
  | _ => .no
noncomputable def convSl (st : St) : Option SC → Res
  | some (.sl h o len cap) => roO st h o len cap (st.mem.get h)
  | _ => .no
def isSomeT : Option TypeDesc → Bool
  | some _ => true
  | none => false
noncomputable def convR (st : St) (src dst : TypeId) (a : Option SC) : Res :=
  bif Nat.beq src dst && isBytes P (P.underlying src) then convSl st a else bif isSomeT (P.underlying src) then resS (conv1 F (P.underlying dst) a) st else .no
def s2a : Option TypeDesc → Option SC → Option SC
  | some (.array n _), some (.sl h o len _) => bif Nat.ble n len then some (.ptr h o) else none
  | some (.array n _), some (.slc h o len) => bif Nat.ble n len then some (.ptr h o) else none
  | _, _ => none
def slice4 (t : TypeId) : Option SC → Option (Option SC) → Option (Option SC) → Option (Option SC) → Option SC
  | some a, some l, some h, some none => sliceX P a l h (P.underlying t)
  | _, _, _, _ => none
def fieldX (f : Nat) : Option TypeDesc → Option XV → Option XV
  | some (.struct fs), some (.av (.agg cs)) => match fs[f]? with
    | some fd => partX P fd.type cs fd.offset
    | none => none
  | _, _ => none
def ptrAt (h o : Nat) : Option Nat → Option Nat → Option SC
  | some j, some m => some (.ptr h (o + j * m))
  | _, _ => none
def ixAddr : Option TypeDesc → Option SC → Option SC → Option SC
  | some (.array n e), some (.ptr h o), some i => ptrAt h o (natIx i n) (sizeT P e)
  | some (.slice e), some (.sl h o n _), some i => ptrAt h o (natIx i n) (sizeT P e)
  | some (.slice e), some (.slc h o n), some i => ptrAt h o (natIx i n) (sizeT P e)
  | _, _, _ => none
def scalsO : Option (List XV) → Option (List SC)
  | some vs => scals vs
  | none => none
def natS : Option Nat → Option SC
  | some n => some (.int .i64 (n : Nat))
  | none => none
noncomputable def lenT (x : SC) : Option TypeDesc → Option SC
  | some (.slice _) => natS (lenX x)
  | _ => none
def okI : Option TypeInfo → Bool
  | some i => Nat.beq i.size 1 && Nat.ble i.bytes 64 && (match i.zero with
    | some v => Nat.beq v.cells.size 1
    | none => false)
  | none => false
/-- The element of a slice type that is appended to: one cell, a zero value, no more than 64 bytes. -/
def elemA : Option TypeDesc → Option Nat
  | some (.slice e) => bif okI (P.info? e) then some e else none
  | _ => none
noncomputable def appE (st : St) (s x : SC) : Option Nat → Option (SC × St)
  | some e => appendX e st s x
  | none => none
noncomputable def callB (st : St) (b : Builtin) (ts : List TypeId) : Option (List SC) → Res
  | some [x] => match b, ts with
    | .len, [t] => resS (lenT x (P.underlying t)) st
    | _, _ => .no
  | some [s, x] => match b, ts with
    | .append, [t, u] => bif Nat.beq t u then resSS (appE st s x (elemA P (P.underlying t))) else .no
    | _, _ => .no
  | _ => .no
def callV (st : St) : Option SC → Option (List XV) → Res
  | some (.func g), some vs => .call g vs st
  | _, _ => .no
noncomputable def callC (r : Operand → Option XV) (st : St) (c : Call) : Callee → Res
  | .builtin b => callB P st b c.argTypes.toList (scalsO (argsX r c.args.toList))
  | .value f => callV st (sc1 r f) (argsX r c.args.toList)
  | _ => .no

/-- One operation. -/
noncomputable def opX (r : Operand → Option XV) (st : St) (o : Op) : Res :=
  match o with
  | .move x => resO (r x) st
  | .assign x => resO (r x) st
  | .alloc t => resNew .rw st (.ptr · 0) (zeroT P t)
  | .box _ x => resNew .rw st (.ptr · 0) (cellsO (r x))
  | .build t parts => resA (buildX P t (zeroT P t) (partsX r parts.toList)) st
  | .buildSlice t len parts => resNew .rw st (.sl · 0 len len) (buildSl P len (P.underlying t) (partsX r parts.toList))
  | .load t x => loadX P t st (sc1 r x)
  | .store t x y => storeX P t st (r y) (sc1 r x)
  | .nilCheck x => nilX st (sc1 r x)
  | .binOp op t x y _ => resS (bin3 P F op t (sc1 r x) (sc1 r y)) st
  | .convert src dst x => convR P F st src dst (sc1 r x)
  | .sliceToArrayPointer t x => resS (s2a (P.underlying t) (sc1 r x)) st
  | .slice t x lo hi mx => resS (slice4 P t (sc1 r x) (scalO r lo) (scalO r hi) (scalO r mx)) st
  | .field t x f => resO (fieldX P f (P.underlying t) (r x)) st
  | .indexAddr t x ix => resS (ixAddr P (P.underlying t) (sc1 r x) (sc1 r ix)) st
  | .call c => callC P r st c c.callee
  | _ => .no

end

/-! ### code -/
inductive Out where
  | normal
  | exit (id : Nat)
  | ret

noncomputable def Fr.put (fr : Fr) (d : Option Tmp) (v : XV) : Option Fr :=
  match d with
  | none => some fr
  | some d => bif Nat.blt d fr.size then some { fr with tmps := fr.tmps.set d v } else none

def avO : Option AV → Option XV
  | some a => some (.av a)
  | none => none
noncomputable def Fr.eval (ng : Nat) (fr : Fr) : Operand → Option XV
  | .tmp t => fr.tmps.get t
  | .const v => avO (avOf v)
  | .global g => bif Nat.blt g ng then some (.s (.ptr g 0)) else none
  | .func f => some (.s (.func f))

def guardV (want : Bool) : Option XV → Option Bool
  | some (.av (.sc (.bool b))) => some (b == want)
  | some .undef => some false
  | _ => none
noncomputable def guardO (want : Bool) (fr : Fr) : Option Oper → Option Bool
  | some oj => match oj.dst with
    | some d => guardV want (fr.tmps.get d)
    | none => none
  | none => none
noncomputable def guardX (ops : Array Oper) (fr : Fr) (o : Oper) : Option Bool :=
  match o.guard with
  | none => some true
  | some (j, want) => guardO want fr ops[j]?

noncomputable def initT : Nat → List XV → Tr XV → Tr XV
  | _, [], t => t
  | i, v :: l, t => initT (i + 1) l (t.set i v)

def cons3 : Option XV → Option (List XV) → Option (List XV)
  | some a, some l => some (a :: l)
  | _, _ => none
def oneS : Option (List SC) → Option XV
  | some [s] => some (.s s)
  | _ => none
def aggS : Option (List SC) → Option XV
  | some l => some (.av (.agg l))
  | none => none
noncomputable def aggN (st : St) (h o : Nat) : Option Nat → Option XV
  | some n => aggS (readN st h o n)
  | none => none
noncomputable def cellB (P : Program) (st : St) (t : TypeId) (h o : Nat) : Option Bool → Option XV
  | some true => aggN st h o (sizeT P t)
  | some false => oneS (readN st h o 1)
  | none => none
noncomputable def cellR (P : Program) (st : St) (t : TypeId) : Option XV → Option XV
  | some (.av (.sc (.ptr h o))) => cellB P st t h o (isAggT P t)
  | _ => none
noncomputable def resV (P : Program) (fr : Fr) (st : St) : ResultVar → Option XV
  | .tmp t => fr.tmps.get t
  | .cell a t => cellR P st t (fr.tmps.get a)
noncomputable def resX (P : Program) (fr : Fr) (st : St) : List ResultVar → Option (List XV)
  | [] => some []
  | r :: l => cons3 (resV P fr st r) (resX P fr st l)

def tupO : Option (List AV) → Option XV
  | some l => some (.tup l)
  | none => none
def consA (a : AV) : Option (List AV) → Option (List AV)
  | some l => some (a :: l)
  | none => none
def avs : List XV → Option (List AV)
  | [] => some []
  | .av a :: l => consA a (avs l)
  | _ => none
def resOne : List XV → Option XV
  | [v] => some v
  | l => tupO (avs l)

noncomputable def Fr.putO (d : Option Tmp) (v : XV) (st : St) (fr : Fr) : Option (Fr × St) :=
  match fr.put d v with
  | some fr => some (fr, st)
  | none => none
def boolO : Option XV → Option Bool
  | some (.av (.sc (.bool t))) => some t
  | _ => none
noncomputable def retV (st : St) : Option (List XV) → Option (XV × St)
  | some l => match resOne l with
    | some v => some (v, st)
    | none => none
  | none => none
noncomputable def retX (P : Program) (fn : Func) : Option (Out × Fr × St) → Option (XV × St)
  | some (.exit _, _, _) => none
  | some (.normal, fr, st') => retV st' (resX P fr st' fn.results.toList)
  | some (.ret, fr, st') => retV st' (resX P fr st' fn.results.toList)
  | none => none
def outBlock (id : Nat) : Option (Out × Fr × St) → Option (Out × Fr × St)
  | some (.exit id', fr, st) => bif Nat.beq id' id then some (.normal, fr, st) else some (.exit id', fr, st)
  | r => r
def outRegion : Option (Fr × St) → Option (Out × Fr × St)
  | some (fr, st) => some (.normal, fr, st)
  | none => none
def thenX (k : Fr → St → Option (Out × Fr × St)) : Option (Out × Fr × St) → Option (Out × Fr × St)
  | some (.normal, fr, st) => k fr st
  | r => r
def thenO (k : Fr → St → Option (Fr × St)) : Option (Fr × St) → Option (Fr × St)
  | some (fr, st) => k fr st
  | none => none
noncomputable def putC (d : Option Tmp) (fr : Fr) : Option (XV × St) → Option (Fr × St)
  | some (v, st) => fr.putO d v st
  | none => none
noncomputable def startX (fn : Func) (args : List XV) : Fr := { size := Nat.max fn.ntmps args.length, tmps := initT 0 args .nil }

abbrev CallT := FuncId → List XV → St → Option (XV × St)
/-- What an operation has become. -/
noncomputable def resPut (call : CallT) (d : Option Tmp) (fr : Fr) : Res → Option (Fr × St)
  | .val v st => fr.putO d v st
  | .unit st => fr.putO d .undef st
  | .call f args st => putC d fr (call f args st)
  | .no => none
noncomputable def opGo (P : Program) (F : Nd → Option Nat) (ng : Nat) (call : CallT) (o : Oper) (fr : Fr) (st : St) : Option Bool → Option (Fr × St)
  | some true => resPut call o.dst fr (opX P F (fr.eval ng) st o.op)
  | some false => fr.putO o.dst .undef st
  | none => none
/-- Operations in the text's order. -/
noncomputable def opsGo (P : Program) (F : Nd → Option Nat) (ng : Nat) (call : CallT) (ops : Array Oper) (l : List Oper) : Fr → St → Option (Fr × St) :=
  List.rec (motive := fun _ => Fr → St → Option (Fr × St)) (fun fr st => some (fr, st))
    (fun o _ ih fr st => thenO ih (opGo P F ng call o fr st (guardX ops fr o))) l

/-! ### a region that draws its order: what yields in whatever world first, then each order, and all come to the same end -/
def deps (S : Nat) : List Edge → Bool
  | [] => true
  | e :: l => (bif Region.binds .any e then Nat.testBit S e.on else true) && deps S l
def rdy (S : Nat) : Nat → List Oper → List (Nat × Oper)
  | _, [] => []
  | i, o :: l => bif !Nat.testBit S i && deps S o.after.toList then (i, o) :: rdy S (i + 1) l else rdy S (i + 1) l
def hasEdge (i : Nat) : List Edge → Bool
  | [] => false
  | e :: l => (Region.binds .any e && Nat.beq e.on i) || hasEdge i l
def freeL (ops : Array Oper) (S i : Nat) (oi : Oper) : Nat → List Oper → Bool
  | _, [] => true
  | j, o :: l => (Nat.beq j i || Nat.testBit S j || hasEdge i o.after.toList || oi.apart ops o) && freeL ops S i oi (j + 1) l
def isSel : Op → Bool
  | .select _ _ => true
  | _ => false
def noSel : List Oper → Bool
  | [] => true
  | o :: l => !isSel o.op && noSel l
def scO : Option SC → Option XV
  | some s => some (.s s)
  | none => none
def nilP : Option SC → Option XV
  | some (.ptr h o) => some (.s (.ptr h o))
  | _ => none
/-- What yields the same in whatever world. -/
def pureX (P : Program) (F : Nd → Option Nat) (r : Operand → Option XV) (o : Op) : Option XV :=
  match o with
  | .move x => r x
  | .assign x => r x
  | .nilCheck x => nilP (sc1 r x)
  | .binOp op t x y _ => scO (bin3 P F op t (sc1 r x) (sc1 r y))
  | .indexAddr t x ix => scO (ixAddr P (P.underlying t) (sc1 r x) (sc1 r ix))
  | _ => none
def pureG (P : Program) (F : Nd → Option Nat) (r : Operand → Option XV) (o : Oper) : Option (Nat × Bool) → Option XV
  | none => pureX P F r o.op
  | some _ => none
def pickF (i : Nat) (o : Oper) (rest : Option (Nat × Oper × XV)) (free : Bool) : Option XV → Option (Nat × Oper × XV)
  | some v => bif free then some (i, o, v) else rest
  | none => rest
def pick (P : Program) (F : Nd → Option Nat) (r : Operand → Option XV) (ops : Array Oper) (S : Nat) : List (Nat × Oper) → Option (Nat × Oper × XV)
  | [] => none
  | (i, o) :: l => pickF i o (pick P F r ops S l) (freeL ops S i o 0 ops.toList) (pureG P F r o o.guard)

def Tr.same {α : Type} [BEq α] : Tr α → Tr α → Bool
  | .nil, .nil => true
  | .node v l r, .node v' l' r' => v == v' && l.same l' && r.same r'
  | _, _ => false
def same2 : Option (Fr × St) → Option (Fr × St) → Bool
  | some (f, s), some (f', s') => Nat.beq f.size f'.size && f.tmps.same f'.tmps && s.mem.same s'.mem && Nat.beq s.nh s'.nh
  | _, _ => false
def brs (step : Nat × Oper → Option (Fr × St)) (r : Option (Fr × St)) : List (Nat × Oper) → Option (Fr × St)
  | [] => r
  | x :: l => bif same2 (step x) r then brs step r l else none
def branch (step : Nat × Oper → Option (Fr × St)) (fr : Fr) (st : St) : List (Nat × Oper) → Option (Fr × St)
  | [] => some (fr, st)
  | x :: l => brs step (step x) l
noncomputable def anyOp (P : Program) (F : Nd → Option Nat) (ng : Nat) (call : CallT) (ops : Array Oper) (ih : Nat → Fr → St → Option (Fr × St)) (S : Nat) (fr : Fr) (st : St) (x : Nat × Oper) : Option (Fr × St) :=
  thenO (ih (S ||| 2 ^ x.1)) (opGo P F ng call x.2 fr st (guardX ops fr x.2))
noncomputable def anyPick (ih : Nat → Fr → St → Option (Fr × St)) (br : Option (Fr × St)) (S : Nat) (fr : Fr) (st : St) : Option (Nat × Oper × XV) → Option (Fr × St)
  | some (i, o, v) => thenO (ih (S ||| 2 ^ i)) (fr.putO o.dst v st)
  | none => br
noncomputable def anyStep (P : Program) (F : Nd → Option Nat) (ng : Nat) (call : CallT) (ops : Array Oper) (ih : Nat → Fr → St → Option (Fr × St)) (S : Nat) (fr : Fr) (st : St) (l : List (Nat × Oper)) : Option (Fr × St) :=
  anyPick ih (branch (anyOp P F ng call ops ih S fr st) fr st l) S fr st (pick P F (fr.eval ng) ops S l)
def endAny (fr : Fr) (st : St) : List (Nat × Oper) → Option (Fr × St)
  | [] => some (fr, st)
  | _ :: _ => none
noncomputable def goAny (P : Program) (F : Nd → Option Nat) (ng : Nat) (call : CallT) (ops : Array Oper) (n : Nat) : Nat → Fr → St → Option (Fr × St) :=
  Nat.rec (motive := fun _ => Nat → Fr → St → Option (Fr × St)) (fun S fr st => endAny fr st (rdy S 0 ops.toList))
    (fun _ ih S fr st => anyStep P F ng call ops ih S fr st (rdy S 0 ops.toList)) n
noncomputable def drawGo (P : Program) (F : Nd → Option Nat) (ng : Nat) (call : CallT) (ops : Array Oper) (fr : Fr) (st : St) : Option (Fr × St) :=
  bif noSel ops.toList then goAny P F ng call ops ops.size 0 fr st else none

/-! ### a region whose operations only read: the text's order serves every order -/
def edgesLt (i : Nat) : List Edge → Bool
  | [] => true
  | e :: es => (bif Region.binds .any e then Nat.blt e.on i else true) && edgesLt i es
def apartAll (ops : Array Oper) (k : Nat) (o : Oper) : List Oper → Bool
  | [] => true
  | x :: l => (hasEdge k x.after.toList || o.apart ops x) && apartAll ops k o l
def lexG (ops : Array Oper) : Nat → List Oper → Bool
  | _, [] => true
  | k, o :: l => edgesLt k o.after.toList && apartAll ops k o l && lexG ops (k + 1) l
def isQ : Op → Bool
  | .move _ => true
  | .assign _ => true
  | .nilCheck _ => true
  | .binOp _ _ _ _ _ => true
  | .indexAddr _ _ _ => true
  | .load _ _ => true
  | .convert src dst _ => !Nat.beq src dst
  | _ => false
def allQ : List Oper → Bool
  | [] => true
  | o :: l => isQ o.op && allQ l
def valR : Res → Option XV
  | .val v _ => some v
  | _ => none
def conv3 (P : Program) (F : Nd → Option Nat) (dst : TypeId) (a : Option SC) (b : Bool) : Option XV :=
  bif b then scO (conv1 F (P.underlying dst) a) else none
noncomputable def readX (P : Program) (F : Nd → Option Nat) (r : Operand → Option XV) (st : St) (o : Op) : Option XV :=
  match o with
  | .load t x => valR (loadX P t st (sc1 r x))
  | .convert src dst x => conv3 P F dst (sc1 r x) (!Nat.beq src dst && isSomeT (P.underlying src))
  | _ => pureX P F r o
noncomputable def putF (fr : Fr) (d : Option Tmp) : Option XV → Option Fr
  | some v => fr.put d v
  | none => none
noncomputable def qOpX (P : Program) (F : Nd → Option Nat) (ng : Nat) (o : Oper) (fr : Fr) (st : St) : Option Bool → Option Fr
  | some true => putF fr o.dst (readX P F (fr.eval ng) st o.op)
  | some false => fr.put o.dst .undef
  | none => none
def thenF (k : Fr → Option Fr) : Option Fr → Option Fr
  | some fr => k fr
  | none => none
noncomputable def quietL (P : Program) (F : Nd → Option Nat) (ng : Nat) (ops : Array Oper) (st : St) (l : List Oper) : Fr → Option Fr :=
  List.rec (motive := fun _ => Fr → Option Fr) (fun fr => some fr) (fun o _ ih fr => thenF ih (qOpX P F ng o fr st (guardX ops fr o))) l
def outQ (st : St) : Option Fr → Option (Fr × St)
  | some fr => some (fr, st)
  | none => none
noncomputable def drawAll (P : Program) (F : Nd → Option Nat) (ng : Nat) (call : CallT) (ops : Array Oper) (fr : Fr) (st : St) : Option (Fr × St) :=
  bif allQ ops.toList && lexG ops 0 ops.toList then outQ st (quietL P F ng ops st ops.toList fr) else drawGo P F ng call ops fr st

noncomputable def callB1 (run : Code → Fr → St → Option (Out × Fr × St)) (P : Program) (fn : Func) (args : List XV) (st : St) : Option Code → Option (XV × St)
  | some c => bif fn.name == "runtime.NumGoroutine" then none else retX P fn (run c (startX fn args) st)
  | none => none
noncomputable def callF (run : Code → Fr → St → Option (Out × Fr × St)) (P : Program) (args : List XV) (st : St) : Option Func → Option (XV × St)
  | some fn => callB1 run P fn args st fn.body
  | none => none
def orR {α : Type} : Option α → Option α → Option α
  | some x, _ => some x
  | none, y => y
/-- A call: by a summary, if there is one ('sm'), else by its text. -/
noncomputable def callGo (sm : CallT) (run : Code → Fr → St → Option (Out × Fr × St)) (P : Program) (f : FuncId) (args : List XV) (st : St) : Option (XV × St) :=
  orR (sm f args st) (callF run P args st P.funcs[f]?)
def condX (run : Code → Fr → St → Option (Out × Fr × St)) (a b : Code) (fr : Fr) (st : St) : Option Bool → Option (Out × Fr × St)
  | some t => run (bif t then a else b) fr st
  | none => none

/-- A step of code over what does the rest. -/
noncomputable def stepX (P : Program) (F : Nd → Option Nat) (ng : Nat) (sm : CallT) (run : Code → Fr → St → Option (Out × Fr × St)) (c : Code) (fr : Fr) (st : St) : Option (Out × Fr × St) :=
  match c with
  | .skip => some (.normal, fr, st)
  | .label _ => some (.normal, fr, st)
  | .seq a b => thenX (run b) (run a fr st)
  | .cond x a b => condX run a b fr st (boolO (fr.eval ng x))
  | .block id a => outBlock id (run a fr st)
  | .loop a => thenX (run (.loop a)) (run a fr st)
  | .exit id => some (.exit id, fr, st)
  | .ret => some (.ret, fr, st)
  | .region _ ops d => bif d then outRegion (drawAll P F ng (callGo sm run P) ops fr st)
      else outRegion (opsGo P F ng (callGo sm run P) ops ops.toList fr st)
  | _ => none
/-- Code, with fuel. -/
noncomputable def runX (P : Program) (F : Nd → Option Nat) (ng : Nat) (sm : CallT) (n : Nat) : Code → Fr → St → Option (Out × Fr × St) :=
  Nat.rec (motive := fun _ => Code → Fr → St → Option (Out × Fr × St)) (fun _ _ _ => none) (fun _ ih => stepX P F ng sm ih) n
theorem runX_zero (P : Program) (F : Nd → Option Nat) (ng : Nat) (sm : CallT) (c : Code) (fr : Fr) (st : St) : runX P F ng sm 0 c fr st = none := rfl
theorem runX_succ (P : Program) (F : Nd → Option Nat) (ng : Nat) (sm : CallT) (n : Nat) (c : Code) (fr : Fr) (st : St) : runX P F ng sm (n + 1) c fr st = stepX P F ng sm (runX P F ng sm n) c fr st := rfl
/-- A call. -/
noncomputable def callX (P : Program) (F : Nd → Option Nat) (ng : Nat) (sm : CallT) (n : Nat) (f : FuncId) (args : List XV) (st : St) : Option (XV × St) :=
  callGo sm (runX P F ng sm n) P f args st
def noSum : CallT := fun _ _ _ => none
end Go.SX
