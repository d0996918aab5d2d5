import PyProof.Rows.All
import PyProof.CodeObj
import PyProof.FactsAll.int_0
import PyProof.FactsAll.str_3
import PyProof.FactsAll.list_3
import PyProof.AutoIntOps
import PyProof.AutoSeq1
import PyProof.Cells
import PyProof.CompUse
import PyProof.CompFree
import PyProof.EqKinds
import PyProof.NeKinds
import PyProof.ExcBaseAll.Exception
import PyProof.StrBlockI
import PyProof.WalksMore
import PyProof.IsiPairs
import PyProof.ListIndexNeg
import PyProof.Rows.StrJoin2
import PyProof.StrCalls3
import PyProof.Rows.TupMore
import PyProof.SliceMore
import PyProof.Rows.SeqMore
import PyProof.Rows.RaiseClass
import PyProof.Rows.ExtendIn
import Wide.BytesRules
import OpenK.KWalk
import KE.KxBytes
import KE.BytesMake
import KE.KBytesWalk
import KE.KBytesCut
import KE.KIntText
import KE.KIsBytes
import KE.KTab
import KE.KToBytes
import KE.KxDecode
import OpenK.AllK
import Wide.All
import PySem.Challenge.RW_lo0005_01
set_option Elab.async false
section
set_option maxRecDepth 100000
open PySem
namespace Mine

inductive Bi where
  | len | chr | isinst | tlist | ttuple | tbarr | tbytes | tstr | tint | trange
  deriving Inhabited, DecidableEq
inductive MV where
  | none | bool (b : Bool) | int (i : Int) | str (s : Str) | bytes (b : List UInt8)
  | obj (i : Nat) | bi (b : Bi) | gl (a : Addr)
  deriving Inhabited

inductive MO where
  | list (xs : List MV) | tup (xs : List MV) | barr (b : List UInt8) | inst (C : Addr) (fs : List (Str × MV))
  | range (a b c : Int) | flist (xs : List MV)
  deriving Inhabited

structure St where
  objs : List MO
  loc : List (Str × MV)
  orc : List (Option Bool)
  deriving Inhabited

inductive Out (α : Type) where
  | ok (a : α) (st : St) (o : List (Bool × Bool))
  | exc (C : Addr) (st : St) (o : List (Bool × Bool))
  | bad (why : String)

noncomputable abbrev EvM (α : Type) := St → Out α

noncomputable def Out.pre {α : Type} (o : List (Bool × Bool)) : Out α → Out α
  | .ok a st o' => .ok a st (o ++ o')
  | .exc C st o' => .exc C st (o ++ o')
  | .bad w => .bad w
noncomputable def EvM.bind {α β : Type} (m : EvM α) (f : α → EvM β) : EvM β := fun st => match m st with
  | .ok a st' o => (f a st').pre o
  | .exc C st' o => .exc C st' o
  | .bad w => .bad w
noncomputable def EvM.pure {α : Type} (a : α) : EvM α := fun st => .ok a st []
noncomputable instance : Monad EvM where
  pure := EvM.pure
  bind := EvM.bind
noncomputable def stop {α : Type} (why : String) : EvM α := fun _ => .bad why
noncomputable def throwC {α : Type} (C : Addr) : EvM α := fun st => .exc C st []
noncomputable def getSt : EvM St := fun st => .ok st st []
noncomputable def setSt (s : St) : EvM Unit := fun _ => .ok () s []

noncomputable def dec (b : Bool) : EvM Bool := fun st => match st.orc with
  | [] => .bad "oracle"
  | .none :: r => (match b with
    | true => .ok true { st with orc := r } []
    | false => .ok false { st with orc := r } [])
  | some c :: r => .ok c { st with orc := r } [(b, c)]
noncomputable def need (b : Bool) (why : String) : EvM Unit := do
  match ← dec b with
  | true => pure ()
  | false => stop why

noncomputable def natsEq : List Nat → List Nat → Bool
  | [], [] => true
  | a :: x, b :: y => match Nat.beq a b with
    | true => natsEq x y
    | false => false
  | _, _ => false
noncomputable def strEq (a b : Str) : Bool := natsEq a.cps.toList b.cps.toList
noncomputable def u8sEq : List UInt8 → List UInt8 → Bool
  | [], [] => true
  | a :: x, b :: y => match Nat.beq a.toNat b.toNat with
    | true => u8sEq x y
    | false => false
  | _, _ => false
noncomputable def lookS {α : Type} (x : Str) : List (Str × α) → Option α
  | [] => none
  | (y, v) :: r => match strEq x y with
    | true => some v
    | false => lookS x r
noncomputable def putS {α : Type} (x : Str) (v : α) : List (Str × α) → List (Str × α)
  | [] => [(x, v)]
  | (y, u) :: r => match strEq x y with
    | true => (y, v) :: r
    | false => (y, u) :: putS x v r
noncomputable def lookA {α : Type} (a : Nat) : List (Nat × α) → Option α
  | [] => none
  | (b, v) :: r => match Nat.beq a b with
    | true => some v
    | false => lookA a r

structure FnInfo where
  name : Str
  params : List Str
  dflts : List MV
  body : List Stmt
  scope : Scope
  code : Value
  deriving Inhabited
structure ClsInfo where
  init : Option Addr
  fields : List Str
  meths : List (Str × Addr)
  attrs : List (Str × MV)
  deriving Inhabited
structure Tabs where
  fns : List (Nat × FnInfo)
  clss : List (Nat × ClsInfo)
  excs : List (Nat × List Addr)
  globs : List (Str × MV)
  bltins : List (Str × MV)
  tups : List (Nat × List Str)
  ids : List Nat
  lists : List (Nat × List MV)
  deriving Inhabited

noncomputable def newO (o : MO) : EvM MV := fun st => .ok (.obj st.objs.length) { st with objs := st.objs ++ [o] } []
noncomputable def getO (i : Nat) : EvM MO := fun st => match st.objs[i]? with
  | some o => .ok o st []
  | none => .bad "no object"
noncomputable def setO (i : Nat) (o : MO) : EvM Unit := fun st => .ok () { st with objs := st.objs.set i o } []
noncomputable def getL (x : Str) : EvM MV := fun st => match lookS x st.loc with
  | some v => .ok v st []
  | none => .bad s!"unbound {x.toString}"
noncomputable def setL (x : Str) (v : MV) : EvM Unit := fun st => .ok () { st with loc := putS x v st.loc } []

noncomputable def line : Nat := 16777216
noncomputable def truthyM : MV → EvM Bool
  | .none => pure false
  | .bool b => dec b
  | .int i => dec (!(decide (i = 0)))
  | .str s => do need (decide (s.cps.toList.length ≤ line)) "truthy"; dec (!(s.cps.toList.isEmpty))
  | .bytes b => do need (decide (b.length ≤ line)) "truthy"; dec (!(b.isEmpty))
  | _ => stop "truthy"

noncomputable def binM (op : Operator) (a b : MV) : EvM MV := match op, a, b with
  | .Add, .int x, .int y => pure (.int (x + y))
  | .Sub, .int x, .int y => pure (.int (x - y))
  | .Mult, .int x, .int y => do need (decide (-18446744073709551616 < y ∧ y < 18446744073709551616)) "mul"; pure (.int (x * y))
  | .FloorDiv, .int x, .int y => do need (decide (y ≠ 0 ∧ y.natAbs < 18446744073709551616)) "div"; pure (.int (x.fdiv y))
  | .Mod, .int x, .int y => do need (decide (y ≠ 0)) "mod"; pure (.int (x.fmod y))
  | .Pow, .int x, .int y => do need (decide (x = 16 ∧ 0 ≤ y ∧ y ≤ 3)) "pow"; pure (.int (x ^ y.toNat))
  | .Add, .str x, .str y => do need (decide (x.cps.toList.length + y.cps.toList.length ≤ line)) "str+"; pure (.str ⟨⟨x.cps.toList ++ y.cps.toList⟩⟩)
  | .Add, .bytes x, .bytes y => do need (decide (x.length + y.length ≤ line)) "bytes+"; pure (.bytes (x ++ y))
  | .Mult, .bytes x, .int k => do need (decide (x.length = 1 ∧ 0 ≤ k ∧ k ≤ 1048576)) "bytes*"; pure (.bytes (List.replicate k.toNat x).flatten)
  | .Add, .obj i, .obj j => do
    match ← getO i, ← getO j with
    | .list xs, .list ys => do need (decide (xs.length + ys.length ≤ line)) "list+"; newO (.list (xs ++ ys))
    | _, _ => stop "obj+"
  | _, _, _ => stop "binop"
noncomputable def inplaceM (ba : Bool) (op : Operator) (a b : MV) : EvM MV := match op, a, b with
  | .Add, .obj i, .bytes y => do
    match ← getO i with
    | .barr x => (match ba with
      | true => do need (decide (x.length + y.length ≤ line)) "bytearray+="; setO i (.barr (x ++ y)); pure (.obj i)
      | false => stop "+=")
    | _ => stop "+="
  | .Add, .int x, .int y => pure (.int (x + y))
  | .Sub, .int x, .int y => pure (.int (x - y))
  | .Mult, .int x, .int y => do need (decide (-18446744073709551616 < y ∧ y < 18446744073709551616)) "mul"; pure (.int (x * y))
  | .Add, .str x, .str y => do need (decide (x.cps.toList.length + y.cps.toList.length ≤ line)) "str+"; pure (.str ⟨⟨x.cps.toList ++ y.cps.toList⟩⟩)
  | _, _, _ => stop "inplace"

noncomputable def eqList : List MV → List MV → Option Bool
  | [], [] => some true
  | .bytes a :: x, .bytes b :: y => (eqList x y).map fun r => u8sEq a b && r
  | .str a :: x, .str b :: y => (eqList x y).map fun r => strEq a b && r
  | [], _ :: _ => some false
  | _ :: _, [] => some false
  | _, _ => none
noncomputable def ltL : List UInt8 → List UInt8 → Bool
  | [], [] => false
  | [], _ :: _ => true
  | _ :: _, [] => false
  | a :: x, b :: y => if a.toNat < b.toNat then true else if b.toNat < a.toNat then false else ltL x y
noncomputable def eqM (a b : MV) : EvM Bool := match a, b with
  | .int x, .int y => pure (decide (x = y))
  | .bool x, .bool y => pure (match x with | true => y | false => !y)
  | .str x, .str y => pure (strEq x y)
  | .bytes x, .bytes y => pure (u8sEq x y)
  | .obj i, .obj j => do
    match ← getO i, ← getO j with
    | .list xs, .list ys => (match eqList xs ys with
      | some b => do need (decide (xs.length ≤ line ∧ ys.length ≤ line)) "list=="; pure b
      | none => stop "list==")
    | _, _ => stop "obj=="
  | _, _ => stop "=="
noncomputable def strsOf : List MV → Option (List Str)
  | [] => some []
  | .str s :: r => (strsOf r).map (s :: ·)
  | _ => none
noncomputable def bytsOf : List MV → Option (List (List UInt8))
  | [] => some []
  | .bytes s :: r => (bytsOf r).map (s :: ·)
  | _ => none
noncomputable def inStrs (c : Str) : List Str → Bool
  | [] => false
  | s :: r => match strEq c s with
    | true => true
    | false => inStrs c r
noncomputable def inU8s (c : UInt8) : List UInt8 → Bool
  | [] => false
  | s :: r => match Nat.beq c.toNat s.toNat with
    | true => true
    | false => inU8s c r
noncomputable def cmpM (op : CmpOp) (a b : MV) : EvM MV := match op, a, b with
  | .Eq, a, b => do pure (.bool (← eqM a b))
  | .NotEq, a, b => do pure (.bool (!(← eqM a b)))
  | .Lt, .int x, .int y => pure (.bool (decide (x < y)))
  | .LtE, .int x, .int y => pure (.bool (decide (x ≤ y)))
  | .Gt, .int x, .int y => pure (.bool (decide (y < x)))
  | .GtE, .int x, .int y => pure (.bool (decide (y ≤ x)))
  | .Lt, .bytes x, .bytes y => pure (.bool (ltL x y))
  | .Gt, .bytes x, .bytes y => pure (.bool (ltL y x))
  | .Is, a, .none => pure (.bool (match a with | .none => true | _ => false))
  | .IsNot, a, .none => pure (.bool (match a with | .none => false | _ => true))
  | .In, .bytes [c], .bytes b => pure (.bool (inU8s c b))
  | .In, .str x, .str y => pure (.bool (!(Builtin.Str.occurrences y x 0 y.length 1).isEmpty))
  | _, _, _ => stop "compare"

noncomputable def idx (i : Int) (n : Nat) : EvM Nat := do
  match ← dec (decide (0 ≤ i)) with
  | true => do need (decide (i < n)) "index"; pure i.toNat
  | false => do need (decide (-(n : Int) ≤ i)) "index"; pure (i + n).toNat
noncomputable def bound (v : Option MV) : EvM (Option Int) := match v with
  | none => pure none
  | some .none => pure none
  | some (.int i) => pure (some i)
  | _ => stop "slice bound"
noncomputable def clip (i : Int) (n : Nat) : EvM Nat := do
  match ← dec (decide (0 ≤ i)) with
  | true => (do
    match ← dec (decide (i ≤ n)) with
    | true => pure i.toNat
    | false => pure n)
  | false => (do
    match ← dec (decide (-(n : Int) ≤ i)) with
    | true => pure (i + n).toNat
    | false => pure 0)
noncomputable def clipO (v : Option Int) (n d : Nat) : EvM Nat := match v with
  | none => pure d
  | some i => clip i n
noncomputable def cutL {α : Type} (xs : List α) (lo hi : Nat) : List α := (xs.drop lo).take (hi - lo)
noncomputable def sliceM (o : MV) (l u : Option MV) : EvM MV := do
  let l ← bound l
  let u ← bound u
  match o with
  | .str s => do let n := s.cps.toList.length; need (decide (n ≤ line)) "slice"; let a ← clipO l n 0; let b ← clipO u n n; pure (.str ⟨⟨cutL s.cps.toList a b⟩⟩)
  | .bytes s => do let n := s.length; need (decide (n ≤ line)) "slice"; let a ← clipO l n 0; let b ← clipO u n n; pure (.bytes (cutL s a b))
  | .obj i => do
    match ← getO i with
    | .list xs => do let n := xs.length; need (decide (n ≤ line)) "slice"; let a ← clipO l n 0; let b ← clipO u n n; newO (.list (cutL xs a b))
    | .tup xs => (match l, u with
      | some a, none => do need (decide (1 ≤ a ∧ a ≤ xs.length ∧ xs.length ≤ line)) "slice"; newO (.tup (xs.drop a.toNat))
      | _, _ => stop "slice of a tuple")
    | _ => stop "slice of"
  | _ => stop "slice"
noncomputable def itemM (o i : MV) : EvM MV := match o, i with
  | .str s, .int k => do
    need (decide (s.cps.toList.length ≤ line)) "str item"
    let j ← idx k s.cps.toList.length
    pure (.str ⟨⟨[s.cps.toList.getD j 0]⟩⟩)
  | .obj a, .int k => do
    match ← getO a with
    | .list xs => do need (decide (xs.length ≤ line)) "item"; let j ← idx k xs.length; pure (xs.getD j .none)
    | .tup xs => do need (decide (xs.length ≤ line)) "item"; let j ← idx k xs.length; pure (xs.getD j .none)
    | _ => stop "item of"
  | _, _ => stop "subscript"

noncomputable def intsOf : List MV → Option (List Int)
  | [] => some []
  | .int i :: r => (intsOf r).map (i :: ·)
  | _ => none
noncomputable def toU8 (xs : List Int) : List UInt8 := xs.map fun i => UInt8.ofNat i.toNat
noncomputable def lowerB (b : List UInt8) : List UInt8 := b.map fun c => if 65 ≤ c.toNat && c.toNat ≤ 90 then UInt8.ofNat (c.toNat + 32) else c

inductive It where
  | seq (t : Bool) (i k : Nat) | byt (b : List UInt8) (k : Nat) | rng (x left step : Int)
  deriving Inhabited
noncomputable def iterM (v : MV) : EvM It := match v with
  | .bytes b => pure (.byt b 0)
  | .obj i => do
    match ← getO i with
    | .list _ => pure (.seq false i 0)
    | .tup _ => pure (.seq true i 0)
    | .range a b c => do need (Builtin.Range.small a b c) "range"; pure (.rng a (Builtin.Range.rangeSize a b c) c)
    | _ => stop "iterable"
  | _ => stop "iter"
noncomputable def nextM : It → EvM (Option (MV × It))
  | .seq t i k => do
    match ← getO i with
    | .list xs => (match t, xs[k]? with
      | false, some v => pure (some (v, .seq false i (k + 1)))
      | false, none => pure none
      | true, _ => stop "next")
    | .tup xs => (match t, xs[k]? with
      | true, some v => pure (some (v, .seq true i (k + 1)))
      | true, none => pure none
      | false, _ => stop "next")
    | _ => stop "next"
  | .byt b k => (match b[k]? with
    | some c => pure (some (.int (c.toNat : Nat), .byt b (k + 1)))
    | none => pure none)
  | .rng x left c => do
    match ← dec (decide (0 < left)) with
    | true => pure (some (.int x, .rng (x + c) (left - 1) c))
    | false => pure none
noncomputable def seqM (v : MV) : EvM (List MV) := match v with
  | .obj i => do
    match ← getO i with
    | .list xs => do need (decide (xs.length ≤ line)) "items"; pure xs
    | .tup xs => do need (decide (xs.length ≤ line)) "items"; pure xs
    | _ => stop "items"
  | _ => stop "items"

noncomputable def asciiL : List Nat → Bool
  | [] => true
  | c :: r => match Nat.ble c 127 with
    | true => asciiL r
    | false => false
noncomputable def asciiB : List UInt8 → Bool
  | [] => true
  | c :: r => match Nat.ble c.toNat 127 with
    | true => asciiB r
    | false => false
noncomputable def splitM (c : UInt8) : List UInt8 → List UInt8 → EvM (List (List UInt8))
  | [], acc => pure [acc]
  | x :: r, acc => do
    match ← dec (Nat.beq x.toNat c.toNat) with
    | true => do let l ← splitM c r []; pure (acc :: l)
    | false => splitM c r (acc ++ [x])
noncomputable def findB (c : UInt8) : List UInt8 → Nat → Int
  | [], _ => -1
  | x :: r, k => match Nat.beq x.toNat c.toNat with
    | true => k
    | false => findB c r (k + 1)
noncomputable def rfindM (c : UInt8) : List UInt8 → Nat → Int → EvM Int
  | [], _, found => pure found
  | x :: r, k, found => do
    match ← dec (Nat.beq x.toNat c.toNat) with
    | true => rfindM c r (k + 1) k
    | false => rfindM c r (k + 1) found

inductive Me where
  | append | extend | encode | decode | lower | split | endswith | startswith | find | rfind | join | tobytes | bappend
  deriving Inhabited, DecidableEq
noncomputable def meTab : List (Str × Me) := [
  (⟨⟨[97, 112, 112, 101, 110, 100]⟩⟩, .append),
  (⟨⟨[101, 120, 116, 101, 110, 100]⟩⟩, .extend),
  (⟨⟨[101, 110, 99, 111, 100, 101]⟩⟩, .encode),
  (⟨⟨[100, 101, 99, 111, 100, 101]⟩⟩, .decode),
  (⟨⟨[108, 111, 119, 101, 114]⟩⟩, .lower),
  (⟨⟨[115, 112, 108, 105, 116]⟩⟩, .split),
  (⟨⟨[101, 110, 100, 115, 119, 105, 116, 104]⟩⟩, .endswith),
  (⟨⟨[115, 116, 97, 114, 116, 115, 119, 105, 116, 104]⟩⟩, .startswith),
  (⟨⟨[102, 105, 110, 100]⟩⟩, .find),
  (⟨⟨[114, 102, 105, 110, 100]⟩⟩, .rfind),
  (⟨⟨[106, 111, 105, 110]⟩⟩, .join),
  (⟨⟨[116, 111, 95, 98, 121, 116, 101, 115]⟩⟩, .tobytes)]
noncomputable def methM (ba : Bool) (m : Me) (o : MV) (args : List MV) : EvM MV := match m, o, args with
  | .append, .obj i, [v] => do
    match ← getO i with
    | .list xs => do need (decide (xs.length + 1 ≤ line)) "append"; setO i (.list (xs ++ [v])); pure .none
    | _ => stop "append"
  | .bappend, .obj i, [.int k] => do
    match ← getO i with
    | .barr b => (match ba with
      | true => do
        need (decide (0 ≤ k ∧ k < 256 ∧ b.length + 1 ≤ line)) "bytearray.append"
        setO i (.barr (b ++ [UInt8.ofNat k.toNat])); pure .none
      | false => stop "append")
    | _ => stop "append"
  | .extend, .obj i, [v] => do
    let ys ← seqM v
    match ← getO i with
    | .list xs => do need (decide (xs.length + ys.length ≤ line)) "extend"; setO i (.list (xs ++ ys)); pure .none
    | _ => stop "extend"
  | .encode, .str s, [] => do need (asciiL s.cps.toList && decide (s.cps.toList.length ≤ line)) "encode"; pure (.bytes (s.cps.toList.map UInt8.ofNat))
  | .encode, .str s, [.str e] => do need (strEq e ⟨⟨[97, 115, 99, 105, 105]⟩⟩ && asciiL s.cps.toList && decide (s.cps.toList.length ≤ line)) "encode"; pure (.bytes (s.cps.toList.map UInt8.ofNat))
  | .decode, .bytes b, [] => do need (asciiB b && decide (b.length ≤ line)) "decode"; pure (.str ⟨⟨b.map (·.toNat)⟩⟩)
  | .lower, .bytes b, [] => do need (decide (b.length ≤ line)) "lower"; pure (.bytes (lowerB b))
  | .split, .bytes b, [.bytes [c]] => do need (decide (b.length < line)) "split"; let l ← splitM c b []; newO (.list (l.map .bytes))
  | .endswith, .bytes b, [.bytes c] => pure (.bool (decide (c.length ≤ b.length) && u8sEq (b.drop (b.length - c.length)) c))
  | .startswith, .bytes b, [.bytes c] => pure (.bool (u8sEq (b.take c.length) c))
  | .find, .bytes b, [.bytes [c]] => do need (decide (b.length ≤ line)) "find"; pure (.int (findB c b 0))
  | .rfind, .bytes b, [.bytes [c]] => do need (decide (b.length ≤ line)) "rfind"; let k ← rfindM c b 0 (-1); pure (.int k)
  | .join, .bytes [], [.obj i] => do
    match ← getO i with
    | .list xs => (match bytsOf xs with
      | some bs => do need (decide (bs.flatten.length ≤ line)) "join"; pure (.bytes bs.flatten)
      | none => stop "join")
    | _ => stop "join"
  | _, _, _ => stop "method"
noncomputable def bltM (ba : Bool) (f : Bi) (args : List MV) : EvM MV := match f, args with
  | .len, [.str s] => do need (decide (s.cps.toList.length ≤ line)) "len"; pure (.int s.cps.toList.length)
  | .len, [.bytes b] => do need (decide (b.length ≤ line)) "len"; pure (.int b.length)
  | .len, [.obj i] => do
    match ← getO i with
    | .list xs => do need (decide (xs.length ≤ line)) "len"; pure (.int xs.length)
    | .tup xs => do need (decide (xs.length ≤ line)) "len"; pure (.int xs.length)
    | .barr b => do need (decide (b.length ≤ line)) "len"; pure (.int b.length)
    | _ => stop "len"
  | .chr, [.int i] => do need (decide (0 ≤ i ∧ i ≤ 1114111)) "chr"; pure (.str ⟨⟨[i.toNat]⟩⟩)
  | .isinst, [.str _, .bi .tstr] => pure (.bool true)
  | .isinst, [.bytes _, .bi .tstr] => pure (.bool false)
  | .isinst, [.bytes _, .bi .tbytes] => pure (.bool true)
  | .isinst, [.str _, .bi .tbytes] => pure (.bool false)
  | .isinst, [.obj i, .gl C] => do
    match ← getO i with
    | .inst D _ => (match Nat.beq C D with
      | true => pure (.bool true)
      | false => stop "isinstance")
    | _ => stop "isinstance"
  | .tlist, [v] => do let xs ← seqM v; newO (.list xs)
  | .ttuple, [v] => do
    match v with
    | .obj i => do
      match ← getO i with
      | .flist xs => do need (decide (xs.length ≤ line)) "tuple"; newO (.tup xs)
      | _ => stop "tuple"
    | _ => stop "tuple"
  | .tbarr, [] => (match ba with
    | true => newO (.barr [])
    | false => stop "bytearray")
  | .tbytes, [.obj i] => do
    match ← getO i with
    | .barr b => do need (decide (b.length ≤ line)) "bytes"; pure (.bytes b)
    | .list xs => (match intsOf xs with
      | some is => do need (is.all fun i => decide (0 ≤ i ∧ i < 256)) "bytes"; need (decide (is.length ≤ line)) "bytes"; pure (.bytes (toU8 is))
      | none => stop "bytes")
    | _ => stop "bytes"
  | .tstr, [.int i] => do need (decide (0 ≤ i ∧ i < 10)) "str"; pure (.str ⟨⟨[48 + i.toNat]⟩⟩)
  | .tint, [.str s] => (match s.cps.toList with
    | [c] => do need (decide (48 ≤ c ∧ c ≤ 57)) "int"; pure (.int (c - 48 : Nat))
    | _ => stop "int")
  | .trange, [.int b] => newO (.range 0 b 1)
  | .trange, [.int a, .int b] => newO (.range a b 1)
  | .trange, [.int a, .int b, .int c] => do need (decide (c ≠ 0 ∧ c.natAbs < 18446744073709551616)) "range"; newO (.range a b c)
  | _, _ => stop "builtin"

inductive Fl where
  | next | brk | cont | ret (v : MV)
  deriving Inhabited

structure Fns where
  ex : Scope → Expr → EvM MV
  tr : Scope → Expr → EvM Bool
  ss : Scope → List Stmt → EvM Fl
  ca : MV → List MV → EvM MV

variable (T : Tabs)

inductive Callee where
  | own (f : Addr) | me (m : Me)
noncomputable def strMe : Me → Bool
  | .encode => true | _ => false
noncomputable def bytesMe : Me → Bool
  | .decode => true | .lower => true | .split => true | .endswith => true | .startswith => true | .find => true | .rfind => true | .join => true | _ => false
noncomputable def intMe : Me → Bool
  | _ => false
noncomputable def listMe : Me → Bool
  | .append => true | .extend => true | _ => false
noncomputable def meM (ok : Me → Bool) (name : Str) : EvM Callee := match lookS name meTab with
  | some m => (match ok m with
    | true => pure (.me m)
    | false => stop "method")
  | none => stop "method"
noncomputable def calleeM (o : MV) (name : Str) : EvM Callee := match o with
  | .obj i => do
    match ← getO i with
    | .inst C fs => (match lookS name fs, (lookA C T.clss).bind fun c => lookS name c.meths with
      | none, some f => pure (.own f)
      | _, _ => stop "method")
    | .list _ => meM listMe name
    | .barr _ => (match lookS name meTab with
      | some .append => pure (.me .bappend)
      | _ => stop "method of a bytearray")
    | _ => stop "method of"
  | .str _ => meM strMe name
  | .bytes _ => meM bytesMe name
  | .int _ => meM intMe name
  | _ => stop "method of a value"
noncomputable def attrM (o : MV) (name : Str) : EvM MV := match o with
  | .obj i => do
    match ← getO i with
    | .inst C fs => (match (lookA C T.clss).bind fun c => some (inStrs name c.fields), lookS name fs with
      | some true, some v => pure v
      | _, _ => stop "attr")
    | _ => stop "attr of"
  | .gl C => (match (lookA C T.clss).bind fun c => lookS name c.attrs with
    | some v => pure v
    | none => stop "class attr")
  | _ => stop "attr of a value"
noncomputable def setAttrM (o : MV) (name : Str) (v : MV) : EvM Unit := match o with
  | .obj i => do
    match ← getO i with
    | .inst C fs => (match (lookA C T.clss).bind fun c => some (inStrs name c.fields) with
      | some true => do need (Nat.ble fs.length 100) "fields"; setO i (.inst C (putS name v fs))
      | _ => stop "store to")
    | _ => stop "store to"
  | _ => stop "store to a value"
noncomputable def cmpName : CmpOp → Option Str
  | .Eq => some ⟨⟨[95, 95, 101, 113, 95, 95]⟩⟩ | .NotEq => some ⟨⟨[95, 95, 110, 101, 95, 95]⟩⟩ | .Lt => some ⟨⟨[95, 95, 108, 116, 95, 95]⟩⟩
  | .LtE => some ⟨⟨[95, 95, 108, 101, 95, 95]⟩⟩ | .Gt => some ⟨⟨[95, 95, 103, 116, 95, 95]⟩⟩ | _ => none
noncomputable def nGetitem : Str := ⟨⟨[95, 95, 103, 101, 116, 105, 116, 101, 109, 95, 95]⟩⟩
noncomputable def cmpOwn (F0 : Fns) (op : CmpOp) (a b : MV) : EvM MV := match a with
  | .str c => (match op, b with
    | .In, .gl t => (match lookA t T.tups with
      | some ss => pure (.bool (inStrs c ss))
      | none => stop "in")
    | _, _ => cmpM op a b)
  | .obj i => do
    match ← getO i with
    | .inst C _ => (match (cmpName op).bind fun n => (lookA C T.clss).bind fun c => lookS n c.meths with
      | some f => (match b with
        | .obj j => do
          match ← getO j with
          | .inst D _ => (match Nat.beq C D with
            | true => F0.ca (.gl f) [.obj i, .obj j]
            | false => stop "compare own")
          | _ => stop "compare own"
        | _ => stop "compare own")
      | none => stop "compare own")
    | _ => cmpM op (.obj i) b
  | _ => cmpM op a b
noncomputable def itemOwn (F0 : Fns) (o i : MV) : EvM MV := match o with
  | .obj k => do
    match ← getO k with
    | .inst C _ => (match (lookA C T.clss).bind fun c => lookS nGetitem c.meths with
      | some f => F0.ca (.gl f) [.obj k, i]
      | none => stop "item own")
    | _ => itemM (.obj k) i
  | _ => itemM o i

noncomputable def constM : Const → EvM MV
  | .none => pure .none
  | .bool b => pure (.bool b)
  | .int i => pure (.int i)
  | .str s => pure (.str s)
  | .bytes b => pure (.bytes b)
  | _ => stop "constant"
noncomputable def nDebug : Str := ⟨⟨[95, 95, 100, 101, 98, 117, 103, 95, 95]⟩⟩
noncomputable def nameM (sc : Scope) (x : Str) : EvM MV := match strEq x nDebug, lookS x sc.names with
  | false, some .local => getL x
  | false, some .globalImplicit => (match lookS x T.globs with
    | some v => pure v
    | none => (match lookS x T.bltins with
      | some v => pure v
      | none => stop "global"))
  | _, _ => stop "name"
noncomputable def exM (F : Fns) (sc : Scope) (e : Expr) : EvM MV := match e with
  | .Starred _ _ => stop "starred"
  | .Set _ _ _ => stop "set"
  | e => F.ex sc e
noncomputable def mapE (f : Expr → EvM MV) : List Expr → EvM (List MV)
  | [] => pure []
  | e :: r => do let v ← f e; let vs ← mapE f r; pure (v :: vs)
noncomputable def boolM (F : Fns) (sc : Scope) (op : BoolOp) : List Expr → EvM MV
  | [] => stop "boolop"
  | [e] => F.ex sc e
  | e :: r => do
    let v ← F.ex sc e
    let t ← truthyM v
    match op, t with
    | .And, false => pure v
    | .Or, true => pure v
    | _, _ => boolM F sc op r
noncomputable def allM (F : Fns) (sc : Scope) (op : BoolOp) : List Expr → EvM Bool
  | [] => pure (match op with | .And => true | .Or => false)
  | e :: r => do
    let t ← F.tr sc e
    match op, t with
    | .And, false => pure false
    | .Or, true => pure true
    | _, _ => allM F sc op r
noncomputable def chainM (F F0 : Fns) (sc : Scope) (a : MV) : List CmpOp → List Expr → EvM MV
  | [op], [e] => do let b ← exM F sc e; cmpOwn T F0 op a b
  | op :: ops, e :: es => do
    let b ← exM F sc e
    let c ← cmpOwn T F0 op a b
    match ← truthyM c with
    | true => chainM F F0 sc b ops es
    | false => pure c
  | _, _ => stop "chain"
noncomputable def testM (F F0 : Fns) (sc : Scope) (a : MV) : List CmpOp → List Expr → EvM Bool
  | [op], [e] => do let b ← exM F sc e; let c ← cmpOwn T F0 op a b; truthyM c
  | op :: ops, e :: es => do
    let b ← exM F sc e
    let c ← cmpOwn T F0 op a b
    match ← truthyM c with
    | true => testM F F0 sc b ops es
    | false => pure false
  | _, _ => stop "chain"
noncomputable def optE (F : Fns) (sc : Scope) : Option Expr → EvM (Option MV)
  | none => pure none
  | some e => do let v ← F.ex sc e; pure (some v)
noncomputable def bltT (ba : Bool) (f : Bi) (args : List MV) : EvM MV := match f, args with
  | .tlist, [.gl a] => (match T.lists with
    | (b, xs) :: _ => do need (Nat.beq a b) "list"; newO (.list xs)
    | [] => stop "list")
  | .len, [.gl a] => (match T.lists with
    | (b, xs) :: _ => do need (Nat.beq a b) "len"; pure (.int xs.length)
    | [] => stop "len")
  | f, args => bltM ba f args
noncomputable def callM (ba : Bool) (F : Fns) (f : MV) (args : List MV) : EvM MV := match f with
  | .bi b => bltT T ba b args
  | .gl a => F.ca (.gl a) args
  | _ => stop "callee"
noncomputable def calleeOk : MV → Bool
  | .bi _ => true
  | .gl a => (lookA a T.fns).isSome || (lookA a T.clss).isSome
  | _ => false

noncomputable def plainA : List Expr → Bool
  | [] => true
  | .Starred _ _ :: _ => false
  | _ :: r => plainA r
noncomputable def baseOk : Expr → Bool
  | .Call (.Name _ _) [] [] _ => false
  | _ => true
noncomputable def exStep (ba : Bool) (F F0 : Fns) (sc : Scope) : Expr → EvM MV
  | .Constant c _ _ => constM c
  | .Name x _ => nameM T sc x
  | .BoolOp op vs _ => boolM F sc op vs
  | .BinOp l op r _ => do let a ← F.ex sc l; let b ← F.ex sc r; binM op a b
  | .UnaryOp .Not x _ => do let v ← F.ex sc x; let t ← truthyM v; pure (.bool (!t))
  | .UnaryOp .USub x _ => do
    match ← F.ex sc x with
    | .int i => pure (.int (-i))
    | _ => stop "neg"
  | .IfExp t a b _ => do
    match ← F.tr sc t with
    | true => F.ex sc a
    | false => F.ex sc b
  | .Compare l ops rs _ => do let a ← F.ex sc l; chainM T F F0 sc a ops rs
  | .Call (.Attribute o name apos) args [] pos => (match baseOk o && plainA args, Nat.beq apos.endLine pos.line, Nat.blt args.length 29 with
    | true, true, true => do
      let ov ← F.ex sc o
      let f ← calleeM T ov name
      let as ← mapE (exM F sc) args
      (match f with
      | .own f => F.ca (.gl f) (ov :: as)
      | .me m => methM ba m ov as)
    | _, _, _ => stop "method call")
  | .Call (.Name x _) args [] _ => (match plainA args with
    | true => do
      let fv ← nameM T sc x
      (match calleeOk T fv with
      | true => do let as ← mapE (exM F sc) args; callM T ba F fv as
      | false => stop "callee")
    | false => stop "call")
  | .Attribute o name _ => (match baseOk o with
    | true => do let ov ← F.ex sc o; attrM T ov name
    | false => stop "attr")
  | .Subscript o (.Slice l u none _) _ => do
    let ov ← F.ex sc o
    let lv ← optE F sc l
    let uv ← optE F sc u
    sliceM ov lv uv
  | .Subscript o i _ => do let ov ← F.ex sc o; let iv ← F.ex sc i; itemOwn T F0 ov iv
  | .List es _ => do let vs ← mapE (exM F sc) es; need (decide (vs.length ≤ line)) "list"; newO (.list vs)
  | .Tuple es _ _ => do let vs ← mapE (exM F sc) es; need (decide (vs.length ≤ line)) "tuple"; newO (.tup vs)
  | _ => stop "expression"
noncomputable def trStep (F F0 : Fns) (sc : Scope) : Expr → EvM Bool
  | .UnaryOp .Not x _ => do let t ← F.tr sc x; pure (!t)
  | .BoolOp op vs _ => allM F sc op vs
  | .Compare l ops rs _ => do let a ← F.ex sc l; testM T F F0 sc a ops rs
  | .IfExp _ _ _ _ => stop "test"
  | e => do let v ← F.ex sc e; truthyM v

noncomputable def allLocal (sc : Scope) : List Expr → Bool
  | [] => true
  | .Name x _ :: r => (match lookS x sc.names with
    | some .local => allLocal sc r
    | _ => false)
  | _ :: _ => false
noncomputable def bindAll : List Expr → List MV → EvM Unit
  | [], [] => pure ()
  | .Name x _ :: ts, v :: vs => do setL x v; bindAll ts vs
  | _, _ => stop "unpack"
noncomputable def forM (F : Fns) (sc : Scope) (x : Str) (body : List Stmt) : Nat → It → EvM Fl
  | 0, _ => stop "for"
  | n + 1, it => do
    match ← nextM it with
    | none => pure .next
    | some (v, it') => do
      setL x v
      match ← F.ss sc body with
      | .next => forM F sc x body n it'
      | .cont => forM F sc x body n it'
      | .brk => pure .next
      | .ret u => pure (.ret u)
noncomputable def whileM (F : Fns) (sc : Scope) (t : Expr) (body : List Stmt) : Nat → EvM Fl
  | 0 => stop "while"
  | n + 1 => do
    match ← F.tr sc t with
    | true => (do
      match ← F.ss sc body with
      | .next => whileM F sc t body n
      | .cont => whileM F sc t body n
      | .brk => pure .next
      | .ret u => pure (.ret u))
    | false => pure .next
noncomputable def hsM (sc : Scope) : List Stmt → EvM Fl
  | [.Pass _] => pure .next
  | [.Return (some (.Constant c _ _)) _] => do let v ← constM c; pure (.ret v)
  | [.Expr (.Call (.Attribute (.Name x _) name apos) [.Constant c _ _] [] pos) _] => (match Nat.beq apos.endLine pos.line with
    | true => do
      let ov ← nameM T sc x
      let f ← calleeM T ov name
      let v ← constM c
      (match f with
      | .me .append => do
        match ← methM false .append ov [v] with
        | .none => pure .next
        | _ => stop "suite"
      | _ => stop "suite")
    | false => stop "suite")
  | _ => stop "suite"
noncomputable def handM (sc : Scope) (C : Addr) : List ExceptHandler → EvM Fl
  | [] => throwC C
  | .ExceptHandler (some (.Name x _)) none body _ :: r => do
    match ← nameM T sc x with
    | .gl D => (match lookA C T.excs, lookA D T.excs with
      | some c, some _ => (match c.any (Nat.beq D) with
        | true => hsM T sc body
        | false => handM sc C r)
      | _, _ => stop "raised")
    | _ => stop "handler"
  | _ => stop "handler"
noncomputable def plainV : Expr → Bool
  | .ListComp _ _ _ _ => false
  | .SetComp _ _ _ _ => false
  | .DictComp _ _ _ _ _ => false
  | _ => true
noncomputable def notSet : Expr → Bool
  | .Set _ _ _ => false
  | _ => true
noncomputable def allBytes : List MV → Bool
  | [] => true
  | .bytes _ :: r => allBytes r
  | _ :: _ => false
noncomputable def compOk (x : Str) (px : Pos) (csc : Scope) (pos : Pos) (y z f : Str) : Bool :=
  Nat.beq px.line pos.line && strEq y z && (csc.kind == .function) && csc.names.all (fun n => n.2 != .free && n.2 != .cell && (n.2 != .local || (csc.names.lookup n.1 == some .local)) && !(n.1 == x && (n.2 == .local || n.2 == .cell))) &&
  (lookS y csc.names == some .local) && (lookS f csc.names == some .globalImplicit) && !(strEq f nDebug) && !(strEq z nDebug)
noncomputable def compStM (sc : Scope) (x : Str) (px : Pos) (f z y : Str) (it : Str) (csc : Scope) (pos : Pos) : EvM Fl :=
  match compOk x px csc pos y z f, lookS x sc.names, lookS f T.globs with
  | true, some .local, some (.gl a) => do
    let s ← nameM T sc it
    match s with
    | .obj i => do
      match ← getO i with
      | .list xs => (match allBytes xs, T.ids.any (Nat.beq a) with
        | true, true => do
          need (decide (xs.length ≤ line)) "comp"
          let o ← newO (.flist xs)
          setL x o
          pure .next
        | _, _ => stop "comp")
      | _ => stop "comp"
    | _ => stop "comp"
  | _, _, _ => stop "comp"
noncomputable def compM1 (sc : Scope) (x : Str) (px : Pos) (el : Expr) (gs : List Comprehension) (csc : Scope) (pos : Pos) : EvM Fl := match el with
  | .Call (.Name f _) [.Name z _] [] _ => (match gs with
    | [⟨.Name y _, .Name it _, [], a⟩] => (match a with
      | .ofNat 0 => compStM T sc x px f z y it csc pos
      | _ => stop "comprehension")
    | _ => stop "comprehension")
  | _ => stop "comprehension"
noncomputable def stStep (ba : Bool) (F : Fns) (sc : Scope) : Stmt → EvM Fl
  | .Expr (.Call f as kw p) _ => do
    match ← F.ex sc (.Call f as kw p) with
    | .none => pure .next
    | .int _ => pure .next
    | _ => stop "dropped"
  | .Pass _ => pure .next
  | .Break _ => pure .brk
  | .Continue _ => pure .cont
  | .Return none _ => pure (.ret .none)
  | .Return (some e) _ => do let v ← F.ex sc e; pure (.ret v)
  | .Assign [.Tuple ts _ _] (.Call f as kw p) _ => (match allLocal sc ts with
    | true => do
      let v ← F.ex sc (.Call f as kw p)
      (match v with
      | .obj i => do
        match ← getO i with
        | .tup vs => do need (decide (vs.length = ts.length)) "unpack"; bindAll ts vs; pure .next
        | _ => stop "unpack"
      | _ => stop "unpack")
    | false => stop "unpack")
  | .Assign [.Name x px] (.ListComp el gs csc pos) _ => compM1 T sc x px el gs csc pos
  | .Assign [.Name x _] e _ => (match plainV e, lookS x sc.names with
    | true, some .local => do
      let v ← F.ex sc e
      setL x v
      pure .next
    | _, _ => stop "assign")
  | .Assign [.Attribute o name _] e _ => (match plainV e with
    | true => do
      let v ← F.ex sc e
      let ov ← F.ex sc o
      setAttrM T ov name v
      pure .next
    | false => stop "assign")
  | .AugAssign (.Name x _) op e _ => (match lookS x sc.names with
    | some .local => do
      let old ← getL x
      let v ← F.ex sc e
      let u ← inplaceM ba op old v
      setL x u
      pure .next
    | _ => stop "augmented")
  | .AugAssign (.Attribute o name _) op e _ => do
    let ov ← F.ex sc o
    let old ← attrM T ov name
    let v ← F.ex sc e
    let u ← inplaceM ba op old v
    setAttrM T ov name u
    pure .next
  | .If t a b _ => do
    match ← F.tr sc t with
    | true => F.ss sc a
    | false => F.ss sc b
  | .While t body [] _ => whileM F sc t body 100
  | .For (.Name x _) it body [] _ => (match notSet it, lookS x sc.names with
    | true, some .local => do
      let s ← F.ex sc it
      let its ← iterM s
      forM F sc x body 100 its
    | _, _ => stop "for")
  | .Raise (some (.Name x _)) none _ => do
    match ← nameM T sc x with
    | .gl C => (match lookA C T.excs with
      | some _ => throwC C
      | none => stop "raise")
    | _ => stop "raise"
  | .Assert t none _ => do
    match ← F.tr sc t with
    | true => pure .next
    | false => stop "assert"
  | .Try body (h :: hs) [] [] _ => fun st => match F.ss sc body st with
    | .ok a st' o => .ok a st' o
    | .exc C st' o => (handM T sc C (h :: hs) st').pre o
    | .bad w => .bad w
  | _ => stop "statement"
noncomputable def ssStep (ba : Bool) (F : Fns) (sc : Scope) : List Stmt → EvM Fl
  | [] => pure .next
  | s :: r => do
    match ← stStep T ba F sc s with
    | .next => ssStep ba F sc r
    | f => pure f
noncomputable def bindArgsM (fi : FnInfo) (args : List MV) : Option (List (Str × MV)) :=
  match Nat.ble (fi.params.length - fi.dflts.length) args.length && Nat.ble args.length fi.params.length with
  | true => some (fi.params.zip (args ++ fi.dflts.drop (args.length - (fi.params.length - fi.dflts.length))))
  | false => none
noncomputable def callFn (F : Fns) (fi : FnInfo) (args : List MV) : EvM MV := fun st => match bindArgsM fi args with
  | none => .bad s!"arguments of {fi.name.toString}"
  | some loc => match F.ss fi.scope fi.body { st with loc := loc } with
    | .ok (.ret v) st' o => .ok v { st' with loc := st.loc } o
    | .ok .next st' o => .ok .none { st' with loc := st.loc } o
    | .ok _ _ _ => .bad "flow"
    | .exc C st' o => .exc C { st' with loc := st.loc } o
    | .bad w => .bad w
noncomputable def caStep (F F0 : Fns) (f : MV) (args : List MV) : EvM MV := match f with
  | .gl a => (match lookA a T.fns with
    | some fi => callFn F fi args
    | none => (match lookA a T.clss with
      | some c => (match c.init.bind fun i => lookA i T.fns with
        | some fi => do
          let o ← newO (.inst a [])
          match ← callFn F0 fi (o :: args) with
          | .none => pure o
          | _ => stop "init"
        | none => stop "class")
      | none => stop "callee"))
  | _ => stop "call"
noncomputable def step (ba : Bool) (F F0 : Fns) : Fns := ⟨exStep T ba F F0, trStep T F F0, ssStep T ba F, caStep T F F0⟩
noncomputable def fns0 : Fns := ⟨fun _ _ => stop "fuel", fun _ _ => stop "fuel", fun _ _ => stop "fuel", fun _ _ => stop "fuel"⟩
noncomputable def fnsN (n : Nat) : Fns × Fns := Nat.rec (fns0, fns0) (fun _ p => (step T true p.1 p.2, step T false p.2 p.2)) n
noncomputable def fnsR : Nat → Fns × Fns
  | 0 => (fns0, fns0)
  | n + 1 => (step T true (fnsR n).1 (fnsR n).2, step T false (fnsR n).2 (fnsR n).2)
end Mine
end

section
set_option maxRecDepth 100000
set_option linter.unusedVariables false
open PySem PySem.W PySem.Calls PyProof.Rows
namespace Mine
noncomputable def badIds : List String := Builtin.Bytes.decodersThatHold ++ ["bytearray.__contains__", "bytearray.__mod__", "bytearray.__rmod__", "_struct.pack_into.held", "bytearray.find.held"]
noncomputable def okC : Code → Bool
  | .builtin id _ => !badIds.contains id
  | _ => true
structure Closed (𝒞 : Ctx → Prop) : Prop where
  enter : ∀ Γ c hd p, 𝒞 Γ → okC c = true → 𝒞 (Γ.enter c hd p)
  goto : ∀ Γ c, 𝒞 Γ → okC c = true → 𝒞 (Γ.goto c)
noncomputable def Clean (Γ : Ctx) : Prop := okC Γ.code = true ∧ ∀ x ∈ Γ.below, okC x.1 = true
theorem clean_closed : Closed Clean :=
  ⟨fun Γ c hd p h hc => ⟨hc, fun x hx => by
    rcases List.mem_cons.mp hx with rfl | hx
    · exact h.1
    · exact h.2 x hx⟩, fun Γ c h hc => ⟨hc, h.2⟩⟩
noncomputable abbrev AllC : Ctx → Prop := fun _ => True
theorem all_closed : Closed AllC := ⟨fun _ _ _ _ _ _ => trivial, fun _ _ _ _ => trivial⟩
noncomputable def wpC (𝒞 : Ctx → Prop) {α : Type} (M : Model) (A : Around) (t : Sem α) (Q : α → Shared → Prop) (E : Value → Shared → Prop) (s : Shared) : Prop :=
  ∀ Γ p, Γ.In A → 𝒞 Γ → Sem.wp M Γ t (fun a _ s' => Q a s') (fun e _ s' => E e s') p s
noncomputable def codeC (𝒞 : Ctx → Prop) (M : Model) (A : Around) (c : Code) (R : Result → Shared → Prop) (s : Shared) : Prop :=
  ∀ Γ p, Γ.code = c → Γ.Below A → 𝒞 Γ → wpCode M Γ R p s
section
variable {𝒞 : Ctx → Prop} {α β : Type} {M : Model} {A : Around} {E : Value → Shared → Prop} {s : Shared}
theorem wpC_of {t : Sem α} {Q : α → Shared → Prop} (h : wpAny M A t Q E s) : wpC 𝒞 M A t Q E s := fun Γ p hΓ _ => h Γ p hΓ
theorem wpC_all {t : Sem α} {Q : α → Shared → Prop} (h : wpC AllC M A t Q E s) : wpAny M A t Q E s := fun Γ p hΓ => h Γ p hΓ trivial
theorem codeC_of {c : Code} {R : Result → Shared → Prop} (h : codeAny M A c R s) : codeC 𝒞 M A c R s := fun Γ p hc hΓ _ => h Γ p hc hΓ
theorem codeC_all {c : Code} {R : Result → Shared → Prop} (h : codeC AllC M A c R s) : codeAny M A c R s := fun Γ p hc hΓ => h Γ p hc hΓ trivial
theorem wpC_pure {a : α} {Q : α → Shared → Prop} (h : Q a s) : wpC 𝒞 M A (pure a) Q E s := fun _ _ _ _ => h
theorem wpC_throw {e : Value} {Q : α → Shared → Prop} (h : E e s) : wpC 𝒞 M A (throw e : Sem α) Q E s := fun _ _ _ _ => h
theorem wpC_mono {t : Sem α} {Q Q' : α → Shared → Prop} {E' : Value → Shared → Prop} (h : wpC 𝒞 M A t Q E s) (hQ : ∀ a s, Q a s → Q' a s) (hE : ∀ e s, E e s → E' e s) : wpC 𝒞 M A t Q' E' s :=
  fun Γ p hΓ hC => Sem.wp_mono M Γ t (fun a _ s => hQ a s) (fun e _ s => hE e s) p s (h Γ p hΓ hC)
theorem wpC_bind {m : Sem α} {f : α → Sem β} {Q : β → Shared → Prop} (h : wpC 𝒞 M A m (fun a s' => wpC 𝒞 M A (f a) Q E s') E s) : wpC 𝒞 M A (m >>= f) Q E s := fun Γ p hΓ hC => by
  rw [Sem.wp_bind']
  exact Sem.wp_mono M Γ m (fun a p' s' h' => h' Γ p' hΓ hC) (fun _ _ _ h' => h') p s (h Γ p hΓ hC)
theorem wpC_onRaise {m : Sem α} {k : Value → Sem Unit} {Q : α → Shared → Prop} (h : wpC 𝒞 M A m Q (fun e s' => wpC 𝒞 M A (k e) (fun _ s'' => E e s'') E s') s) : wpC 𝒞 M A (m.onRaise k) Q E s := fun Γ p hΓ hC => by
  rw [Sem.wp_onRaise]
  exact Sem.wp_mono M Γ m (fun _ _ _ h' => h') (fun e p' s' h' => h' Γ p' hΓ hC) p s (h Γ p hΓ hC)
theorem wpC_attempt {m : Sem α} {Q : Except Value α → Shared → Prop} (h : wpC 𝒞 M A m (fun a => Q (.ok a)) (fun e => Q (.error e)) s) : wpC 𝒞 M A m.attempt Q E s := fun Γ p hΓ hC => by
  rw [Sem.wp_attempt]; exact h Γ p hΓ hC
theorem wpC_holding {vs : List Value} {m : Sem α} {Q : α → Shared → Prop} (h : wpC 𝒞 M A m Q E s) : wpC 𝒞 M A (holding vs m) Q E s := fun Γ p hΓ hC => by rw [Sem.wp_holding]; exact h Γ p hΓ hC
theorem wpC_keep {vs : List Value} {m : Sem α} {Q : α → Shared → Prop} (h : wpC 𝒞 M A m Q E s) : wpC 𝒞 M A (m.keep vs) Q E s := fun Γ p hΓ hC => by rw [Sem.wp_keep]; exact h Γ p hΓ hC
theorem wpC_operate {vs : List Value} {m : Sem Value} {Q : Value → Shared → Prop} (h : wpC 𝒞 M A m Q E s) : wpC 𝒞 M A (operate vs m) Q E s := fun Γ p hΓ hC => by rw [Sem.wp_operate]; exact h Γ p hΓ hC
theorem wpC_run (K : Closed 𝒞) {c : Code} {h : Option Value} {Q : Flow → Shared → Prop} (hok : okC c = true)
    (hc : codeC 𝒞 M (A.mark h) c (fun r s' => match r with | .ok f => Q f s' | .error e => E e s') s) (hnb : h ≠ some byPass := by intro x; cases x) : wpC 𝒞 M A (run c h) Q E s :=
  fun Γ p hΓ hC => by rw [Sem.wp_run]; exact hc _ p rfl (hΓ.enter c h p hnb) (K.enter Γ c h p hC hok)
theorem wpC_runValue (K : Closed 𝒞) {c : Code} {Q : Value → Shared → Prop} (hok : okC c = true)
    (hc : codeC 𝒞 M A c (fun r s' => match r with | .ok (.ret v) => Q v s' | .ok _ => False | .error e => E e s') s) : wpC 𝒞 M A (runValue c) Q E s :=
  fun Γ p hΓ hC => by rw [Sem.wp_runValue]; exact hc _ p rfl (hΓ.enter c none p (by intro x; cases x)) (K.enter Γ c none p hC hok)
theorem wpC_call (K : Closed 𝒞) {f : Value} {pos : List Value} {kw : List (Str × Value)} {Q : Value → Shared → Prop}
    (hc : codeC 𝒞 M A (.call f ⟨pos, kw⟩) (fun r s' => match r with | .ok (.ret v) => Q v s' | .ok _ => False | .error e => E e s') s) : wpC 𝒞 M A (call f pos kw) Q E s := wpC_runValue K rfl hc
theorem codeC_mono {c : Code} {R R' : Result → Shared → Prop} (h : codeC 𝒞 M A c R s) (hR : ∀ r s, R r s → R' r s) : codeC 𝒞 M A c R' s := fun Γ p hc hΓ hC => wpCode_mono hR (h Γ p hc hΓ hC)
theorem codeC_of_tree (K : Closed 𝒞) {c : Code} {R : Result → Shared → Prop}
    (h : wpC 𝒞 M (A.under c) (M.den c) (fun fin s' => match fin with | .done f => R (.ok f) s' | .again c' => c'.quiet = true ∧ okC c' = true ∧ codeC 𝒞 M A c' R s') (fun e s' => R (.error e) s') s) : codeC 𝒞 M A c R s := fun Γ p hc hΓ hC => by
  rw [wpCode_iff_wp, hc]
  refine Sem.wp_mono M Γ _ (fun fin p' s' h' => ?_) (fun _ _ _ h' => h') p s (h Γ p (hc ▸ hΓ.in) hC)
  cases fin with
  | done f => exact h'
  | again c' => exact ⟨h'.1, h'.2.2 (Γ.goto c') p' rfl (hΓ.goto c') (K.goto Γ c' hC h'.2.1)⟩
theorem wpC_runOwn (K : Closed 𝒞) {env : Env} {c : Code} {h : Option Value} {Q : Flow → Shared → Prop} (hok : okC c = true)
    (hc : codeC 𝒞 M (A.mark h) c (fun r s' => match r with | .ok f => Q f s' | .error e => cameBackBy M A env E e s') s) (hnb : h ≠ some byPass := by intro x; cases x) : wpC 𝒞 M A (runOwn c env h) Q E s := by
  unfold runOwn
  exact wpC_onRaise (wpC_run K hok (codeC_mono hc fun r s' h => by cases r with | ok f => exact h | error e => exact wpC_of h) hnb)
theorem wpC_noted {env : Env} {m : Sem α} {Q : α → Shared → Prop} (h : wpC 𝒞 M A m Q (notedBy M A env E) s) : wpC 𝒞 M A (m.onRaise fun x => do noteFrame x env; theTreesLotGoes x) Q E s :=
  wpC_onRaise (wpC_mono h (fun _ _ q => q) fun _ _ hx => wpC_of (wpAny_bind (wpAny_mono hx (fun _ _ e => wpAny_theTreesLotGoes e) fun _ _ e => e)))
end

section
variable {𝒞 : Ctx → Prop} {w : World} {A : Around} {E : Value → Shared → Prop} {R : Result → Shared → Prop} {s : Shared}
theorem codeC_loop (K : Closed 𝒞) {M : Model} {c : Code} (hq : c.quiet = true) (hok : okC c = true) (I : Nat → Shared → Prop)
    (turn : ∀ n s, I n s → wpC 𝒞 M (A.under c) (M.den c) (fun fin s' => match fin with
      | .done f => R (.ok f) s'
      | .again c' => (c' = c ∧ ∃ m, m < n ∧ I m s') ∨ (c'.quiet = true ∧ okC c' = true ∧ codeC 𝒞 M A c' R s')) (fun e s' => R (.error e) s') s)
    (n : Nat) (h : I n s) : codeC 𝒞 M A c R s := by
  induction n using Nat.strongRecOn generalizing s with
  | ind n ih =>
    refine codeC_of_tree K (wpC_mono (turn n s h) (fun fin s' hf => ?_) fun _ _ h' => h')
    cases fin with
    | done f => exact hf
    | again c' =>
      rcases hf with ⟨rfl, m, hm, hI⟩ | h
      · exact ⟨hq, hok, ih m hm hI⟩
      · exact h
theorem codeC_whileLoop (K : Closed 𝒞) {prog : Program} {test : Expr} {body orelse : List Stmt} {env : Env} (I : Nat → Shared → Prop)
    (turn : ∀ n s, I n s →
      wpC 𝒞 (model prog w) A (isTrue test env (eval test env)) (fun b s₂ =>
        if b then wpC 𝒞 (model prog w) A (execs body env) (fun f s₃ => match f with
            | .next | .cont => ∃ m, m < n ∧ I m s₃
            | .brk => R (.ok .next) s₃
            | .ret v => R (.ok (.ret v)) s₃) (notedBy (model prog w) A env fun e s' => R (.error e) s') s₂
        else wpC 𝒞 (model prog w) A (execs orelse env) (fun f s₃ => R (.ok f) s₃) (notedBy (model prog w) A env fun e s' => R (.error e) s') s₂)
        (notedBy (model prog w) A env fun e s' => R (.error e) s') s)
    (n : Nat) (h : I n s) : codeC 𝒞 (model prog w) A (.whileLoop test body orelse env) R s := by
  refine codeC_loop K rfl rfl I (fun n s hI => ?_) n h
  show wpC 𝒞 _ A ((whileTurn test body orelse env).onRaise (fun x => do noteFrame x env; theTreesLotGoes x)) _ _ s
  refine wpC_noted ?_
  simp only [whileTurn]
  refine wpC_bind (wpC_mono (turn n s hI) (fun b s₂ h₂ => ?_) fun _ _ h' => h')
  cases b with
  | false =>
    simp only [Bool.false_eq_true, if_false] at h₂ ⊢
    exact wpC_bind (wpC_mono h₂ (fun f s₃ h₃ => wpC_pure h₃) fun _ _ h' => h')
  | true =>
    simp only [if_true] at h₂ ⊢
    refine wpC_bind (wpC_mono h₂ (fun f s₃ h₃ => ?_) fun _ _ h' => h')
    cases f with
    | next => exact wpC_pure (.inl ⟨rfl, h₃⟩)
    | cont => exact wpC_pure (.inl ⟨rfl, h₃⟩)
    | brk => exact wpC_pure h₃
    | ret v => exact wpC_pure h₃
theorem wpC_While (K : Closed 𝒞) {prog : Program} {test : Expr} {body orelse : List Stmt} {env : Env} {pos : Pos} {Q : Flow → Shared → Prop}
    (h : codeC 𝒞 (model prog w) A (.whileLoop test body orelse env) (fun r s' => match r with | .ok f => Q f s' | .error e => cameBackBy (model prog w) A env E e s') s) :
    wpC 𝒞 (model prog w) A (exec (.While test body orelse pos) env) Q E s := by
  rw [exec_While]; exact wpC_bind (wpC_of (wpAny_standAt (wpC_runOwn K rfl h)))
theorem codeC_block (K : Closed 𝒞) {prog : Program} {stmts : List Stmt} {env : Env} (h : wpC 𝒞 (model prog w) A (execs stmts env) (fun f s' => R (.ok f) s') (notedBy (model prog w) A env fun e s' => R (.error e) s') s) : codeC 𝒞 (model prog w) A (.block stmts env) R s := by
  refine codeC_of_tree K ?_
  show wpC 𝒞 _ _ (do return Fin.done (← (execs stmts env).onRaise (fun x => do noteFrame x env; theTreesLotGoes x))) _ _ s
  exact wpC_bind (wpC_noted (wpC_mono h (fun f s' h' => wpC_pure h') fun _ _ h' => h'))
theorem codeC_forLoop (K : Closed 𝒞) {prog : Program} {target : Expr} {it : Value} {body orelse : List Stmt} {env : Env} (I : Nat → Shared → Prop)
    (turn : ∀ n s, I n s → wpC 𝒞 (model prog w) A (pyNext it) (fun r s₁ => match r with
      | none => wpC 𝒞 (model prog w) A (execs orelse env) (fun f s₃ => R (.ok f) s₃) (notedBy (model prog w) A env fun e s' => R (.error e) s') s₁
      | some v => wpC 𝒞 (model prog w) A (assign target env v) (fun _ s₂ => wpC 𝒞 (model prog w) A (execs body env) (fun f s₃ => match f with
          | .next | .cont => ∃ m, m < n ∧ I m s₃
          | .brk => R (.ok .next) s₃
          | .ret v => R (.ok (.ret v)) s₃) (notedBy (model prog w) A env fun e s' => R (.error e) s') s₂) (notedBy (model prog w) A env fun e s' => R (.error e) s') s₁) (notedBy (model prog w) A env fun e s' => R (.error e) s') s)
    (n : Nat) (h : I n s) (ht : ∀ v, letOwnedTupleGo target it v = pure () := by intro _; rfl) : codeC 𝒞 (model prog w) A (.forLoop target it body orelse env) R s := by
  refine codeC_loop K rfl rfl I (fun n s hI => ?_) n h
  show wpC 𝒞 _ A ((forTurn target it body orelse env).onRaise (fun x => do noteFrame x env; theTreesLotGoes x)) _ _ s
  refine wpC_noted ?_
  simp only [forTurn]
  refine wpC_bind (wpC_of (wpAny_standAt (wpC_bind (wpC_onRaise (wpC_mono (turn n s hI) (fun r s₁ h₁ => ?_) fun _ _ h' => wpC_of (wpAny_standAt h'))))))
  cases r with
  | none => exact wpC_pure (.inr ⟨rfl, rfl, codeC_block K h₁⟩)
  | some v =>
    refine wpC_bind (wpC_of (wpAny_of_eq (ht v) ?_))
    refine wpC_bind (wpC_mono h₁ (fun _ s₂ h₂ => wpC_bind (wpC_mono h₂ (fun f s₃ h₃ => ?_) fun _ _ h' => h')) fun _ _ h' => h')
    cases f with
    | next => exact wpC_pure (.inl ⟨rfl, h₃⟩)
    | cont => exact wpC_pure (.inl ⟨rfl, h₃⟩)
    | brk => exact wpC_pure h₃
    | ret v => exact wpC_pure h₃
theorem wpC_For (K : Closed 𝒞) {prog : Program} {target iter : Expr} {body orelse : List Stmt} {env : Env} {pos : Pos} {Q : Flow → Shared → Prop}
    (h : wpC 𝒞 (model prog w) A (eval iter env) (fun x s₁ => wpC 𝒞 (model prog w) A (pyIter x) (fun it s₂ =>
      codeC 𝒞 (model prog w) A (.forLoop target it body orelse env) (fun r s' => match r with | .ok f => Q f s' | .error e => cameBackBy (model prog w) A env E e s') s₂) E s₁) E s)
    (hs : ∀ x, foldedSetIterable iter env x = pure x := by intro _; rfl) : wpC 𝒞 (model prog w) A (exec (.For target iter body orelse pos) env) Q E s := by
  rw [exec_For]
  exact wpC_bind (wpC_of (wpAny_standAt (wpC_bind (wpC_mono h (fun x s₁ h₁ => wpC_bind (wpC_of (wpAny_of_eq (hs x) (wpC_bind (wpC_of (wpAny_standAt (wpC_bind (wpC_holding
    (wpC_mono h₁ (fun it s₂ h₂ => wpC_runOwn K rfl h₂) fun _ _ h' => h'))))))))) fun _ _ h' => h'))))
theorem wpC_Try_except {prog : Program} {body orelse : List Stmt} {h₀ : ExceptHandler} {hs : List ExceptHandler} {env : Env} {pos : Pos} {Q : Flow → Shared → Prop}
    (h : wpC 𝒞 (model prog w) A (execs body env) (fun f s₁ => match f with | .next => wpC 𝒞 (model prog w) A (execs orelse env) Q E s₁ | f => Q f s₁)
      (fun e s₁ => wpAny (model prog w) A (noteFrame e env) (fun _ s₂ => wpAny (model prog w) A (setFlight e none) (fun _ s₃ => wpC 𝒞 (model prog w) A (handleBy e env (h₀ :: hs)) Q E s₃) E s₂) E s₁) s) :
    wpC 𝒞 (model prog w) A (exec (.Try body (h₀ :: hs) orelse [] pos) env) Q E s := by
  rw [arm_exec_Try]
  refine wpC_bind (wpC_of (wpAny_standAt ?_))
  unfold tryStmt
  simp only [List.isEmpty_nil, if_true, List.isEmpty_cons, Bool.false_and, Bool.false_eq_true, if_false]
  refine wpC_bind (wpC_attempt (wpC_mono h (fun f s₁ h₁ => ?_) fun e s₁ h₁ => ?_))
  · cases f <;> first | exact h₁ | exact wpC_pure h₁
  · exact wpC_bind (wpC_of (wpAny_mono h₁ (fun _ _ h₂ => wpC_bind (wpC_of h₂)) fun _ _ x => x))
theorem codeC_func (K : Closed 𝒞) {prog : Program} {body : List Stmt} {env : Env}
    (h : wpC 𝒞 (model prog w) (A.deeper env) (execs body env) (fun f s' => R (.ok (.ret (match f with | .ret v => v | _ => .none))) s')
      (fun e s' => wpAny (model prog w) (A.deeper env) (leaving env e) (fun _ s'' => R (.error e) s'') (fun e' s'' => R (.error e') s'') s') s) :
    codeC 𝒞 (model prog w) A (.func body env) R s := by
  refine codeC_of_tree K ?_
  show wpC 𝒞 _ (A.deeper env) (do point; match ← (execs body env).onRaise (leaving env) with | .ret v => ret v | _ => ret .none) _ _ s
  refine wpC_bind (wpC_of (wpAny_point (wpC_bind (wpC_onRaise (wpC_mono h (fun f s' h' => ?_) fun _ _ h' => wpC_of h')))))
  cases f <;> exact wpC_pure h'
theorem codeC_call_function (K : Closed 𝒞) {prog : Program} {a : Addr} {args : Args} {o : Obj} {fd : FuncData} {body : List Stmt} (hroom : A.depth < recursionLimit)
    (ho : s.heap.get? a = some o) (hd' : o.data = .func fd) (hco : fd.scope.isCoroutine = false) (hgen : fd.scope.isGenerator = false) (hbody : fd.body = .stmts body) (hcd : s.heap.CodeRec fd.code fd.qualname)
    (h : wpAny (model prog w) A.in1 (bindArgs fd args) (fun binds s₁ =>
      wpAny (model prog w) A.in1 (newFunctionEnv fd.scope fd.globals fd.closure binds (fd.qualname ++ ".<locals>.") (some a) fd.code none fd.builtins)
        (fun env s₂ => s₂.heap.NoLimit ∧ codeC 𝒞 (model prog w) A (.func body env) R s₂) (fun e s' => R (.error e) s') s₁) (fun e s' => R (.error e) s') s) :
    codeC 𝒞 (model prog w) A (.call (.ref a) args) R s := by
  refine codeC_of_tree K (wpC_of ?_)
  show wpAny _ A.in1 (callAny (.ref a) args) _ _ s
  simp only [callAny]
  refine wpAny_bind (wpAny_load ho ?_)
  obtain ⟨c, oc, vs, tq, hc, hoc, hdc, hq⟩ := hcd
  simp only [hd', callFunction, hco, hgen, hbody, hc]
  rw [hc] at h
  refine wpAny_bind (m := field (.ref c) 1) (wpAny_field hoc hdc hq (wpAny_bind (wpAny_pure ?_)))
  exact wpAny_bind (wpAny_mono h (fun binds s₁ h₁ => wpAny_bind (wpAny_mono h₁ (fun env s₂ h₂ => wpAny_bind (wpAny_enterFrame h₂.1 hroom
    (wpAny_pure ⟨rfl, rfl, h₂.2⟩))) fun _ _ h' => h')) fun _ _ h' => h')
theorem wpC_callWith_of {M : Model} {P : Heap → Prop} {pos : Pos} {f : Value} {first : List Value} {args : List (Bool × Sem Value)} {Q : Value → Shared → Prop} (hplain : args.any (·.1) = false)
    (hk : ∀ h, P h → ∃ k, (k = Keeper.frame ∨ k = Keeper.machine ∨ k = Keeper.boundFrame) ∧ Looks M h (keeperOf f) k)
    (h : wpC 𝒞 M A (evalArgs f true args []) (fun a s₁ => P s₁.heap ∧ wpC 𝒞 M A (call f (first ++ a.pos) a.kw) Q E s₁) E s) : wpC 𝒞 M A (callWith pos f first args []) Q E s := by
  unfold callWith
  refine wpC_bind (wpC_holding (wpC_mono h (fun a s₁ h₁ => wpC_bind (wpC_of (wpAny_standAt ?_))) fun _ _ x => x))
  obtain ⟨k, hk', L⟩ := hk _ h₁.1
  simp only [hplain, List.any_nil, Bool.or_false]
  refine wpC_bind (wpC_of (L.here ?_))
  have tail : ∀ {t : Sem Value}, wpC 𝒞 M A t Q E s₁ → wpC 𝒞 M A (t >>= fun r => holding [r] point >>= fun _ => pure r) Q E s₁ :=
    fun ht => wpC_bind (wpC_mono ht (fun r s₂ hr => wpC_of (wpAny_bind (wpAny_holding (wpAny_point (wpAny_pure hr))))) fun _ _ x => x)
  have marked (mk : Value) : wpC 𝒞 M A (callMarked mk f (first ++ a.pos) a.kw) Q E s₁ := by unfold callMarked; exact wpC_keep h₁.2
  rcases hk' with rfl | rfl | rfl <;> dsimp only <;> first | exact tail h₁.2 | (split <;> first | exact tail h₁.2 | exact tail (marked _))
theorem wpC_evalArgs {M : Model} {f : Value} {args : List (Bool × Sem Value)} {Q : Args → Shared → Prop} (hp : args.any (·.1) = false)
    (h : wpC 𝒞 M A (spliced args) (fun vs s' => Q ⟨vs, []⟩ s') E s) : wpC 𝒞 M A (evalArgs f true args []) Q E s := by
  cases args with
  | nil => intro Γ p hΓ hC; exact PySem.evalArgs_none (h Γ p hΓ hC) Γ p hΓ
  | cons x r =>
    obtain ⟨b, t⟩ := x
    rw [List.any_cons, Bool.or_eq_false_iff] at hp
    obtain rfl : b = false := hp.1
    unfold evalArgs
    show wpC 𝒞 M A (spliced ((false, t) :: r) >>= _) Q E s
    refine wpC_bind (wpC_mono h (fun vs s' h' => ?_) fun _ _ x => x)
    exact wpC_of (wpAny_holding (wpAny_bind (wpAny_pure (wpAny_bind (wpAny_pure (wpAny_pure h'))))))
end
end Mine
end

section
set_option maxRecDepth 100000
set_option linter.unusedVariables false
open PySem PySem.W PySem.Calls PyProof.Rows
namespace Mine

noncomputable abbrev pw : Program := PySem.Challenge.pw_lo0005_01
noncomputable abbrev RMap := List (Addr × Option Addr)
noncomputable abbrev Loc := List (Str × MV)

noncomputable def biVal : Bi → Value
  | .len => .builtin "len" | .chr => .builtin "chr" | .isinst => .builtin "isinstance" | .tlist => .type "list" | .ttuple => .type "tuple" | .tbarr => .type "bytearray"
  | .tbytes => .type "bytes" | .tstr => .type "str" | .tint => .type "int" | .trange => .type "range"
noncomputable def VRep (ρ : RMap) : MV → Value → Prop
  | .none, v => v = .none
  | .bool b, v => v = .bool b
  | .int i, v => ∃ t, v = .int i t
  | .str x, v => ∃ t, v = .str x t
  | .bytes b, v => ∃ t, v = .bytes b.toArray t
  | .obj i, v => ∃ p, ρ[i]? = some p ∧ v = .ref p.1
  | .bi b, v => v = biVal b
  | .gl a, v => v = .ref a
theorem pre_get {α : Type} {l l' : List α} (h : l <+: l') {i : Nat} {a : α} (e : l[i]? = some a) : l'[i]? = some a := by
  obtain ⟨t, rfl⟩ := h
  obtain ⟨hl, _⟩ := List.getElem?_eq_some_iff.mp e
  rw [List.getElem?_append_left hl]; exact e
theorem VRep.mono {ρ ρ' : RMap} (h : ρ <+: ρ') : ∀ {a : MV} {v : Value}, VRep ρ a v → VRep ρ' a v
  | .none, _, x => x
  | .bool _, _, x => x
  | .int _, _, x => x
  | .str _, _, x => x
  | .bytes _, _, x => x
  | .obj _, _, ⟨p, e, q⟩ => ⟨p, pre_get h e, q⟩
  | .bi _, _, x => x
  | .gl _, _, x => x

inductive VsRep (ρ : RMap) : List MV → List Value → Prop
  | nil : VsRep ρ [] []
  | cons {a v as vs} (h : VRep ρ a v) (t : VsRep ρ as vs) : VsRep ρ (a :: as) (v :: vs)
theorem VsRep.mono {ρ ρ' : RMap} (h : ρ <+: ρ') {as vs} (x : VsRep ρ as vs) : VsRep ρ' as vs := by
  induction x with
  | nil => exact .nil
  | cons a _ ih => exact .cons (a.mono h) ih
theorem VsRep.length {ρ : RMap} {as vs} (x : VsRep ρ as vs) : vs.length = as.length := by
  induction x with
  | nil => rfl
  | cons _ _ ih => simp [ih]
theorem VsRep.get {ρ : RMap} {as vs} (x : VsRep ρ as vs) : ∀ {i : Nat} {a : MV}, as[i]? = some a → ∃ v, vs[i]? = some v ∧ VRep ρ a v := by
  induction x with
  | nil => intro i a e; simp at e
  | cons h _ ih =>
    intro i a e
    cases i with
    | zero => simp at e; subst e; exact ⟨_, by simp, h⟩
    | succ i => simp at e; simpa using ih e
theorem VsRep.append {ρ : RMap} {as vs bs ws} (x : VsRep ρ as vs) (y : VsRep ρ bs ws) : VsRep ρ (as ++ bs) (vs ++ ws) := by
  induction x with
  | nil => exact y
  | cons h _ ih => exact .cons h ih
theorem VsRep.drop {ρ : RMap} {as vs} (x : VsRep ρ as vs) : ∀ n, VsRep ρ (as.drop n) (vs.drop n) := by
  induction x with
  | nil => intro n; simp; exact .nil
  | cons h t ih => intro n; cases n with
    | zero => exact .cons h t
    | succ n => simpa using ih n
theorem VsRep.take {ρ : RMap} {as vs} (x : VsRep ρ as vs) : ∀ n, VsRep ρ (as.take n) (vs.take n) := by
  induction x with
  | nil => intro n; simp; exact .nil
  | cons h t ih => intro n; cases n with
    | zero => simp; exact .nil
    | succ n => simpa using VsRep.cons h (ih n)

noncomputable def addrs (ρ : RMap) : List Addr := ρ.flatMap fun p => p.1 :: p.2.toList

noncomputable def LocRep (ρ : RMap) (loc : Loc) (m : Str → Option Value) : Prop := ∀ x a, lookS x loc = some a → ∃ v, m x = some v ∧ VRep ρ a v
noncomputable def FldRep (ρ : RMap) (fs : Loc) (m : Str → Option Value) : Prop := LocRep ρ fs m ∧ ∀ x, lookS x fs = none → m x = none
noncomputable def NsRep (ρ : RMap) (h : Heap) (L : Addr) (loc : Loc) : Prop := ∃ m, h.Ns L m ∧ LocRep ρ loc m

noncomputable def DictRep (ρ : RMap) (h : Heap) (d : Addr) (fs : Loc) : Prop := ∃ o es ep m, h.get? d = some o ∧ o.data = .dict es ep ∧ StrKeys es ∧ (∀ name, nsFind es name = m name) ∧ es.size ≤ fs.length ∧ FldRep ρ fs m
noncomputable def ORep (ρ : RMap) (h : Heap) (p : Addr × Option Addr) : MO → Prop
  | .list xs => p.2 = none ∧ ∃ vs n, h.get? p.1 = some { cls := .type "list", data := .seq vs.toArray n } ∧ VsRep ρ xs vs
  | .tup xs => p.2 = none ∧ ∃ vs n, h.get? p.1 = some { cls := .type "tuple", data := .seq vs.toArray n } ∧ VsRep ρ xs vs
  | .barr b => p.2 = none ∧ h.get? p.1 = some { cls := .type "bytearray", data := .bytearray b.toArray 0 }
  | .inst C fs => ∃ d, p.2 = some d ∧ h.get? p.1 = some (instObj C d) ∧ DictRep ρ h d fs
  | .range a b c => p.2 = none ∧ ∃ t u v, IsRange h p.1 a b c t u v
  | .flist xs => p.2 = none ∧ ∃ vs, h.IsList p.1 vs.toArray ∧ VsRep ρ xs vs

structure Sys where
  w : World
  B : Heap
  os : OsState
  K : Frag

structure Stn (S : Sys) (ρ : RMap) (kp : List (Addr × Obj)) (frs : List (Addr × Loc)) (objs : List MO) (s : Shared) : Prop where
  base : ∀ b o, S.B.get? b = some o → s.heap.get? b = some o
  len : ρ.length = objs.length
  obj : ∀ (i : Nat) o, objs[i]? = some o → ∃ p : Addr × Option Addr, ρ[i]? = some p ∧ ORep ρ s.heap p o
  frm : ∀ f ∈ frs, NsRep ρ s.heap f.1 f.2
  kept : ∀ p ∈ kp, s.heap.get? p.1 = some p.2
  apart : (frs.map (·.1) ++ (kp.map (·.1) ++ addrs ρ)).Nodup
  fresh : ∀ x ∈ frs.map (·.1) ++ (kp.map (·.1) ++ addrs ρ), S.B.get? x = none
  gens : s.gens = #[]
  os : s.os = S.os
  high : ∀ f ∈ frs, ∀ a o, S.K.lookup a = some o → a < f.1

theorem Stn.toks {S ρ kp frs objs s} (I : Stn S ρ kp frs objs s) (t : Nat) : Stn S ρ kp frs objs { s with toks := t } :=
  ⟨I.base, I.len, I.obj, I.frm, I.kept, I.apart, I.fresh, I.gens, I.os, I.high⟩


theorem ORep.mono {ρ ρ' : RMap} {h h' : Heap} {p : Addr × Option Addr} (hp : ρ <+: ρ') (hk : ∀ b o, (b = p.1 ∨ p.2 = some b) → h.get? b = some o → h'.get? b = some o) {o : MO} (q : ORep ρ h p o) : ORep ρ' h' p o := by
  cases o with
  | list _ => obtain ⟨e, vs, n, g, r⟩ := q; exact ⟨e, vs, n, hk _ _ (.inl rfl) g, r.mono hp⟩
  | tup _ => obtain ⟨e, vs, n, g, r⟩ := q; exact ⟨e, vs, n, hk _ _ (.inl rfl) g, r.mono hp⟩
  | barr _ => exact ⟨q.1, hk _ _ (.inl rfl) q.2⟩
  | inst _ _ =>
    obtain ⟨d, e, g, o, es, ep, m, ho, h1, h2, h3, h4, hl, hn⟩ := q
    refine ⟨d, e, hk _ _ (.inl rfl) g, o, es, ep, m, hk _ _ (.inr e) ho, h1, h2, h3, h4, fun x a q => ?_, hn⟩
    obtain ⟨v, q1, q2⟩ := hl x a q
    exact ⟨v, q1, q2.mono hp⟩
  | range _ _ _ => obtain ⟨e, t, u, v, g⟩ := q; exact ⟨e, t, u, v, hk _ _ (.inl rfl) g⟩
  | flist _ => obtain ⟨e, vs, ⟨o, g, r1⟩, r⟩ := q; exact ⟨e, vs, ⟨o, hk _ _ (.inl rfl) g, r1⟩, r.mono hp⟩
theorem at_one {h : Heap} {p : Addr × Option Addr} (e : p.2 = none) (g : ∃ o, h.get? p.1 = some o) (b : Addr) (hb : b = p.1 ∨ p.2 = some b) : ∃ o', h.get? b = some o' :=
  hb.elim (fun q => q ▸ g) (fun q => nomatch e.symm.trans q)
theorem ORep.there {ρ : RMap} {h : Heap} {p : Addr × Option Addr} {o : MO} (q : ORep ρ h p o) : ∀ b, (b = p.1 ∨ p.2 = some b) → ∃ o', h.get? b = some o' := by
  cases o with
  | list _ => obtain ⟨e, vs, n, g, r⟩ := q; exact at_one e ⟨_, g⟩
  | tup _ => obtain ⟨e, vs, n, g, r⟩ := q; exact at_one e ⟨_, g⟩
  | barr _ => exact at_one q.1 ⟨_, q.2⟩
  | inst _ _ =>
    obtain ⟨d, e, g, o, es, ep, m, ho, _⟩ := q
    exact fun b hb => hb.elim (fun q => q ▸ ⟨_, g⟩) (fun q => Option.some.inj (e.symm.trans q) ▸ ⟨o, ho⟩)
  | range _ _ _ => obtain ⟨e, t, u, v, g⟩ := q; exact at_one e ⟨_, g⟩
  | flist _ => obtain ⟨e, vs, ⟨o, g, r1⟩, r⟩ := q; exact at_one e ⟨_, g⟩
theorem NsRep.mono {ρ ρ' : RMap} {h h' : Heap} {L : Addr} {loc : Loc} (hp : ρ <+: ρ') (hk : ∀ m, h.Ns L m → h'.Ns L m) : NsRep ρ h L loc → NsRep ρ' h' L loc
  | ⟨m, hm, hl⟩ => ⟨m, hk m hm, fun x a q => let ⟨v, q1, q2⟩ := hl x a q; ⟨v, q1, q2.mono hp⟩⟩
theorem mem_addrs {ρ : RMap} {b : Addr} : b ∈ addrs ρ ↔ ∃ (i : Nat) (p : Addr × Option Addr), ρ[i]? = some p ∧ (b = p.1 ∨ p.2 = some b) := by
  unfold addrs
  rw [List.mem_flatMap]
  constructor
  · rintro ⟨p, hp, hb⟩
    obtain ⟨i, hi⟩ := List.getElem?_of_mem hp
    refine ⟨i, p, hi, ?_⟩
    rcases List.mem_cons.mp hb with rfl | hb
    · exact .inl rfl
    · exact .inr (Option.mem_toList.mp hb)
  · rintro ⟨i, p, hi, hb⟩
    refine ⟨p, List.mem_of_getElem? hi, ?_⟩
    rcases hb with rfl | hb
    · exact .head _
    · exact .tail _ (Option.mem_toList.mpr hb)

section
variable {S : Sys} {ρ : RMap} {kp : List (Addr × Obj)} {frs : List (Addr × Loc)} {objs : List MO} {s : Shared}
theorem Stn.there (I : Stn S ρ kp frs objs s) {x : Addr} (hx : x ∈ frs.map (·.1) ++ (kp.map (·.1) ++ addrs ρ)) : ∃ o, s.heap.get? x = some o := by
  rcases List.mem_append.mp hx with h | h
  · obtain ⟨f, hf, rfl⟩ := List.mem_map.mp h
    obtain ⟨m, ⟨o, es, ep, ho, r⟩, _⟩ := I.frm f hf
    exact ⟨o, ho⟩
  · rcases List.mem_append.mp h with h | h
    · obtain ⟨f, hf, rfl⟩ := List.mem_map.mp h
      exact ⟨_, I.kept f hf⟩
    · obtain ⟨i, p, hi, hb⟩ := mem_addrs.mp h
      have hl : i < objs.length := by rw [← I.len]; exact (List.getElem?_eq_some_iff.mp hi).1
      obtain ⟨p', hp', hr⟩ := I.obj i objs[i] (List.getElem?_eq_getElem hl)
      rw [hi] at hp'; cases hp'
      exact hr.there _ hb
theorem Stn.new_ne (I : Stn S ρ kp frs objs s) {D x : Addr} (hD : s.heap.get? D = none) (hx : x ∈ frs.map (·.1) ++ (kp.map (·.1) ++ addrs ρ)) : D ≠ x := by
  rintro rfl
  obtain ⟨o, ho⟩ := I.there hx
  rw [hD] at ho; cases ho
theorem Stn.new_B (I : Stn S ρ kp frs objs s) {D : Addr} (hD : s.heap.get? D = none) : S.B.get? D = none := by
  cases q : S.B.get? D with
  | none => rfl
  | some o => have := I.base D o q; rw [hD] at this; cases this

theorem Stn.grow (I : Stn S ρ kp frs objs s) {h' : Heap} {t : Nat} (hk : ∀ b o, s.heap.get? b = some o → h'.get? b = some o) : Stn S ρ kp frs objs { s with heap := h', toks := t } where
  base := fun b o e => hk b o (I.base b o e)
  len := I.len
  obj := fun i o e => let ⟨p, hp, r⟩ := I.obj i o e; ⟨p, hp, r.mono (List.prefix_refl _) fun b o _ => hk b o⟩
  frm := fun f hf => (I.frm f hf).mono (List.prefix_refl _) fun m hm => hm.keeps hk
  kept := fun p hp => hk _ _ (I.kept p hp)
  apart := I.apart
  fresh := I.fresh
  gens := I.gens
  os := I.os
  high := I.high
theorem Stn.newO (I : Stn S ρ kp frs objs s) {h' : Heap} {t : Nat} {p : Addr × Option Addr} {o : MO} (hk : ∀ b o, s.heap.get? b = some o → h'.get? b = some o)
    (h1 : s.heap.get? p.1 = none) (h2 : ∀ d, p.2 = some d → s.heap.get? d = none ∧ d ≠ p.1) (hr : ORep (ρ ++ [p]) h' p o) : Stn S (ρ ++ [p]) kp frs (objs ++ [o]) { s with heap := h', toks := t } where
  base := fun b o e => hk b o (I.base b o e)
  len := by simp [I.len]
  obj := fun i o' e => by
    by_cases hi : i < objs.length
    · rw [List.getElem?_append_left hi] at e
      obtain ⟨q, hq, r⟩ := I.obj i o' e
      exact ⟨q, pre_get (List.prefix_append _ _) hq, r.mono (List.prefix_append _ _) fun b o _ => hk b o⟩
    · rw [List.getElem?_append_right (Nat.le_of_not_lt hi)] at e
      have : i - objs.length = 0 := by
        rcases Nat.eq_zero_or_pos (i - objs.length) with h | h
        · exact h
        · rw [List.getElem?_eq_none (by simp; omega)] at e; cases e
      rw [this] at e; simp at e; subst e
      refine ⟨p, ?_, hr⟩
      have hl : i = ρ.length := by rw [I.len]; omega
      subst hl; simp
  frm := fun f hf => (I.frm f hf).mono (List.prefix_append _ _) fun m hm => hm.keeps hk
  kept := fun q hq => hk _ _ (I.kept q hq)
  apart := by
    have e : addrs (ρ ++ [p]) = addrs ρ ++ (p.1 :: p.2.toList) := by simp [addrs]
    rw [e, ← List.append_assoc, ← List.append_assoc, List.nodup_append]
    have hA := I.apart
    rw [← List.append_assoc] at hA
    refine ⟨hA, ?_, ?_⟩
    · rw [List.nodup_cons]
      refine ⟨fun hm => (h2 _ (Option.mem_toList.mp hm)).2 rfl, ?_⟩
      cases p.2 <;> simp
    · intro x hx y hy hxy
      subst hxy
      rw [List.append_assoc] at hx
      rcases List.mem_cons.mp hy with rfl | hy
      · exact I.new_ne h1 hx rfl
      · exact I.new_ne (h2 _ (Option.mem_toList.mp hy)).1 hx rfl
  fresh := fun x hx => by
    have e : addrs (ρ ++ [p]) = addrs ρ ++ (p.1 :: p.2.toList) := by simp [addrs]
    rw [e, ← List.append_assoc, ← List.append_assoc, List.mem_append, List.append_assoc] at hx
    rcases hx with hx | hx
    · exact I.fresh x hx
    · rcases List.mem_cons.mp hx with rfl | hx
      · exact I.new_B h1
      · exact I.new_B (h2 _ (Option.mem_toList.mp hx)).1
  gens := I.gens
  os := I.os
  high := I.high
theorem nodup_mid {α : Type} {a : α} {l r : List α} : (l ++ a :: r).Nodup ↔ (a :: (l ++ r)).Nodup := List.perm_middle.nodup_iff
theorem nodup_get : ∀ {ρ : RMap} (hn : (addrs ρ).Nodup) {i j : Nat} {p q : Addr × Option Addr} {b : Addr} (hi : ρ[i]? = some p) (hj : ρ[j]? = some q) (h1 : b = p.1 ∨ p.2 = some b) (h2 : b = q.1 ∨ q.2 = some b), i = j
  | [], _, i, j, p, q, b, hi, hj, h1, h2 => by simp at hi
  | r :: ρ, hn, i, j, p, q, b, hi, hj, h1, h2 => by
    have e : addrs (r :: ρ) = (r.1 :: r.2.toList) ++ addrs ρ := by simp [addrs]
    rw [e, List.nodup_append] at hn
    have hm : (b = r.1 ∨ r.2 = some b) → b ∈ r.1 :: r.2.toList := by
      rintro (rfl | h)
      · exact .head _
      · exact .tail _ (Option.mem_toList.mpr h)
    cases i with
    | zero =>
      cases j with
      | zero => rfl
      | succ j =>
        simp at hi hj; subst hi
        exact (hn.2.2 b (hm h1) b (mem_addrs.mpr ⟨j, q, hj, h2⟩) rfl).elim
    | succ i =>
      cases j with
      | zero =>
        simp at hi hj; subst hj
        exact (hn.2.2 b (hm h2) b (mem_addrs.mpr ⟨i, p, hi, h1⟩) rfl).elim
      | succ j =>
        simp at hi hj
        rw [nodup_get hn.2.1 hi hj h1 h2]
theorem Stn.setO (I : Stn S ρ kp frs objs s) {h' : Heap} {t : Nat} {i : Nat} {p : Addr × Option Addr} {o : MO} (hi : ρ[i]? = some p)
    (hk : ∀ b o, b ≠ p.1 → p.2 ≠ some b → s.heap.get? b = some o → h'.get? b = some o) (hr : ORep ρ h' p o) : Stn S ρ kp frs (objs.set i o) { s with heap := h', toks := t } := by
  have hin : ∀ b, (b = p.1 ∨ p.2 = some b) → b ∈ addrs ρ := fun b hb => mem_addrs.mpr ⟨i, p, hi, hb⟩
  have hA := I.apart
  have hA2 := List.nodup_append.mp hA
  have hA3 := List.nodup_append.mp hA2.2.1
  have hkk : ∀ b o, ¬ (b = p.1 ∨ p.2 = some b) → s.heap.get? b = some o → h'.get? b = some o := fun b o hb => hk b o (fun e => hb (.inl e)) fun e => hb (.inr e)
  refine ⟨fun b o' e => ?_, by simp [I.len], fun j o' e => ?_, fun f hf => ?_, fun q hq => ?_, hA, I.fresh, I.gens, I.os, I.high⟩
  · refine hkk b o' (fun hb => ?_) (I.base b o' e)
    have := I.fresh b (List.mem_append_right _ (List.mem_append_right _ (hin b hb)))
    rw [e] at this; cases this
  · by_cases hj : i = j
    · subst hj
      have hl : i < objs.length := by rw [← I.len]; exact (List.getElem?_eq_some_iff.mp hi).1
      rw [List.getElem?_set_self hl] at e; cases e
      exact ⟨p, hi, hr⟩
    · rw [List.getElem?_set_ne hj] at e
      obtain ⟨q, hq, r⟩ := I.obj j o' e
      exact ⟨q, hq, r.mono (List.prefix_refl _) fun b ob hb => hkk b ob fun hb' => hj (nodup_get hA3.2.1 hi hq hb' hb)⟩
  · refine (I.frm f hf).mono (List.prefix_refl _) fun m hm => ?_
    obtain ⟨ob, es, ep, ho, r⟩ := hm
    exact ⟨ob, es, ep, hkk _ _ (fun hb => hA2.2.2 f.1 (List.mem_map_of_mem hf) f.1 (List.mem_append_right _ (hin _ hb)) rfl) ho, r⟩
  · exact hkk _ _ (fun hb => hA3.2.2 q.1 (List.mem_map_of_mem hq) q.1 (hin _ hb) rfl) (I.kept q hq)
theorem Stn.setF {L : Addr} {loc loc' : Loc} {outer : List (Addr × Loc)} (I : Stn S ρ kp ((L, loc) :: outer) objs s) {h' : Heap} {t : Nat} (hs : Heap.ExtBut L s.heap h') (hn : NsRep ρ h' L loc') : Stn S ρ kp ((L, loc') :: outer) objs { s with heap := h', toks := t } := by
  have hA := I.apart
  simp only [List.map_cons, List.cons_append] at hA
  have hA1 := List.nodup_cons.mp hA
  have hne : ∀ x ∈ outer.map (·.1) ++ (kp.map (·.1) ++ addrs ρ), x ≠ L := fun x hx e => hA1.1 (e ▸ hx)
  refine ⟨fun b o' e => ?_, I.len, fun j o' e => ?_, fun f hf => ?_, fun q hq => ?_, I.apart, I.fresh, I.gens, I.os, fun f hf => ?_⟩
  · refine hs b o' (fun hb => ?_) (I.base b o' e)
    have := I.fresh L (by simp)
    rw [← hb, e] at this; cases this
  · obtain ⟨q, hq, r⟩ := I.obj j o' e
    exact ⟨q, hq, r.mono (List.prefix_refl _) fun b ob hb => hs b ob (hne b (List.mem_append_right _ (List.mem_append_right _ (mem_addrs.mpr ⟨j, q, hq, hb⟩))))⟩
  · rcases List.mem_cons.mp hf with rfl | hf
    · exact hn
    · refine (I.frm f (.tail _ hf)).mono (List.prefix_refl _) fun m hm => ?_
      obtain ⟨ob, es, ep, ho, r⟩ := hm
      exact ⟨ob, es, ep, hs _ _ (hne _ (List.mem_append_left _ (List.mem_map_of_mem hf))) ho, r⟩
  · exact hs _ _ (hne _ (List.mem_append_right _ (List.mem_append_left _ (List.mem_map_of_mem hq)))) (I.kept q hq)
  · rcases List.mem_cons.mp hf with rfl | hf
    · exact I.high (L, loc) (.head _)
    · exact I.high f (.tail _ hf)
theorem Stn.keep (I : Stn S ρ kp frs objs s) {D : Addr} {o : Obj} {h' : Heap} {t : Nat} (hk : ∀ b o, s.heap.get? b = some o → h'.get? b = some o) (hD : s.heap.get? D = none) (ho : h'.get? D = some o) :
    Stn S ρ ((D, o) :: kp) frs objs { s with heap := h', toks := t } := by
  have J := I.grow (t := t) hk
  have hne : ∀ x ∈ frs.map (·.1) ++ (kp.map (·.1) ++ addrs ρ), D ≠ x := fun x hx => I.new_ne hD hx
  refine ⟨J.base, J.len, J.obj, J.frm, fun q hq => ?_, ?_, fun x hx => ?_, J.gens, J.os, J.high⟩
  · rcases List.mem_cons.mp hq with rfl | hq
    · exact ho
    · exact J.kept q hq
  · rw [List.map_cons, List.cons_append]
    refine nodup_mid.mpr (List.nodup_cons.mpr ⟨fun hm => hne D hm rfl, I.apart⟩)
  · rw [List.map_cons, List.cons_append, List.mem_append, List.mem_cons] at hx
    rcases hx with hx | rfl | hx
    · exact I.fresh x (List.mem_append_left _ hx)
    · exact I.new_B hD
    · exact I.fresh x (List.mem_append_right _ hx)
theorem Stn.rekeep {D : Addr} {o o' : Obj} (I : Stn S ρ ((D, o) :: kp) frs objs s) {h' : Heap} {t : Nat} (hs : Heap.ExtBut D s.heap h') (ho : h'.get? D = some o') : Stn S ρ ((D, o') :: kp) frs objs { s with heap := h', toks := t } := by
  have hA := List.nodup_cons.mp (nodup_mid.mp (by have := I.apart; rwa [List.map_cons, List.cons_append] at this))
  have hne : ∀ x ∈ frs.map (·.1) ++ (kp.map (·.1) ++ addrs ρ), x ≠ D := fun x hx e => hA.1 (e ▸ hx)
  refine ⟨fun b o' e => ?_, I.len, fun j o' e => ?_, fun f hf => ?_, fun q hq => ?_, I.apart, I.fresh, I.gens, I.os, I.high⟩
  · refine hs b o' (fun hb => ?_) (I.base b o' e)
    have := I.fresh D (by simp)
    rw [← hb, e] at this; cases this
  · obtain ⟨q, hq, r⟩ := I.obj j o' e
    exact ⟨q, hq, r.mono (List.prefix_refl _) fun b ob hb => hs b ob (hne b (List.mem_append_right _ (List.mem_append_right _ (mem_addrs.mpr ⟨j, q, hq, hb⟩))))⟩
  · refine (I.frm f hf).mono (List.prefix_refl _) fun m hm => ?_
    obtain ⟨ob, es, ep, ho, r⟩ := hm
    exact ⟨ob, es, ep, hs _ _ (hne _ (List.mem_append_left _ (List.mem_map_of_mem hf))) ho, r⟩
  · rcases List.mem_cons.mp hq with rfl | hq
    · exact ho
    · exact hs _ _ (hne _ (List.mem_append_right _ (List.mem_append_left _ (List.mem_map_of_mem hq)))) (I.kept q (.tail _ hq))
theorem Stn.unkeep {p : Addr × Obj} (I : Stn S ρ (p :: kp) frs objs s) : Stn S ρ kp frs objs s := by
  have hA := List.nodup_cons.mp (nodup_mid.mp (by have := I.apart; rwa [List.map_cons, List.cons_append] at this))
  refine ⟨I.base, I.len, I.obj, I.frm, fun q hq => I.kept q (.tail _ hq), hA.2, fun x hx => I.fresh x ?_, I.gens, I.os, I.high⟩
  rw [List.map_cons, List.cons_append, List.mem_append, List.mem_cons]
  rcases List.mem_append.mp hx with hx | hx
  · exact .inl hx
  · exact .inr (.inr hx)
theorem Stn.push (I : Stn S ρ kp frs objs s) {D : Addr} {loc : Loc} {h' : Heap} {t : Nat} (hk : ∀ b o, s.heap.get? b = some o → h'.get? b = some o) (hD : s.heap.get? D = none) (hn : NsRep ρ h' D loc) (hh : ∀ a o, S.K.lookup a = some o → a < D) :
    Stn S ρ kp ((D, loc) :: frs) objs { s with heap := h', toks := t } := by
  have J := I.grow (t := t) hk
  have hne : ∀ x ∈ frs.map (·.1) ++ (kp.map (·.1) ++ addrs ρ), D ≠ x := fun x hx => I.new_ne hD hx
  refine ⟨J.base, J.len, J.obj, fun q hq => ?_, J.kept, ?_, fun x hx => ?_, J.gens, J.os, fun q hq => ?_⟩
  · rcases List.mem_cons.mp hq with rfl | hq
    · exact hn
    · exact J.frm q hq
  · rw [List.map_cons, List.cons_append]
    exact List.nodup_cons.mpr ⟨fun hm => hne D hm rfl, I.apart⟩
  · rw [List.map_cons, List.cons_append, List.mem_cons] at hx
    rcases hx with rfl | hx
    · exact I.new_B hD
    · exact I.fresh x hx
  · rcases List.mem_cons.mp hq with rfl | hq
    · exact hh
    · exact J.high q hq
theorem Stn.pop {p : Addr × Loc} (I : Stn S ρ kp (p :: frs) objs s) : Stn S ρ kp frs objs s := by
  have hA := I.apart
  rw [List.map_cons, List.cons_append] at hA
  refine ⟨I.base, I.len, I.obj, fun q hq => I.frm q (.tail _ hq), I.kept, (List.nodup_cons.mp hA).2, fun x hx => I.fresh x ?_, I.gens, I.os, fun q hq => I.high q (.tail _ hq)⟩
  rw [List.map_cons, List.cons_append]
  exact .tail _ hx
end

noncomputable def AllOk : List (Bool × Bool) → Prop
  | [] => True
  | p :: r => p.1 = p.2 ∧ AllOk r
theorem allOk_append {a b : List (Bool × Bool)} : AllOk (a ++ b) ↔ AllOk a ∧ AllOk b := by
  induction a with
  | nil => simp [AllOk]
  | cons p r ih => simp only [List.cons_append, AllOk, ih, and_assoc]

inductive Stage where
  | fresh | fly | held
noncomputable def ExcAt (S : Sys) (tracked : List Addr) (L : Addr) (h : Heap) (C e : Addr) : Stage → Prop
  | .fresh => ∃ oe vs a0, h.get? e = some oe ∧ oe.cls = .ref C ∧ oe.data = .fields vs ∧ vs[0]? = some a0 ∧ vs[1]? = some .none ∧ S.B.get? e = none ∧ e ∉ tracked
  | .fly => ∃ oe vs a0 T oT ts, h.get? e = some oe ∧ oe.cls = .ref C ∧ oe.data = .fields vs ∧ vs[0]? = some a0 ∧ vs[1]? = some (.ref T) ∧ S.B.get? e = none ∧ e ∉ tracked ∧
      T ≠ e ∧ S.B.get? T = none ∧ T ∉ tracked ∧ h.get? T = some oT ∧ oT.data = .fields ts ∧ ts[3]? = some .none
  | .held => ∃ oe vs a0 T oT ts, h.get? e = some oe ∧ oe.cls = .ref C ∧ oe.data = .fields vs ∧ vs[0]? = some a0 ∧ vs[1]? = some (.ref T) ∧ S.B.get? e = none ∧ e ∉ tracked ∧
      T ≠ e ∧ S.B.get? T = none ∧ T ∉ tracked ∧ h.get? T = some oT ∧ oT.data = .fields ts ∧ ts[3]? = some (rawInt L)

structure Frm where
  env : Env
  L : Addr
  outer : List (Addr × Loc)
  envs : List Env

structure StnX (S : Sys) (ρ : RMap) (kp : List (Addr × Obj)) (Φ : Frm) (st : St) (C e : Addr) (s : Shared) : Prop where
  inv : Stn S ρ kp ((Φ.L, st.loc) :: Φ.outer) st.objs s
  exc : ∃ g, ExcAt S ((((Φ.L, st.loc) :: Φ.outer).map (·.1)) ++ (kp.map (·.1) ++ addrs ρ)) Φ.L s.heap C e g
noncomputable abbrev tracked (ρ : RMap) (kp : List (Addr × Obj)) (frs : List (Addr × Loc)) : List Addr := frs.map (·.1) ++ (kp.map (·.1) ++ addrs ρ)
structure StnG (S : Sys) (ρ : RMap) (kp : List (Addr × Obj)) (Φ : Frm) (st : St) (C e : Addr) (g : Stage) (s : Shared) : Prop where
  inv : Stn S ρ kp ((Φ.L, st.loc) :: Φ.outer) st.objs s
  exc : ExcAt S (tracked ρ kp ((Φ.L, st.loc) :: Φ.outer)) Φ.L s.heap C e g
theorem StnG.x {S ρ kp Φ st C e g s} (x : StnG S ρ kp Φ st C e g s) : StnX S ρ kp Φ st C e s := ⟨x.inv, g, x.exc⟩
theorem StnX.g {S ρ kp Φ st C e s} (x : StnX S ρ kp Φ st C e s) : ∃ g, StnG S ρ kp Φ st C e g s := let ⟨i, g, h⟩ := x; ⟨g, i, h⟩

noncomputable def EnvsAt : List Env → List (Addr × Loc) → Prop
  | [], [] => True
  | e :: es, f :: fs => e.scope.kind = .function ∧ e.frame = some f.1 ∧ e.locals = f.1 ∧ EnvsAt es fs
  | _, _ => False

structure AOk (Φ : Frm) (A : Around) (n : Nat) (hd : Bool) : Prop where
  frames : A.frames = some (Φ.env :: Φ.envs)
  depth : A.depth + 8 * n ≤ 900
  units : A.units + 24 * n ≤ 9000
  handled : hd = false → A.handled = none
  envs : EnvsAt (Φ.env :: Φ.envs) ((Φ.L, []) :: Φ.outer)

section
variable {α β : Type}
noncomputable def Wp (S : Sys) (kp : List (Addr × Obj)) (Φ : Frm) (R : RMap → α → β → Prop) (ρ : RMap) (o : Out α) (Q : β → Shared → Prop) (E : Value → Shared → Prop) : Prop := match o with
  | .ok a st ob => AllOk ob ∧ ∀ ρ' v s', ρ <+: ρ' → Stn S ρ' kp ((Φ.L, st.loc) :: Φ.outer) st.objs s' → R ρ' a v → Q v s'
  | .exc C st ob => AllOk ob ∧ ∀ ρ' e s', ρ <+: ρ' → StnX S ρ' kp Φ st C e s' → E (.ref e) s'
  | .bad _ => False

noncomputable def Snd (𝒞 : Ctx → Prop) (S : Sys) (Φ : Frm) (n : Nat) (hd : Bool) (ρ₀ : RMap) (m : EvM α) (t : Sem β) (R : RMap → α → β → Prop) : Prop :=
  ∀ (A : Around) (kp : List (Addr × Obj)) (ρ : RMap) (st : St) (s : Shared) (Q : β → Shared → Prop) (E : Value → Shared → Prop), ρ₀ <+: ρ → AOk Φ A n hd →
    Stn S ρ kp ((Φ.L, st.loc) :: Φ.outer) st.objs s → Wp S kp Φ R ρ (m st) Q E → wpC 𝒞 (model pw S.w) A t Q E s
end

structure AOkW (Φ : Frm) (A : Around) (n : Nat) : Prop where
  frames : A.frames = some (Φ.env :: Φ.envs)
  depth : A.depth + 8 * n ≤ 904
  units : A.units + 24 * n ≤ 9012
  handled : A.handled = none
  envs : EnvsAt (Φ.env :: Φ.envs) ((Φ.L, []) :: Φ.outer)
theorem AOk.w {Φ : Frm} {A : Around} {n : Nat} (h : AOk Φ A n false) : AOkW Φ A n := ⟨h.frames, by have := h.depth; omega, by have := h.units; omega, h.handled rfl, h.envs⟩
noncomputable def SndW {α β : Type} (𝒞 : Ctx → Prop) (S : Sys) (Φ : Frm) (n : Nat) (ρ₀ : RMap) (m : EvM α) (t : Sem β) (R : RMap → α → β → Prop) : Prop :=
  ∀ (A : Around) (kp : List (Addr × Obj)) (ρ : RMap) (st : St) (s : Shared) (Q : β → Shared → Prop) (E : Value → Shared → Prop), ρ₀ <+: ρ → AOkW Φ A n →
    Stn S ρ kp ((Φ.L, st.loc) :: Φ.outer) st.objs s → Wp S kp Φ R ρ (m st) Q E → wpC 𝒞 (model pw S.w) A t Q E s
theorem SndW.snd {α β : Type} {𝒞 : Ctx → Prop} {S : Sys} {Φ : Frm} {n : Nat} {ρ₀ : RMap} {m : EvM α} {t : Sem β} {R : RMap → α → β → Prop} (h : SndW 𝒞 S Φ n ρ₀ m t R) : Snd 𝒞 S Φ n false ρ₀ m t R :=
  fun A kp ρ st s Q E p hA I W => h A kp ρ st s Q E p hA.w I W

theorem Wp.pre {α β : Type} {S kp Φ ρ ρ'} {R : RMap → α → β → Prop} {o : Out α} {ob Q E} (h : Wp S kp Φ R ρ (o.pre ob) Q E) (hp : ρ <+: ρ') : Wp S kp Φ R ρ' o Q E := by
  cases o with
  | ok a st o' => exact ⟨(allOk_append.mp h.1).2, fun ρ'' v s' p => h.2 ρ'' v s' (hp.trans p)⟩
  | exc C st o' => exact ⟨(allOk_append.mp h.1).2, fun ρ'' v s' p => h.2 ρ'' v s' (hp.trans p)⟩
  | bad w => exact h
theorem Wp.preOk {α β : Type} {S kp Φ ρ} {R : RMap → α → β → Prop} {o : Out α} {ob Q E} (h : Wp S kp Φ R ρ (o.pre ob) Q E) : AllOk ob := by
  cases o with
  | ok a st o' => exact (allOk_append.mp h.1).1
  | exc C st o' => exact (allOk_append.mp h.1).1
  | bad w => exact h.elim

section
variable {α β γ δ : Type} {𝒞 : Ctx → Prop} {S : Sys} {Φ : Frm} {n : Nat} {hd : Bool} {ρ₀ : RMap}
theorem Snd.mono {m : EvM α} {t : Sem β} {R : RMap → α → β → Prop} (h : Snd 𝒞 S Φ n hd ρ₀ m t R) {ρ₁ : RMap} (p : ρ₀ <+: ρ₁) : Snd 𝒞 S Φ n hd ρ₁ m t R :=
  fun A kp ρ st s Q E p' => h A kp ρ st s Q E (p.trans p')
theorem Snd.bind {m : EvM α} {t : Sem β} {R : RMap → α → β → Prop} {f : α → EvM γ} {g : β → Sem δ} {R' : RMap → γ → δ → Prop}
    (h : Snd 𝒞 S Φ n hd ρ₀ m t R) (k : ∀ ρ₁ a v, ρ₀ <+: ρ₁ → R ρ₁ a v → Snd 𝒞 S Φ n hd ρ₁ (f a) (g v) R') : Snd 𝒞 S Φ n hd ρ₀ (m >>= f) (t >>= g) R' := by
  intro A kp ρ st s Q E p hA I W
  refine wpC_bind (h A kp ρ st s _ E p hA I ?_)
  have e : (m >>= f) st = EvM.bind m f st := rfl
  rw [e] at W
  unfold EvM.bind at W
  cases q : m st with
  | ok a st' ob =>
    rw [q] at W
    exact ⟨W.preOk, fun ρ' v s' p' I' r => k ρ' a v (p.trans p') r A kp ρ' st' s' Q E (List.prefix_refl _) hA I' (W.pre p')⟩
  | exc C st' ob => rw [q] at W; exact W
  | bad w => rw [q] at W; exact W.elim
theorem Snd.pure {a : α} {v : β} {R : RMap → α → β → Prop} (h : ∀ ρ, ρ₀ <+: ρ → R ρ a v) : Snd 𝒞 S Φ n hd ρ₀ (pure a) (pure v) R := by
  intro A kp ρ st s Q E p hA I W
  exact wpC_pure (W.2 ρ v s (List.prefix_refl _) I (h ρ p))
theorem Snd.standAt {pos : Pos} {m : EvM α} {t : Unit → Sem β} {R : RMap → α → β → Prop} (h : Snd 𝒞 S Φ n hd ρ₀ m (t ()) R) : Snd 𝒞 S Φ n hd ρ₀ m (PySem.standAt pos >>= t) R :=
  fun A kp ρ st s Q E p hA I W => wpC_bind (wpC_of (wpAny_standAt (h A kp ρ st s Q E p hA I W)))
theorem Snd.rule {tag : String} {m : EvM α} {t : Unit → Sem β} {R : RMap → α → β → Prop} (h : Snd 𝒞 S Φ n hd ρ₀ m (t ()) R) : Snd 𝒞 S Φ n hd ρ₀ m (PySem.rule tag >>= t) R :=
  fun A kp ρ st s Q E p hA I W => wpC_bind (wpC_of (wpAny_rule (h A kp ρ st s Q E p hA I W)))
theorem Snd.point {m : EvM α} {t : Unit → Sem β} {R : RMap → α → β → Prop} (h : Snd 𝒞 S Φ n hd ρ₀ m (t ()) R) : Snd 𝒞 S Φ n hd ρ₀ m (PySem.point >>= t) R :=
  fun A kp ρ st s Q E p hA I W => wpC_bind (wpC_of (wpAny_point (h A kp ρ st s Q E p hA I W)))
theorem Snd.holding {vs : List Value} {m : EvM α} {t : Sem β} {R : RMap → α → β → Prop} (h : Snd 𝒞 S Φ n hd ρ₀ m t R) : Snd 𝒞 S Φ n hd ρ₀ m (holding vs t) R :=
  fun A kp ρ st s Q E p hA I W => wpC_holding (h A kp ρ st s Q E p hA I W)
theorem Snd.operate {vs : List Value} {m : EvM α} {t : Sem Value} {R : RMap → α → Value → Prop} (h : Snd 𝒞 S Φ n hd ρ₀ m t R) : Snd 𝒞 S Φ n hd ρ₀ m (operate vs t) R :=
  fun A kp ρ st s Q E p hA I W => wpC_operate (h A kp ρ st s Q E p hA I W)
theorem Snd.stop {w : String} {t : Sem β} {R : RMap → α → β → Prop} : Snd 𝒞 S Φ n hd ρ₀ (stop w) t R := fun _ _ _ _ _ _ _ _ _ _ W => W.elim
theorem Snd.weaken {m : EvM α} {t : Sem β} {R R' : RMap → α → β → Prop} (h : Snd 𝒞 S Φ n hd ρ₀ m t R) (k : ∀ ρ a v, R ρ a v → R' ρ a v) : Snd 𝒞 S Φ n hd ρ₀ m t R' := by
  intro A kp ρ st s Q E p hA I W
  refine h A kp ρ st s Q E p hA I ?_
  cases q : m st with
  | ok a st' ob => rw [q] at W; exact ⟨W.1, fun ρ' v s' p' I' r => W.2 ρ' v s' p' I' (k _ _ _ r)⟩
  | exc C st' ob => rw [q] at W; exact W
  | bad w => rw [q] at W; exact W.elim
theorem Snd.fuel {m : EvM α} {t : Sem β} {R : RMap → α → β → Prop} {n' : Nat} (h : Snd 𝒞 S Φ n hd ρ₀ m t R) (le : n ≤ n') : Snd 𝒞 S Φ n' hd ρ₀ m t R :=
  fun A kp ρ st s Q E p hA I W => h A kp ρ st s Q E p ⟨hA.frames, by have := hA.depth; omega, by have := hA.units; omega, hA.handled, hA.envs⟩ I W

theorem Snd.dec {b : Bool} {f : Bool → EvM α} {t : Sem β} {R : RMap → α → β → Prop} (h : Snd 𝒞 S Φ n hd ρ₀ (f b) t R) : Snd 𝒞 S Φ n hd ρ₀ (dec b >>= f) t R := by
  intro A kp ρ st s Q E p hA I W
  have e : (Mine.dec b >>= f) st = EvM.bind (Mine.dec b) f st := rfl
  rw [e] at W
  unfold EvM.bind Mine.dec at W
  cases q : st.orc with
  | nil => simp only [q] at W; exact W.elim
  | cons x r =>
    cases x with
    | none =>
      simp only [q] at W
      cases b with
      | true => exact h A kp ρ { st with orc := r } s Q E p hA I (W.pre (List.prefix_refl _))
      | false => exact h A kp ρ { st with orc := r } s Q E p hA I (W.pre (List.prefix_refl _))
    | some c =>
      simp only [q] at W
      have hb : b = c := by have := W.preOk; exact this.1
      subst hb
      exact h A kp ρ { st with orc := r } s Q E p hA I (W.pre (List.prefix_refl _))
theorem Snd.need {b : Bool} {why : String} {f : Unit → EvM α} {t : Sem β} {R : RMap → α → β → Prop} (h : b = true → Snd 𝒞 S Φ n hd ρ₀ (f ()) t R) : Snd 𝒞 S Φ n hd ρ₀ (need b why >>= f) t R := by
  have e : (Mine.need b why >>= f) = (Mine.dec b >>= fun c => match c with | true => f () | false => Mine.stop why) := by
    funext st
    show EvM.bind (EvM.bind (Mine.dec b) _) f st = EvM.bind (Mine.dec b) _ st
    unfold EvM.bind
    cases Mine.dec b st with
    | ok c st' ob =>
      cases c with
      | true =>
        show (match (Out.pre ob (Out.ok () st' [])) with | .ok a st' o => (f a st').pre o | .exc C st' o => .exc C st' o | .bad w => .bad w) = _
        simp [Out.pre]
      | false => rfl
    | exc C st' ob => rfl
    | bad w => rfl
  rw [e]
  refine Snd.dec ?_
  cases hb : b with
  | true => exact h hb
  | false => exact Snd.stop
end
end Mine
end

section
set_option maxRecDepth 100000
set_option linter.unusedVariables false
open PySem PySem.W PySem.Calls PyProof.Rows
namespace Mine

noncomputable def Leaf {β : Type} (S : Sys) (hd : Bool) (t : Sem β) (P : β → Prop) : Prop :=
  ∀ (A : Around) (s : Shared) (Q : β → Shared → Prop) (E : Value → Shared → Prop), (hd = false → A.handled = none) → A.depth ≤ 900 → A.units ≤ 9000 →
    (∀ v k, P v → Q v { s with toks := k }) → wpAny (model pw S.w) A t Q E s
theorem Snd.leaf {α β : Type} {𝒞 : Ctx → Prop} {S : Sys} {Φ : Frm} {n : Nat} {hd : Bool} {ρ₀ : RMap} {a : α} {t : Sem β} {P : β → Prop} {R : RMap → α → β → Prop} (L : Leaf S hd t P) (h : ∀ ρ v, ρ₀ <+: ρ → P v → R ρ a v) :
    Snd 𝒞 S Φ n hd ρ₀ (Pure.pure a) t R := by
  intro A kp ρ st s Q E p hA I W
  exact wpC_of <| L A s Q E hA.handled (by have := hA.depth; omega) (by have := hA.units; omega) fun v k hv => W.2 ρ v _ (List.prefix_refl _) (I.toks k) (h ρ v p hv)

noncomputable abbrev IsInt (i : Int) : Value → Prop := fun v => ∃ t, v = .int i t
noncomputable abbrev IsStr (x : Str) : Value → Prop := fun v => ∃ t, v = .str x t
noncomputable abbrev IsBytes (b : List UInt8) : Value → Prop := fun v => ∃ t, v = .bytes b.toArray t

section
variable {S : Sys} {hd : Bool} {a b : Int} {t u : Tok} {x y : Str} {l r : List UInt8}
theorem leaf_add : Leaf S hd (binaryOp .Add (.int a t) (.int b u)) (IsInt (a + b)) := fun _ s _ _ _ _ _ h => add_int (h _ _ ⟨_, rfl⟩)
theorem leaf_sub : Leaf S hd (binaryOp .Sub (.int a t) (.int b u)) (IsInt (a - b)) := fun _ s _ _ _ _ _ h => sub_int (h _ _ ⟨_, rfl⟩)
theorem leaf_mul (h1 : -18446744073709551616 < b) (h2 : b < 18446744073709551616) : Leaf S hd (binaryOp .Mult (.int a t) (.int b u)) (IsInt (a * b)) :=
  fun _ s _ _ _ _ _ h => PyProof.Rows.mul_int (h _ _ ⟨_, rfl⟩) (IntMulOk.of_right (intBits_le_64 h1 h2))
theorem leaf_mod (h0 : b ≠ 0) : Leaf S hd (binaryOp .Mod (.int a t) (.int b u)) (IsInt (a.fmod b)) := fun _ s _ _ _ _ _ h => mod_int' h0 (h _ _ ⟨_, rfl⟩)
theorem small_div (h1 : b.natAbs < 2 ^ 64) : Builtin.divisionGoesByPylong a b = false := by
  unfold Builtin.divisionGoesByPylong
  simp only [Bool.and_eq_false_iff, decide_eq_false_iff_not]
  left
  split
  · omega
  · rename_i hb
    have : b.natAbs.log2 < 64 := by
      refine (Nat.log2_lt ?_).mpr h1
      intro q
      apply hb
      have : b = 0 := by omega
      simp [this]
    omega
theorem leaf_div (h0 : b ≠ 0) (h1 : b.natAbs < 2 ^ 64) : Leaf S hd (binaryOp .FloorDiv (.int a t) (.int b u)) (IsInt (a.fdiv b)) :=
  fun _ s _ _ _ _ _ h => floordiv_int h0 (h _ _ ⟨_, rfl⟩) (.inl (small_div h1))
theorem leaf_adds (hs : x.cps.toList.length + y.cps.toList.length ≤ line) : Leaf S hd (binaryOp .Add (.str x t) (.str y u)) (IsStr ⟨⟨x.cps.toList ++ y.cps.toList⟩⟩) :=
  fun _ s _ _ _ _ _ h => PyProof.Rows.add_str (fun t' k => h _ k ⟨t', by
    congr 1
    cases x; cases y
    show Str.append _ _ = _
    simp [Str.append]⟩) (by simpa [Str.length, line, sizeLine] using hs)
theorem leaf_addb (hs : l.length + r.length ≤ line) : Leaf S hd (binaryOp .Add (.bytes l.toArray t) (.bytes r.toArray u)) (IsBytes (l ++ r)) :=
  fun _ s _ _ _ _ _ h => PySem.W.bytes_add_K (by simpa [line] using hs) rfl fun t' k => h _ k ⟨t', rfl⟩
theorem leaf_mulb (hb : l.length = 1) (h0 : 0 ≤ a) (h1 : a ≤ 1048576) : Leaf S hd (binaryOp .Mult (.bytes l.toArray t) (.int a u)) (IsBytes (List.replicate a.toNat l).flatten) :=
  fun _ s _ _ _ _ _ h => PySem.W.bytes_mul_any (by intro q; rw [q] at hb; cases hb) (by omega) h1 (by omega) fun t' k => h _ k ⟨t', rfl⟩
theorem leaf_iadd : Leaf S hd (inplaceOp .Add (.int a t) (.int b u)) (IsInt (a + b)) := fun _ s _ _ _ _ _ h => PySem.P.iadd_int (h _ _ ⟨_, rfl⟩)
theorem leaf_isub : Leaf S hd (inplaceOp .Sub (.int a t) (.int b u)) (IsInt (a - b)) := fun _ s _ _ _ _ _ h => PySem.P.isub_int (h _ _ ⟨_, rfl⟩)
theorem leaf_imul (h1 : -18446744073709551616 < b) (h2 : b < 18446744073709551616) : Leaf S hd (inplaceOp .Mult (.int a t) (.int b u)) (IsInt (a * b)) :=
  fun _ s _ _ _ _ _ h => PySem.P.imul_int (h _ _ ⟨_, rfl⟩) (IntMulOk.of_right (intBits_le_64 h1 h2))
theorem leaf_iadds (hs : x.cps.toList.length + y.cps.toList.length ≤ line) : Leaf S hd (inplaceOp .Add (.str x t) (.str y u)) (IsStr ⟨⟨x.cps.toList ++ y.cps.toList⟩⟩) :=
  fun _ s _ _ _ _ _ h => PyProof.Rows.SBL.iadd (fun t' k _ => h _ k ⟨t', by
    congr 1
    cases x; cases y
    show Str.append _ _ = _
    simp [Str.append]⟩) (by simpa [Str.length, line, sizeLine] using hs)
end

theorem natsEq_iff : ∀ {a b : List Nat}, natsEq a b = true ↔ a = b
  | [], [] => by simp [natsEq]
  | [], _ :: _ => by simp [natsEq]
  | _ :: _, [] => by simp [natsEq]
  | a :: x, b :: y => by
    unfold natsEq
    cases h : Nat.beq a b with
    | true => have := Nat.eq_of_beq_eq_true h; subst this; simp [natsEq_iff]
    | false => have := Nat.ne_of_beq_eq_false h; simp [this]
theorem strEq_iff {a b : Str} : strEq a b = true ↔ a = b := by
  unfold strEq
  rw [natsEq_iff]
  cases a; cases b
  simp
theorem strEq_beq {a b : Str} : (a == b) = strEq a b := by
  cases h : strEq a b with
  | true => have := strEq_iff.mp h; subst this; simp
  | false =>
    have : a ≠ b := fun q => by rw [strEq_iff.mpr q] at h; cases h
    simpa using this
theorem u8sEq_iff : ∀ {a b : List UInt8}, u8sEq a b = true ↔ a = b
  | [], [] => by simp [u8sEq]
  | [], _ :: _ => by simp [u8sEq]
  | _ :: _, [] => by simp [u8sEq]
  | a :: x, b :: y => by
    unfold u8sEq
    cases h : Nat.beq a.toNat b.toNat with
    | true => have := UInt8.toNat_inj.mp (Nat.eq_of_beq_eq_true h); subst this; simp [u8sEq_iff]
    | false =>
      have : a ≠ b := fun q => Nat.ne_of_beq_eq_false h (by rw [q])
      simp [this]
theorem u8sEq_beq {a b : List UInt8} : (a == b) = u8sEq a b := by
  cases h : u8sEq a b with
  | true => have := u8sEq_iff.mp h; subst this; simp
  | false =>
    have : a ≠ b := fun q => by rw [u8sEq_iff.mpr q] at h; cases h
    simpa using this
theorem lookS_mem {α : Type} {x : Str} {v : α} : ∀ {l : List (Str × α)}, lookS x l = some v → (x, v) ∈ l
  | [], h => by cases h
  | (y, u) :: r, h => by
    unfold lookS at h
    cases q : strEq x y with
    | true => rw [q] at h; cases h; rw [strEq_iff.mp q]; exact .head _
    | false => rw [q] at h; exact .tail _ (lookS_mem h)
theorem lookS_put {α : Type} {x y : Str} {v : α} : ∀ {l : List (Str × α)}, lookS y (putS x v l) = if y = x then some v else lookS y l
  | [] => by
    unfold putS lookS
    by_cases h : y = x
    · rw [strEq_iff.mpr h, if_pos h]
    · have : strEq y x = false := by cases q : strEq y x with | true => exact absurd (strEq_iff.mp q) h | false => rfl
      simp only [this, if_neg h]
      rfl
  | (z, u) :: r => by
    unfold putS
    cases q : strEq x z with
    | true =>
      have := strEq_iff.mp q; subst this
      unfold lookS
      by_cases h : y = x
      · rw [strEq_iff.mpr h, if_pos h]
      · have : strEq y x = false := by cases q : strEq y x with | true => exact absurd (strEq_iff.mp q) h | false => rfl
        simp only [this, if_neg h]
    | false =>
      show lookS y ((z, u) :: putS x v r) = _
      unfold lookS
      cases p : strEq y z with
      | true =>
        have := strEq_iff.mp p; subst this
        have h : y ≠ x := fun e => by rw [e, strEq_iff.mpr rfl] at q; cases q
        rw [if_neg h]
      | false => exact lookS_put

section
variable {S : Sys} {hd : Bool} {a b : Int} {t u : Tok} {x y : Str} {l r : List UInt8} {c d : Bool} {v : Value}
noncomputable abbrev IsBool (b : Bool) : Value → Prop := fun v => v = .bool b
theorem leaf_eqi : Leaf S hd (compareOp .Eq (.int a t) (.int b u)) (IsBool (decide (a = b))) := fun _ s _ _ _ _ _ h => eq_int (h _ s.toks (by show _ = _; congr 1))
theorem leaf_nei : Leaf S hd (compareOp .NotEq (.int a t) (.int b u)) (IsBool (!decide (a = b))) := fun _ s _ _ _ _ _ h => PyProof.Rows.ne_int (h _ s.toks (by show _ = _; congr 1))
theorem leaf_lti : Leaf S hd (compareOp .Lt (.int a t) (.int b u)) (IsBool (decide (a < b))) := fun _ s _ _ _ _ _ h => lt_int (h _ s.toks rfl)
theorem leaf_lei : Leaf S hd (compareOp .LtE (.int a t) (.int b u)) (IsBool (decide (a ≤ b))) := fun _ s _ _ _ _ _ h => PyProof.Rows.le_int (h _ s.toks rfl)
theorem leaf_gti : Leaf S hd (compareOp .Gt (.int a t) (.int b u)) (IsBool (decide (b < a))) := fun _ s _ _ _ _ _ h => gt_int (h _ s.toks rfl)
theorem leaf_gei : Leaf S hd (compareOp .GtE (.int a t) (.int b u)) (IsBool (decide (b ≤ a))) := fun _ s _ _ _ _ _ h => PyProof.Rows.ge_int (h _ s.toks rfl)
theorem leaf_eqs : Leaf S hd (compareOp .Eq (.str x t) (.str y u)) (IsBool (strEq x y)) := fun _ s _ _ _ _ _ h => PyProof.Rows.eq_str (h _ s.toks (by rw [strEq_beq]))
theorem leaf_nes : Leaf S hd (compareOp .NotEq (.str x t) (.str y u)) (IsBool (!strEq x y)) := fun _ s _ _ _ _ _ h => PyProof.Rows.ne_str (h _ s.toks (by show Value.bool (!(x == y)) = _; rw [strEq_beq]))
theorem leaf_eqb : Leaf S hd (compareOp .Eq (.bytes l.toArray t) (.bytes r.toArray u)) (IsBool (u8sEq l r)) := fun _ s _ _ _ _ _ h => eq_bytes (h _ s.toks (by rw [u8sEq_beq]))
theorem leaf_neb : Leaf S hd (compareOp .NotEq (.bytes l.toArray t) (.bytes r.toArray u)) (IsBool (!u8sEq l r)) := fun _ s _ _ _ _ _ h => ne_bytes (h _ s.toks (by show Value.bool (!(l == r)) = _; rw [u8sEq_beq]))
theorem leaf_eqo : Leaf S hd (compareOp .Eq (.bool c) (.bool d)) (IsBool (match c with | true => d | false => !d)) := fun _ s _ _ _ _ _ h => eq_bool (h _ s.toks (by cases c <;> cases d <;> rfl))
theorem leaf_neo : Leaf S hd (compareOp .NotEq (.bool c) (.bool d)) (IsBool (!(match c with | true => d | false => !d))) := fun _ s _ _ _ _ _ h => ne_bool (h _ s.toks (by cases c <;> cases d <;> rfl))
theorem leaf_is (hv : v ≠ .none) : Leaf S hd (compareOp .Is v .none) (IsBool false) := fun _ s _ _ _ _ _ h => is_none_ne hv (h _ s.toks rfl)
theorem leaf_isn (hv : v ≠ .none) : Leaf S hd (compareOp .IsNot v .none) (IsBool true) := fun _ s _ _ _ _ _ h => isnot_none_ne hv (h _ s.toks rfl)
theorem leaf_is0 : Leaf S hd (compareOp .Is .none .none) (IsBool true) := fun _ s _ _ _ _ _ h => wpAny_is_self rfl (h _ s.toks rfl)
theorem leaf_isn0 : Leaf S hd (compareOp .IsNot .none .none) (IsBool false) := fun _ s _ _ _ _ _ h => wpAny_isNot_self rfl (h _ s.toks rfl)
theorem leaf_tri : Leaf S hd (truthy (.int a t)) (fun z => z = !decide (a = 0)) := fun _ s _ _ _ _ _ h => PyProof.Rows.truthy_int (h _ s.toks (by show (!(a == 0)) = _; congr 1))
theorem leaf_tro : Leaf S hd (truthy (.bool c)) (fun z => z = c) := fun _ s _ _ _ _ _ h => wpAny_truthy_bool (h _ s.toks rfl)
theorem leaf_trn : Leaf S hd (truthy .none) (fun z => z = false) := fun _ s _ _ _ _ _ h => fun _ _ _ => h _ s.toks rfl
theorem leaf_trs (hs : x.cps.toList.length ≤ line) : Leaf S hd (truthy (.str x t)) (fun z => z = !x.cps.toList.isEmpty) := fun _ s _ _ _ _ _ h =>
  PySem.P.truthy_str (by have : x.length = x.cps.toList.length := by simp [Str.length]
                         rw [this]; unfold line at hs; omega) (h _ _ (by
    have : x.length = x.cps.toList.length := by simp [Str.length]
    rw [this]
    cases x.cps.toList with
    | nil => rfl
    | cons a r => simp; omega))
theorem leaf_trb (hs : l.length ≤ line) : Leaf S hd (truthy (.bytes l.toArray t)) (fun z => z = !l.isEmpty) := fun _ s _ _ _ _ _ h =>
  truthy_bytes (by simp; unfold line at hs; omega) (h _ _ (by cases l with
    | nil => rfl
    | cons a r => simp; omega))
theorem leaf_lens (hs : x.cps.toList.length ≤ line) : Leaf S hd (call (.builtin "len") [.str x t]) (IsInt x.cps.toList.length) := fun _ s _ _ _ _ _ h =>
  PyProof.Rows.len_str (by have : x.length = x.cps.toList.length := by simp [Str.length]
                           rw [this]; unfold line at hs; omega) (h _ _ ⟨_, by congr 2⟩)
theorem leaf_lenb (hs : l.length ≤ line) : Leaf S hd (call (.builtin "len") [.bytes l.toArray t]) (IsInt l.length) := fun _ s _ _ _ _ _ h =>
  len_bytes (by simp; unfold line at hs; omega) (h _ _ ⟨_, rfl⟩)
theorem leaf_chr (h0 : 0 ≤ a) (h1 : a ≤ 1114111) : Leaf S hd (call (.builtin "chr") [.int a t]) (IsStr ⟨⟨[a.toNat]⟩⟩) := fun _ s _ _ _ _ _ h => chr_of_range h0 h1 (h _ _ ⟨_, rfl⟩)
end
end Mine
end

section
set_option maxRecDepth 100000
set_option linter.unusedVariables false
open PySem PySem.W PySem.Calls PyProof.Rows
namespace Mine
theorem inU8s_any (c : UInt8) (b : List UInt8) : inU8s c b = b.any (fun x => x == c) := by
  induction b with
  | nil => rfl
  | cons x r ih =>
    rw [List.any_cons, ← ih]
    show (match Nat.beq c.toNat x.toNat with | true => true | false => inU8s c r) = _
    cases h : Nat.beq c.toNat x.toNat with
    | true => have := UInt8.toNat_inj.mp (Nat.eq_of_beq_eq_true h); subst this; simp
    | false =>
      have : x ≠ c := fun e => Nat.ne_of_beq_eq_false h (by rw [e])
      have : (x == c) = false := by simpa using this
      rw [this, Bool.false_or]
theorem one_at (b : List UInt8) (c : UInt8) (j : Nat) : (b.toArray.extract j (j + [c].toArray.size) == [c].toArray) = (b[j]? == some c) := by
  rw [Bool.eq_iff_iff]
  simp only [beq_iff_eq]
  rw [← Array.toList_inj]
  simp [List.extract, List.take_one, List.head?_drop]
theorem find_one (b : List UInt8) (c : UInt8) : (Builtin.Bytes.find? b.toArray [c].toArray 0 b.toArray.size).isSome = inU8s c b := by
  rw [inU8s_any]
  unfold Builtin.Bytes.find?
  rw [Bool.eq_iff_iff]
  simp only [List.find?_isSome, List.any_eq_true, List.mem_map, List.mem_range]
  constructor
  · rintro ⟨i, ⟨j, hj, rfl⟩, h⟩
    rw [one_at] at h
    simp only [beq_iff_eq, Nat.add_zero] at h
    exact ⟨c, List.mem_of_getElem? h, by simp⟩
  · rintro ⟨x, hx, hxc⟩
    obtain ⟨j, hj, rfl⟩ := List.getElem_of_mem hx
    refine ⟨j, ⟨j, by simp; omega, by simp⟩, ?_⟩
    rw [one_at]
    simp at hxc ⊢
    simp [hj, hxc]
theorem asIndex_bytes {M : Model} {A : Around} {s : Shared} {b : Array UInt8} {t : Tok} {Q : Int → Shared → Prop} {E : Value → Shared → Prop} (hh : A.handled = none)
    (h : ∀ h' tk e, (∀ b o, s.heap.get? b = some o → h'.get? b = some o) → E (.ref e) { s with heap := h', toks := tk }) : wpAny M A (asIndex (.bytes b t)) Q E s := by
  unfold asIndex
  refine wpAny_bind (wpAny_of_eq (a := none) rfl ?_)
  have e1 : callSpecial? (.bytes b t) "__index__" = pure none := by
    unfold callSpecial?
    rw [KBy.special_eq (name := "__index__") (r := none) (by rw [typeLookup_type, builtinLookup_eq_fast]; kernel_rfl)]
    rfl
  dsimp only
  refine wpAny_bind (wpAny_of_eq e1 ?_)
  dsimp only
  refine wpAny_bind (wpAny_of_eq (a := "bytes") (by kernel_rfl) ?_)
  exact wpAny_raiseErrorMade plainExc_TypeError hh (fun h' tk e hn => h h' tk e hn.keeps) (by decide +kernel)
section
variable {prog : Program} {w : World} {A : Around} {E : Value → Shared → Prop} {s : Shared} {b : List UInt8} {c : UInt8} {t u : Tok}
theorem in_bytes {Q : Value → Shared → Prop} (hh : A.handled = none)
    (h : ∀ h' tk, (∀ b o, s.heap.get? b = some o → h'.get? b = some o) → Q (.bool (inU8s c b)) { s with heap := h', toks := tk }) :
    wpAny (model prog w) A (compareOp .In (.bytes [c].toArray t) (.bytes b.toArray u)) Q E s := by
  show wpAny _ _ (do return .bool (← contains (.bytes b.toArray u) (.bytes [c].toArray t))) Q E s
  refine wpAny_bind ?_
  unfold contains
  refine wpAny_holding ?_
  refine wpAny_bind (wpAny_specialOf (typeIs_bytes _ _ _) FB.slot_bytes_contains.lookup ?_)
  rw [if_neg (by decide)]
  refine wpAny_bind (wpAny_callSpecialUnlessNone?_slot (name := Str.ofString "__contains__") (typeIs_bytes _ _ _) FB.slot_bytes_contains
    (wpAny_call_entry FB.slot_bytes_contains (typeIs_bytes _ _ _) FB.entry_bytes_contains ?_ (FB.args_bytes_contains_2 _ _)))
  show wpAny _ _ (Builtin.Bytes.containsIn "bytes.__contains__" (.bytes b.toArray u) (.bytes [c].toArray t) >>= fun r => ret (.bool r)) _ _ s
  refine wpAny_bind ?_
  unfold Builtin.Bytes.containsIn
  refine wpAny_bind (wpAny_attempt (asIndex_bytes hh fun h' tk e hk => ?_))
  refine wpAny_bind (wpAny_of_eq KBy.buffer_eq ?_)
  dsimp only
  refine wpAny_bind (wpAny_of_eq KBy.buffer_eq ?_)
  dsimp only
  refine wpAny_bind (wpAny_rule (wpAny_pure ?_))
  refine wpAny_pure ⟨_, rfl, ?_⟩
  rw [find_one]
  exact wpAny_truthy_bool (wpAny_pure (h h' tk hk))
end
end Mine
end

section
set_option maxRecDepth 100000
set_option linter.unusedVariables false
open PySem PySem.W PySem.Calls PyProof.Rows
namespace Mine
namespace FBm
theorem slot_lower : Slot "bytes" "lower" "bytes.lower" :=
  .of (owner := "bytes") (n := "lower") (by rw [typeLookup_type, builtinLookup_eq_fast]; kernel_rfl) (by decide +kernel) (by decide +kernel) (by decide +kernel)
    (by first | exact .inl (by decide +kernel) | exact .inr (by decide +kernel)) (by rw [isSubtype_type]; kernel_rfl)
theorem type_lower : typeOf (.builtin "bytes.lower") = pure (.type "method_descriptor") := by show builtinType _ = _; rw [builtinType_eq_fast]; kernel_rfl
theorem entry_lower : entryFor table "bytes.lower" = some Builtin.«bytes.lower» := entryFor_of_tree (by kernel_rfl)
theorem args_lower (a : Value) : argsOk "bytes.lower" ⟨[a], []⟩ := by unfold argsOk; kernel_rfl
theorem slot_split : Slot "bytes" "split" "bytes.split" :=
  .of (owner := "bytes") (n := "split") (by rw [typeLookup_type, builtinLookup_eq_fast]; kernel_rfl) (by decide +kernel) (by decide +kernel) (by decide +kernel)
    (by first | exact .inl (by decide +kernel) | exact .inr (by decide +kernel)) (by rw [isSubtype_type]; kernel_rfl)
theorem type_split : typeOf (.builtin "bytes.split") = pure (.type "method_descriptor") := by show builtinType _ = _; rw [builtinType_eq_fast]; kernel_rfl
theorem entry_split : entryFor table "bytes.split" = some Builtin.«bytes.split» := entryFor_of_tree (by kernel_rfl)
theorem args_split (a b : Value) : argsOk "bytes.split" ⟨[a, b], []⟩ := by unfold argsOk; kernel_rfl
theorem slot_find : Slot "bytes" "find" "bytes.find" :=
  .of (owner := "bytes") (n := "find") (by rw [typeLookup_type, builtinLookup_eq_fast]; kernel_rfl) (by decide +kernel) (by decide +kernel) (by decide +kernel)
    (by first | exact .inl (by decide +kernel) | exact .inr (by decide +kernel)) (by rw [isSubtype_type]; kernel_rfl)
theorem type_find : typeOf (.builtin "bytes.find") = pure (.type "method_descriptor") := by show builtinType _ = _; rw [builtinType_eq_fast]; kernel_rfl
theorem entry_find : entryFor table "bytes.find" = some Builtin.«bytes.find» := entryFor_of_tree (by kernel_rfl)
theorem args_find (a b : Value) : argsOk "bytes.find" ⟨[a, b], []⟩ := by unfold argsOk; kernel_rfl
theorem slot_rfind : Slot "bytes" "rfind" "bytes.rfind" :=
  .of (owner := "bytes") (n := "rfind") (by rw [typeLookup_type, builtinLookup_eq_fast]; kernel_rfl) (by decide +kernel) (by decide +kernel) (by decide +kernel)
    (by first | exact .inl (by decide +kernel) | exact .inr (by decide +kernel)) (by rw [isSubtype_type]; kernel_rfl)
theorem type_rfind : typeOf (.builtin "bytes.rfind") = pure (.type "method_descriptor") := by show builtinType _ = _; rw [builtinType_eq_fast]; kernel_rfl
theorem entry_rfind : entryFor table "bytes.rfind" = some Builtin.«bytes.rfind» := entryFor_of_tree (by kernel_rfl)
theorem args_rfind (a b : Value) : argsOk "bytes.rfind" ⟨[a, b], []⟩ := by unfold argsOk; kernel_rfl
theorem slot_join : Slot "bytes" "join" "bytes.join" :=
  .of (owner := "bytes") (n := "join") (by rw [typeLookup_type, builtinLookup_eq_fast]; kernel_rfl) (by decide +kernel) (by decide +kernel) (by decide +kernel)
    (by first | exact .inl (by decide +kernel) | exact .inr (by decide +kernel)) (by rw [isSubtype_type]; kernel_rfl)
theorem type_join : typeOf (.builtin "bytes.join") = pure (.type "method_descriptor") := by show builtinType _ = _; rw [builtinType_eq_fast]; kernel_rfl
theorem entry_join : entryFor table "bytes.join" = some Builtin.«bytes.join» := entryFor_of_tree (by kernel_rfl)
theorem args_join (a b : Value) : argsOk "bytes.join" ⟨[a, b], []⟩ := by unfold argsOk; kernel_rfl
end FBm
theorem u8_le (a b : UInt8) : (a ≤ b) ↔ a.toNat ≤ b.toNat := UInt8.le_iff_toNat_le
theorem lower_eq (b : List UInt8) : b.map Builtin.Bytes.toLower = lowerB b := by
  unfold lowerB
  refine List.map_congr_left fun c _ => ?_
  unfold Builtin.Bytes.toLower Builtin.Bytes.isUpper
  have e1 : (65 ≤ c) ↔ 65 ≤ c.toNat := by rw [u8_le]; rfl
  have e2 : (c ≤ 90) ↔ c.toNat ≤ 90 := by rw [u8_le]; rfl
  have e : (decide (65 ≤ c) && decide (c ≤ 90)) = (decide (65 ≤ c.toNat) && decide (c.toNat ≤ 90)) := by
    rw [decide_eq_decide.mpr e1, decide_eq_decide.mpr e2]
  rw [e]
  by_cases h : (decide (65 ≤ c.toNat) && decide (c.toNat ≤ 90)) = true
  · rw [if_pos h, if_pos h]
    apply UInt8.toNat_inj.mp
    simp at h
    rw [UInt8.toNat_add, UInt8.toNat_ofNat']
    rfl
  · rw [if_neg h, if_neg h]
noncomputable def rfindL (c : UInt8) : List UInt8 → Nat → Int → Int
  | [], _, found => found
  | x :: r, k, found => match Nat.beq x.toNat c.toNat with
    | true => rfindL c r (k + 1) k
    | false => rfindL c r (k + 1) found
theorem find_scan (c : UInt8) : ∀ (b pre : List UInt8), findB c b pre.length = match (List.range' pre.length b.length).find? (fun i => (pre ++ b)[i]? == some c) with | some i => (i : Int) | none => -1
  | [], pre => rfl
  | x :: r, pre => by
    rw [List.length_cons, List.range'_succ, List.find?_cons]
    have e0 : (pre ++ x :: r)[pre.length]? = some x := by simp
    rw [e0]
    show (match Nat.beq x.toNat c.toNat with | true => ((pre.length : Nat) : Int) | false => findB c r (pre.length + 1)) = _
    cases h : Nat.beq x.toNat c.toNat with
    | true => have := UInt8.toNat_inj.mp (Nat.eq_of_beq_eq_true h); subst this; simp
    | false =>
      have : x ≠ c := fun e => Nat.ne_of_beq_eq_false h (by rw [e])
      have : (some x == some c) = false := by simpa using this
      rw [this]
      have ih := find_scan c r (pre ++ [x])
      rw [List.length_append, List.append_assoc] at ih
      exact ih
theorem rfind_scan (c : UInt8) : ∀ (b pre : List UInt8) (f : Int), rfindL c b pre.length f = match (List.range' pre.length b.length).reverse.find? (fun i => (pre ++ b)[i]? == some c) with | some i => (i : Int) | none => f
  | [], pre, f => rfl
  | x :: r, pre, f => by
    rw [List.length_cons, List.range'_succ, List.reverse_cons, List.find?_append]
    have ih := rfind_scan c r (pre ++ [x])
    rw [List.length_append, List.append_assoc] at ih
    have e0 : (pre ++ x :: r)[pre.length]? = some x := by simp
    show (match Nat.beq x.toNat c.toNat with | true => rfindL c r (pre.length + 1) pre.length | false => rfindL c r (pre.length + 1) f) = _
    have ih' : ∀ f, rfindL c r (pre.length + 1) f = match (List.range' (pre.length + 1) r.length).reverse.find? (fun i => (pre ++ x :: r)[i]? == some c) with | some i => (i : Int) | none => f := fun f => ih f
    rw [ih', ih']
    cases q : (List.range' (pre.length + 1) r.length).reverse.find? (fun i => (pre ++ x :: r)[i]? == some c) with
    | some i => simp; cases Nat.beq x.toNat c.toNat <;> rfl
    | none =>
      rw [Option.none_or, List.find?_cons, e0]
      cases h : Nat.beq x.toNat c.toNat with
      | true => have := UInt8.toNat_inj.mp (Nat.eq_of_beq_eq_true h); subst this; simp
      | false =>
        have : x ≠ c := fun e => Nat.ne_of_beq_eq_false h (by rw [e])
        have : (some x == some c) = false := by simpa using this
        rw [this]; rfl
theorem find_places (b : List UInt8) (c : UInt8) : ((List.range (b.toArray.size + 1 - (0 + [c].toArray.size))).map (· + 0)) = List.range' 0 b.length := by
  simp [List.range_eq_range']
theorem find_is (b : List UInt8) (c : UInt8) : findB c b 0 = match Builtin.Bytes.find? b.toArray [c].toArray 0 b.toArray.size with | some i => (i : Int) | none => -1 := by
  unfold Builtin.Bytes.find?
  rw [find_places]
  have e : (fun i => b.toArray.extract i (i + [c].toArray.size) == [c].toArray) = fun i => b[i]? == some c := by funext i; exact one_at b c i
  rw [e]
  exact find_scan c b []
theorem rfind_is (b : List UInt8) (c : UInt8) : rfindL c b 0 (-1) = match Builtin.Bytes.rfind? b.toArray [c].toArray 0 b.toArray.size with | some i => (i : Int) | none => -1 := by
  unfold Builtin.Bytes.rfind?
  rw [find_places]
  have e : (fun i => b.toArray.extract i (i + [c].toArray.size) == [c].toArray) = fun i => b[i]? == some c := by funext i; exact one_at b c i
  rw [e]
  exact rfind_scan c b [] (-1)
section
variable {prog : Program} {w : World} {A : Around} {E : Value → Shared → Prop} {s : Shared} {b d : List UInt8} {c : UInt8} {t u : Tok} {Q : Value → Shared → Prop}
theorem call_lower (hl : b.length ≤ 16777216) (h : ∀ t' k, Q (.bytes (lowerB b).toArray t') { s with toks := k }) : wpAny (model prog w) A (call (.builtin "bytes.lower") [.bytes b.toArray t]) Q E s := by
  refine wpAny_call_entry FBm.slot_lower (typeIs_bytes _ _ _) FBm.entry_lower ?_ (FBm.args_lower _)
  show wpAny _ _ (mkBytes ((b.toArray.toList.map Builtin.Bytes.toLower).toArray) >>= fun v => ret v) _ _ s
  refine wpAny_bind (wpAny_mkBytes (wpAny_pure ⟨_, rfl, ?_⟩) ?_)
  · have := h s.toks (s.toks + 1)
    rw [← lower_eq] at this
    exact this
  · simp [sizeLine_eq]; exact hl
theorem window_all (n : Nat) : Builtin.Bytes.window n none none = ((0 : Int), (n : Int)) := by
  unfold Builtin.Bytes.window
  simp; omega
theorem not_tuple : isSubtype (.type "bytes") (.type "tuple") = pure false := by rw [isSubtype_type]; kernel_rfl
theorem call_ends (h : Q (.bool (decide (d.length ≤ b.length) && u8sEq (b.drop (b.length - d.length)) d)) s) : wpAny (model prog w) A (call (.builtin "bytes.endswith") [.bytes b.toArray t, .bytes d.toArray u]) Q E s := by
  refine wpAny_call_entry FB.slot_bytes_endswith (typeIs_bytes _ _ _) FB.entry_bytes_endswith ?_ (FB.args_bytes_endswith_2 _ _)
  show wpAny _ _ (isInstance (.bytes d.toArray u) (.type "tuple") >>= fun r => _) _ _ s
  refine wpAny_bind (wpAny_isInstance (typeIs_bytes _ _ _) not_tuple ?_)
  show wpAny _ _ (Builtin.Bytes.buffer? "bytes.endswith" (.bytes d.toArray u) >>= fun r => _) _ _ s
  refine wpAny_bind (wpAny_of_eq KBy.buffer_eq ?_)
  refine wpAny_pure ⟨_, rfl, ?_⟩
  have e : (b.toArray.size : Int) = (b.length : Int) := by simp
  simp only [Option.getD_none, List.size_toArray]
  have h1 : ¬ ((b.length : Int) < 0) := by omega
  have h2 : ¬ ((0 : Int) < 0) := by omega
  simp only [h1, h2, if_false, Int.min_self, Int.sub_zero, Int.toNat_natCast, if_true]
  by_cases hc : (b.length : Int) < (d.length : Int)
  · rw [if_pos hc]
    rw [decide_eq_false (by omega), Bool.false_and] at h
    exact h
  · rw [if_neg hc]
    rw [decide_eq_true (by omega), Bool.true_and] at h
    have e2 : (b.toArray.extract (b.length - d.length) b.length == d.toArray) = u8sEq (b.drop (b.length - d.length)) d := by
      rw [← u8sEq_beq, Bool.eq_iff_iff]
      simp only [beq_iff_eq]
      rw [← Array.toList_inj]
      simp [List.extract, List.take_of_length_le]
    rw [e2]; exact h
theorem call_starts (h : Q (.bool (u8sEq (b.take d.length) d)) s) : wpAny (model prog w) A (call (.builtin "bytes.startswith") [.bytes b.toArray t, .bytes d.toArray u]) Q E s := by
  refine wpAny_call_entry FB.slot_bytes_startswith (typeIs_bytes _ _ _) FB.entry_bytes_startswith ?_ (FB.args_bytes_startswith_2 _ _)
  show wpAny _ _ (isInstance (.bytes d.toArray u) (.type "tuple") >>= fun r => _) _ _ s
  refine wpAny_bind (wpAny_isInstance (typeIs_bytes _ _ _) not_tuple ?_)
  show wpAny _ _ (Builtin.Bytes.buffer? "bytes.startswith" (.bytes d.toArray u) >>= fun r => _) _ _ s
  refine wpAny_bind (wpAny_of_eq KBy.buffer_eq ?_)
  refine wpAny_pure ⟨_, rfl, ?_⟩
  simp only [Option.getD_none, List.size_toArray]
  have h1 : ¬ ((b.length : Int) < 0) := by omega
  have h2 : ¬ ((0 : Int) < 0) := by omega
  simp only [h1, h2, if_false, Int.min_self, Int.sub_zero, Int.toNat_zero, Bool.false_eq_true, Nat.zero_add]
  have e2 : (b.toArray.extract 0 d.length == d.toArray) = u8sEq (b.take d.length) d := by
    rw [← u8sEq_beq, Bool.eq_iff_iff]
    simp only [beq_iff_eq]
    rw [← Array.toList_inj]
    simp [List.extract]
  by_cases hc : (b.length : Int) < (d.length : Int)
  · rw [if_pos hc]
    have e3 : u8sEq (b.take d.length) d = false := by
      rw [← u8sEq_beq]
      simp only [beq_eq_false_iff_ne, ne_eq]
      intro q
      have := congrArg List.length q
      simp at this; omega
    rw [e3] at h; exact h
  · rw [if_neg hc, e2]; exact h
theorem call_find (hl : b.length ≤ 16777216) (h : ∀ t' k, Q (.int (findB c b 0) t') { s with toks := k }) : wpAny (model prog w) A (call (.builtin "bytes.find") [.bytes b.toArray t, .bytes [c].toArray u]) Q E s := by
  refine wpAny_call_entry FBm.slot_find (typeIs_bytes _ _ _) FBm.entry_find ?_ (FBm.args_find _ _)
  show wpAny _ _ (Builtin.Bytes.searchArgs .bytes "find" ⟨[.bytes b.toArray t, .bytes [c].toArray u], []⟩ >>= fun r => _) _ _ s
  refine wpAny_bind ?_
  show wpAny _ _ (Builtin.Bytes.buffer? "bytes.find" (.bytes [c].toArray u) >>= fun r => _) _ _ s
  refine wpAny_bind (wpAny_of_eq KBy.buffer_eq ?_)
  refine wpAny_pure ?_
  simp only [Option.getD_none, List.size_toArray]
  have h1 : ¬ ((b.length : Int) < 0) := by omega
  have h2 : ¬ ((0 : Int) < 0) := by omega
  simp only [h1, h2, if_false, Int.min_self, Int.sub_zero, Int.toNat_natCast, Int.toNat_zero, Bool.false_eq_true]
  have hf := find_is b c
  simp only [List.size_toArray] at hf
  by_cases hc : (b.length : Int) < (([c] : List UInt8).length : Int)
  · rw [if_pos hc, Option.bind_none]
    have hb : b = [] := by
      cases b with
      | nil => rfl
      | cons x r => simp at hc; omega
    subst hb
    refine wpAny_bind (wpAny_rule ?_)
    exact wpAny_bind (wpAny_mkInt (wpAny_pure ⟨_, rfl, h _ _⟩))
  · rw [if_neg hc, Option.bind_some]
    dsimp only
    cases q : Builtin.Bytes.find? b.toArray #[c] 0 b.length with
    | some i =>
      rw [q] at hf
      rw [hf] at h
      exact wpAny_bind (wpAny_mkInt (wpAny_pure ⟨_, rfl, h _ _⟩))
    | none =>
      rw [q] at hf
      rw [hf] at h
      refine wpAny_bind (wpAny_rule ?_)
      exact wpAny_bind (wpAny_mkInt (wpAny_pure ⟨_, rfl, h _ _⟩))
theorem call_rfind (hl : b.length ≤ 16777216) (h : ∀ t' k, Q (.int (rfindL c b 0 (-1)) t') { s with toks := k }) : wpAny (model prog w) A (call (.builtin "bytes.rfind") [.bytes b.toArray t, .bytes [c].toArray u]) Q E s := by
  refine wpAny_call_entry FBm.slot_rfind (typeIs_bytes _ _ _) FBm.entry_rfind ?_ (FBm.args_rfind _ _)
  show wpAny _ _ (Builtin.Bytes.searchArgs .bytes "rfind" ⟨[.bytes b.toArray t, .bytes [c].toArray u], []⟩ >>= fun r => _) _ _ s
  refine wpAny_bind ?_
  show wpAny _ _ (Builtin.Bytes.buffer? "bytes.rfind" (.bytes [c].toArray u) >>= fun r => _) _ _ s
  refine wpAny_bind (wpAny_of_eq KBy.buffer_eq ?_)
  refine wpAny_pure ?_
  simp only [Option.getD_none, List.size_toArray]
  have h1 : ¬ ((b.length : Int) < 0) := by omega
  have h2 : ¬ ((0 : Int) < 0) := by omega
  simp only [h1, h2, if_false, Int.min_self, Int.sub_zero, Int.toNat_natCast, Int.toNat_zero, if_true]
  have hf := rfind_is b c
  simp only [List.size_toArray] at hf
  by_cases hc : (b.length : Int) < (([c] : List UInt8).length : Int)
  · rw [if_pos hc, Option.bind_none]
    have hb : b = [] := by
      cases b with
      | nil => rfl
      | cons x r => simp at hc; omega
    subst hb
    refine wpAny_bind (wpAny_rule ?_)
    exact wpAny_bind (wpAny_mkInt (wpAny_pure ⟨_, rfl, h _ _⟩))
  · rw [if_neg hc, Option.bind_some]
    dsimp only
    cases q : Builtin.Bytes.rfind? b.toArray #[c] 0 b.length with
    | some i =>
      rw [q] at hf
      rw [hf] at h
      exact wpAny_bind (wpAny_mkInt (wpAny_pure ⟨_, rfl, h _ _⟩))
    | none =>
      rw [q] at hf
      rw [hf] at h
      refine wpAny_bind (wpAny_rule ?_)
      exact wpAny_bind (wpAny_mkInt (wpAny_pure ⟨_, rfl, h _ _⟩))
end
end Mine
end

section
set_option maxRecDepth 100000
set_option linter.unusedVariables false
open PySem PySem.W PySem.Calls PyProof.Rows
namespace Mine
noncomputable def splitL (c : UInt8) : List UInt8 → List UInt8 → List (List UInt8)
  | [], acc => [acc]
  | x :: r, acc => match Nat.beq x.toNat c.toNat with
    | true => acc :: splitL c r []
    | false => splitL c r (acc ++ [x])
noncomputable def placesL (c : UInt8) : List UInt8 → Nat → List Nat
  | [], _ => []
  | x :: r, k => match Nat.beq x.toNat c.toNat with
    | true => k :: placesL c r (k + 1)
    | false => placesL c r (k + 1)
theorem occ_scan (c : UInt8) : ∀ (b pre : List UInt8) (acc : List Nat) (last : Nat), last ≤ pre.length →
    (((List.range' pre.length b.length).foldl (fun (a : List Nat × Nat) (i : Nat) => if i ≥ a.2 && (pre ++ b)[i]? == some c then (i :: a.1, i + 1) else a) (acc, last)).1.reverse) = acc.reverse ++ placesL c b pre.length
  | [], pre, acc, last, _ => by simp [placesL]
  | x :: r, pre, acc, last, hl => by
    rw [List.length_cons, List.range'_succ, List.foldl_cons]
    have e0 : (pre ++ x :: r)[pre.length]? = some x := by simp
    rw [e0]
    have ih := fun a l h => occ_scan c r (pre ++ [x]) a l h
    simp only [List.length_append, List.append_assoc, List.length_singleton, List.singleton_append] at ih
    show _ = acc.reverse ++ (match Nat.beq x.toNat c.toNat with | true => pre.length :: placesL c r (pre.length + 1) | false => placesL c r (pre.length + 1))
    cases h : Nat.beq x.toNat c.toNat with
    | true =>
      have := UInt8.toNat_inj.mp (Nat.eq_of_beq_eq_true h); subst this
      have e1 : (decide (pre.length ≥ last) && (some x == some x)) = true := by simp; exact hl
      rw [if_pos e1, ih _ _ (by omega)]
      simp
    | false =>
      have : x ≠ c := fun e => Nat.ne_of_beq_eq_false h (by rw [e])
      have e1 : ¬ ((decide (pre.length ≥ last) && (some x == some c)) = true) := by simp [this]
      rw [if_neg e1, ih _ _ (by omega)]
theorem occ_is (b : List UInt8) (c : UInt8) : Builtin.Bytes.occurrences b.toArray [c].toArray 0 b.toArray.size = placesL c b 0 := by
  unfold Builtin.Bytes.occurrences
  rw [find_places]
  have e : (fun (acc : List Nat × Nat) (i : Nat) => if i ≥ acc.2 && b.toArray.extract i (i + [c].toArray.size) == [c].toArray then (i :: acc.1, i + [c].toArray.size) else acc) =
      fun (a : List Nat × Nat) (i : Nat) => if i ≥ a.2 && ([] ++ b)[i]? == some c then (i :: a.1, i + 1) else a := by
    funext acc i
    rw [one_at]
    rfl
  show ((List.range' 0 b.length).foldl (fun (acc : List Nat × Nat) (i : Nat) => if i ≥ acc.2 && b.toArray.extract i (i + [c].toArray.size) == [c].toArray then (i :: acc.1, i + [c].toArray.size) else acc) ([], 0)).1.reverse = _
  rw [e]
  exact occ_scan c b [] [] 0 (Nat.le_refl _)
theorem between_scan (c : UInt8) : ∀ (b pre acc : List UInt8) (parts : Array (Array UInt8)), (∃ p0, pre = p0 ++ acc) →
    (let r := (placesL c b pre.length).foldl (fun (x : Array (Array UInt8) × Nat) p => (x.1.push ((pre ++ b).toArray.extract x.2 p), p + 1)) (parts, pre.length - acc.length)
     (r.1.push ((pre ++ b).toArray.extract r.2 (pre ++ b).length)).toList) = parts.toList ++ (splitL c b acc).map List.toArray
  | [], pre, acc, parts, ⟨p0, hp⟩ => by
    subst hp
    simp [placesL, splitL, List.extract]
  | x :: r, pre, acc, parts, ⟨p0, hp⟩ => by
    subst hp
    have e1 : placesL c (x :: r) (p0 ++ acc).length = (match Nat.beq x.toNat c.toNat with | true => (p0 ++ acc).length :: placesL c r ((p0 ++ acc).length + 1) | false => placesL c r ((p0 ++ acc).length + 1)) := rfl
    have e2 : splitL c (x :: r) acc = (match Nat.beq x.toNat c.toNat with | true => acc :: splitL c r [] | false => splitL c r (acc ++ [x])) := rfl
    rw [e1, e2]
    cases h : Nat.beq x.toNat c.toNat with
    | true =>
      have ih := between_scan c r (p0 ++ acc ++ [x]) [] (parts.push acc.toArray) ⟨_, (List.append_nil _).symm⟩
      simp only [List.length_append, List.length_singleton, List.length_nil, Nat.sub_zero, List.append_assoc, List.singleton_append, Array.toList_push, List.map_cons, List.foldl_cons] at ih ⊢
      have e : (p0 ++ (acc ++ x :: r)).toArray.extract (p0.length + acc.length - acc.length) (p0.length + acc.length) = acc.toArray := by
        simp [List.extract]
      rw [e]
      simpa [Nat.add_assoc] using ih
    | false =>
      have ih := between_scan c r (p0 ++ acc ++ [x]) (acc ++ [x]) parts ⟨p0, by simp⟩
      simp only [List.length_append, List.length_singleton, List.append_assoc, List.singleton_append] at ih ⊢
      have e : p0.length + (acc.length + 1) - (acc.length + 1) = p0.length + acc.length - acc.length := by omega
      rw [e] at ih
      exact ih
theorem between_is (b : List UInt8) (c : UInt8) : Builtin.Bytes.between b.toArray 1 (placesL c b 0) = (splitL c b []).map List.toArray := by
  have h := between_scan c b [] [] #[] ⟨[], rfl⟩
  simp only [List.nil_append, List.length_nil, Nat.sub_zero] at h
  unfold Builtin.Bytes.between
  simp only [List.size_toArray]
  exact h
theorem places_none (c : UInt8) : ∀ (b : List UInt8) (k : Nat) (acc : List UInt8), placesL c b k = [] → splitL c b acc = [acc ++ b]
  | [], k, acc, _ => by simp [splitL]
  | x :: r, k, acc, h => by
    unfold placesL at h
    unfold splitL
    cases q : Nat.beq x.toNat c.toNat with
    | true => rw [q] at h; cases h
    | false =>
      rw [q] at h
      show splitL c r (acc ++ [x]) = _
      rw [places_none c r (k + 1) _ h]
      simp
theorem splitL_len (c : UInt8) : ∀ (b acc : List UInt8), (splitL c b acc).length ≤ b.length + 1 ∧ ∀ x ∈ splitL c b acc, x.length ≤ acc.length + b.length
  | [], acc => by simp [splitL]
  | x :: r, acc => by
    have e2 : splitL c (x :: r) acc = (match Nat.beq x.toNat c.toNat with | true => acc :: splitL c r [] | false => splitL c r (acc ++ [x])) := rfl
    rw [e2]
    cases Nat.beq x.toNat c.toNat with
    | true =>
      obtain ⟨h1, h2⟩ := splitL_len c r []
      refine ⟨by simp; exact h1, fun y hy => ?_⟩
      rcases List.mem_cons.mp hy with rfl | hy
      · simp
      · have := h2 y hy; simp at this ⊢; omega
    | false =>
      obtain ⟨h1, h2⟩ := splitL_len c r (acc ++ [x])
      refine ⟨by simp; omega, fun y hy => ?_⟩
      have := h2 y hy; simp at this ⊢; omega
section
variable {prog : Program} {w : World} {A : Around} {E : Value → Shared → Prop} {s : Shared} {b d : List UInt8} {c : UInt8} {t u : Tok} {Q : Value → Shared → Prop}
theorem mapM_new {M : Model} : ∀ (l : List (List UInt8)) (s : Shared) (P : List Value → Shared → Prop), (∀ x ∈ l, x.length ≤ 16777216) → (∀ vs k, VsRep [] (l.map .bytes) vs → P vs { s with toks := k }) →
    wpAny M A ((l.map List.toArray).mapM (Builtin.Bytes.Kind.new .bytes)) P E s
  | [], s, P, _, h => by
    rw [List.map_nil, List.mapM_nil]
    exact wpAny_pure (h [] s.toks .nil)
  | x :: l, s, P, hx, h => by
    rw [List.map_cons, List.mapM_cons]
    refine wpAny_bind ?_
    show wpAny _ _ (mkBytes x.toArray) _ _ s
    refine wpAny_mkBytes (wpAny_bind (mapM_new l _ _ (fun y hy => hx y (.tail _ hy)) fun vs k hvs => wpAny_pure ?_)) ?_
    · exact h _ _ (.cons ⟨_, rfl⟩ hvs)
    · simp [sizeLine_eq]; exact hx x (.head _)
theorem call_split (hl : b.length < 16777216) (h : ∀ vs k, VsRep [] ((splitL c b []).map .bytes) vs → Q (.ref s.heap.objs.size) { s with heap := s.heap.push { cls := .type "list", data := .seq vs.toArray }, toks := k }) :
    wpAny (model prog w) A (call (.builtin "bytes.split") [.bytes b.toArray t, .bytes [c].toArray u]) Q E s := by
  refine wpAny_call_entry FBm.slot_split (typeIs_bytes _ _ _) FBm.entry_split ?_ (FBm.args_split _ _)
  show wpAny _ _ (Builtin.Bytes.bytesLike "bytes.split" (.bytes [c].toArray u) >>= fun r => _) _ _ s
  refine wpAny_bind (wpAny_of_eq KBd.like_eq ?_)
  have hlen := splitL_len c b []
  have hocc := occ_is b c
  have htake : List.take (if (-1 : Int) < 0 then b.toArray.size + 1 else (-1 : Int).toNat) (placesL c b 0) = placesL c b 0 := by
    rw [if_pos (by decide)]
    refine List.take_of_length_le ?_
    have : ∀ (b : List UInt8) k, (placesL c b k).length ≤ b.length := by
      intro b
      induction b with
      | nil => intro k; simp [placesL]
      | cons x r ih =>
        intro k
        show (match Nat.beq x.toNat c.toNat with | true => k :: placesL c r (k + 1) | false => placesL c r (k + 1)).length ≤ _
        have := ih (k + 1)
        cases Nat.beq x.toNat c.toNat <;> simp <;> omega
    have := this b 0
    simp; omega
  have hnl : ∀ (v : List Value) k, v.length ≤ 16777216 → VsRep [] ((splitL c b []).map .bytes) v → wpAny (model prog w) A.in1 (newList v >>= fun l => ret l) (fun fin s' => ∃ v, fin = Fin.done (Flow.ret v) ∧ Q v s') E { s with toks := k } := fun v k hv hr =>
    wpAny_bind (wpAny_newList (wpAny_pure ⟨_, rfl, h v k hr⟩) (by rw [sizeLine_eq]; exact hv))
  show wpAny _ _ (if (if false = true then Builtin.Bytes.occurrencesFromRight b.toArray [c].toArray (if (-1 : Int) < 0 then b.toArray.size + 1 else (-1 : Int).toNat) else List.take (if (-1 : Int) < 0 then b.toArray.size + 1 else (-1 : Int).toNat) (Builtin.Bytes.occurrences b.toArray [c].toArray 0 b.toArray.size)).isEmpty = true then (do
        rule
            (toString (toString Builtin.Bytes.Kind.bytes.name ++ toString "." ++ toString "split") ++
              toString ".no-separator")
        let __do_lift ← Builtin.Bytes.Kind.bytes.same (Value.bytes b.toArray t)
        let __do_lift ← newList [__do_lift]
        ret __do_lift)
      else (do
        let __do_lift ← List.mapM (Builtin.Bytes.Kind.new .bytes) (Builtin.Bytes.between b.toArray [c].toArray.size (if false = true then Builtin.Bytes.occurrencesFromRight b.toArray [c].toArray (if (-1 : Int) < 0 then b.toArray.size + 1 else (-1 : Int).toNat) else List.take (if (-1 : Int) < 0 then b.toArray.size + 1 else (-1 : Int).toNat) (Builtin.Bytes.occurrences b.toArray [c].toArray 0 b.toArray.size)))
        let __do_lift ← newList __do_lift
        ret __do_lift)) _ _ s
  have hff : ∀ {α : Type} (x y : α), (if false = true then x else y) = y := fun x y => if_neg (by decide)
  rw [hff, hocc, htake]
  cases hp : (placesL c b 0).isEmpty with
  | true =>
    rw [if_pos rfl]
    refine wpAny_bind (wpAny_rule ?_)
    refine wpAny_bind ?_
    show wpAny _ _ (typeOf (.bytes b.toArray t) >>= fun ty => _) _ _ s
    refine wpAny_bind (wpAny_typeOf (typeIs_bytes _ _ _) ?_)
    refine wpAny_pure ?_
    have e := places_none c b 0 [] (List.isEmpty_iff.mp hp)
    have := hnl [.bytes b.toArray t] s.toks (by simp) (by rw [e]; exact .cons ⟨_, rfl⟩ .nil)
    exact this
  | false =>
    rw [if_neg (by simp)]
    have e3 : [c].toArray.size = 1 := rfl
    rw [e3, between_is]
    refine wpAny_bind (mapM_new _ _ _ (fun x hx => by have := hlen.2 x hx; simp at this; omega) fun vs k hvs => ?_)
    refine hnl vs k ?_ hvs
    have := hvs.length
    rw [this, List.length_map]
    have := hlen.1
    omega
end
end Mine
end

section
set_option maxRecDepth 100000
set_option linter.unusedVariables false
open PySem PySem.W PySem.Calls PyProof.Rows
namespace Mine
theorem take_eq {b : Array UInt8} {t : Tok} {id : String} : Builtin.Bytes.takeBufferQuiet? id (.bytes b t) 0 = pure (some (b, none)) := by
  unfold Builtin.Bytes.takeBufferQuiet? Builtin.Bytes.takeBuffer?
  rw [KBy.special_eq KBy.look_buffer, KBy.own_buffer]
  have e : (((0 : Int) == Builtin.Bytes.fullReadOnly)) = false := by decide
  rw [e, KBy.buffer_eq]
  kernel_rfl
theorem joined_nil (bs : List (List UInt8)) : Builtin.Bytes.joined #[] (bs.map List.toArray) = bs.flatten.toArray := by
  have key : ∀ (bs : List (List UInt8)) (k : Nat) (acc : List UInt8), ((bs.map List.toArray).zipIdx k).foldl (fun (out : Array UInt8) (x : Array UInt8 × Nat) => (if x.2 > 0 then out ++ #[] else out) ++ x.1) acc.toArray = (acc ++ bs.flatten).toArray := by
    intro bs
    induction bs with
    | nil => intro k acc; simp
    | cons x r ih =>
      intro k acc
      rw [List.map_cons, List.zipIdx_cons, List.foldl_cons]
      have e : ((if k > 0 then acc.toArray ++ #[] else acc.toArray) ++ x.toArray) = (acc ++ x).toArray := by
        split <;> simp
      rw [e, ih]
      simp
  exact key bs 0 []
theorem parts_len (bs : List (List UInt8)) (k : Nat) : Array.foldl (fun (x1 : Nat) (x2 : Array UInt8) => x1 + x2.size) k (bs.map List.toArray).toArray = k + bs.flatten.length := by
  rw [List.foldl_toArray']
  · induction bs generalizing k with
    | nil => simp
    | cons x r ih => rw [List.map_cons, List.foldl_cons, ih]; simp; omega
  · rfl
section
variable {M : Model} {A : Around} {E : Value → Shared → Prop} {s : Shared}
theorem wp_joinLetGo : ∀ (tk : List (Value × Option Value)) (keep : List Value) {Q : Unit → Shared → Prop}, (∀ x ∈ tk, x.2 = none) → Q () s → wpAny M A (Builtin.Bytes.joinLetGo tk keep) Q E s
  | [], keep, Q, _, h => wpAny_pure h
  | (x, w) :: r, keep, Q, hn, h => by
    obtain rfl : w = none := hn (x, w) (.head _)
    show wpAny M A (letGo [x] (keep ++ r.flatMap fun (y, u) => y :: u.toList) >>= fun _ => Builtin.Bytes.joinLetGo r keep) Q E s
    exact wpAny_bind (wpAny_letGo (wp_joinLetGo r keep (fun y hy => hn y (.tail _ hy)) h))
end
theorem wp_notOne {α : Type} {M : Model} {A : Around} {E : Value → Shared → Prop} {s : Shared} {Q : α → Shared → Prop} {xs : Array Value} {f : Value → Sem α} {k : Array Value → Sem α} (hn : xs.size ≠ 1) (h : wpAny M A (k xs) Q E s) :
    wpAny M A (match xs with | #[x] => f x | y => k y) Q E s := by
  cases xs with
  | mk l => cases l with
    | nil => exact h
    | cons a r => cases r with
      | nil => exact absurd rfl hn
      | cons b r => exact h
section
variable {prog : Program} {w : World} {A : Around} {E : Value → Shared → Prop} {s : Shared} {b d : List UInt8} {c : UInt8} {t u : Tok} {Q : Value → Shared → Prop}
set_option maxHeartbeats 1600000 in
theorem call_join {l : Addr} {bs : List (List UInt8)} {vs : List Value} (hl : s.heap.IsList l vs.toArray) (hv : VsRep [] (bs.map .bytes) vs) (hz : bs.flatten.length ≤ 16777216) (h : ∀ t' k, Q (.bytes bs.flatten.toArray t') { s with toks := k }) :
    wpAny (model prog w) A (call (.builtin "bytes.join") [.bytes #[] t, .ref l]) Q E s := by
  refine wpAny_call_entry FBm.slot_join (typeIs_bytes _ _ _) FBm.entry_join ?_ (FBm.args_join _ _)
  obtain ⟨ol, hol, hoc, nl, hod⟩ := id hl
  have hitems : ∀ (P : Option (Array Value) → Shared → Prop), P (some vs.toArray) s → wpAny (model prog w) A.in1 (seqItems? (.ref l)) P E s := fun P hP => by
    show wpAny _ _ (load l >>= fun r => _) _ _ s
    refine wpAny_bind (wpAny_load hol ?_)
    rw [hod]
    exact wpAny_pure hP
  show wpAny _ _ (Builtin.Bytes.joinItems (.ref l) >>= fun r => _) _ _ s
  refine wpAny_bind ?_
  unfold Builtin.Bytes.joinItems
  refine wpAny_bind (wpAny_typeOf hl.typeIs ?_)
  refine wpAny_pure ?_
  refine wpAny_bind (hitems _ ?_)
  have hvn := hv.length
  rw [List.length_map] at hvn
  dsimp only
  rw [if_pos (by decide)]
  by_cases h1 : vs.length = 1
  · obtain ⟨x, hvs⟩ : ∃ x, vs = [x] := by
      cases vs with
      | nil => cases h1
      | cons x r => cases r with
        | nil => exact ⟨x, rfl⟩
        | cons _ _ => simp at h1
    subst hvs
    obtain ⟨y, hb⟩ : ∃ y, bs = [y] := by
      cases bs with
      | nil => cases hv
      | cons y r => cases hv with
        | cons a r' => cases r with
          | nil => exact ⟨y, rfl⟩
          | cons _ _ => cases r'
    subst hb
    cases hv with
    | cons a r' =>
      obtain ⟨t', rfl⟩ := a
      show wpAny _ _ (typeOf (.bytes y.toArray t') >>= fun ty => _) _ _ s
      refine wpAny_bind (wpAny_typeOf (typeIs_bytes _ _ _) ?_)
      rw [if_pos (by decide)]
      refine wpAny_bind (wpAny_rule (wpAny_pure ⟨_, rfl, ?_⟩))
      have := h t' s.toks
      change Q (.bytes y.toArray t') s
      simpa using this
  · refine wp_notOne (by simpa using h1) ?_
    refine wpAny_bind ?_
    rw [Std.Legacy.Range.forIn_eq_forIn_range']
    refine wpAny_forIn_list _ (fun rest st s' => ∃ i, i ≤ bs.length ∧ rest = List.range' i (bs.length - i) ∧ st = (((bs.take i).map List.toArray).toArray, (vs.take i).map fun v => (v, none)) ∧ s' = s) _ ?_ ?_ _ _ ?_
    · rintro x rest st s' ⟨i, hi, hr, rfl, rfl⟩
      obtain ⟨hlt, rfl, hr⟩ : i < bs.length ∧ x = i ∧ rest = List.range' (i + 1) (bs.length - (i + 1)) := by
        cases hk : bs.length - i with
        | zero => rw [hk] at hr; cases hr
        | succ k =>
          rw [hk, List.range'_succ] at hr
          cases hr
          exact ⟨by omega, rfl, by congr 1; omega⟩
      refine wpAny_bind (hitems _ ?_)
      dsimp only
      obtain ⟨v, e1, e2⟩ := hv.get (i := x) (a := .bytes bs[x]) (by simp [hlt])
      obtain ⟨t', rfl⟩ := e2
      have e3 : vs.toArray.getD x Value.none = .bytes bs[x].toArray t' := by
        have : x < vs.length := by omega
        simp [Array.getD, this]
        rw [List.getElem?_eq_getElem this] at e1
        exact Option.some.inj e1
      rw [e3]
      have e4 : (((vs.take x).map fun v => (v, (none : Option Value))).any fun x => x.1.onHeap) = false := by
        rw [List.any_eq_false]
        intro y hy
        obtain ⟨z, hz, rfl⟩ := List.mem_map.mp hy
        obtain ⟨j, hj⟩ := List.getElem?_of_mem (List.mem_of_mem_take hz)
        have hjl : j < bs.length := by
          have := (List.getElem?_eq_some_iff.mp hj).1; omega
        obtain ⟨v', e1', e2'⟩ := hv.get (i := j) (a := .bytes bs[j]) (by simp [hjl])
        obtain ⟨t'', rfl⟩ := e2'
        rw [hj] at e1'; cases e1'
        exact Bool.false_ne_true
      rw [e4]
      rw [if_neg (by decide)]
      refine wpAny_bind (wpAny_holding (wpAny_of_eq take_eq ?_))
      dsimp only
      refine wpAny_bind (hitems _ ?_)
      dsimp only
      rw [if_neg (by simp)]
      refine wpAny_pure ⟨x + 1, by omega, hr, ?_, rfl⟩
      have hvl : x < vs.length := by omega
      congr 1
      · have e6 : bs[x]? = some bs[x] := List.getElem?_eq_getElem hlt
        rw [List.take_add_one, e6, Option.toList_some, List.map_append, List.push_toArray]; rfl
      · rw [List.take_add_one, e1, Option.toList_some, List.map_append]; rfl
    · rintro st s' ⟨i, hi, hr, rfl, rfl⟩
      have hin : i = bs.length := by
        have := congrArg List.length hr
        simp at this; omega
      subst hin
      simp only [List.take_length]
      rw [List.take_of_length_le (by omega)]
      refine wpAny_bind (wpAny_of_eq (a := (#[] : Array UInt8)) rfl ?_)
      rw [parts_len]
      have e5 : Builtin.Bytes.tooLong ((#[] : Array UInt8).size * ((List.map List.toArray bs).toArray.size - 1) + bs.flatten.length) = false := by
        apply KBy.tooLong_not
        simp; simpa using hz
      rw [e5]
      rw [if_neg (by decide)]
      rw [joined_nil]
      refine wpAny_bind ?_
      show wpAny _ _ (mkBytes bs.flatten.toArray) _ _ s'
      refine wpAny_mkBytes ?_ (by rw [sizeLine_eq]; simpa using hz)
      refine wpAny_bind (wpAny_holding (wpAny_point ?_))
      refine wpAny_bind (wp_joinLetGo _ _ (fun x hx => by obtain ⟨_, _, rfl⟩ := List.mem_map.mp hx; rfl) ?_)
      exact wpAny_pure ⟨_, rfl, h _ _⟩
    · exact ⟨0, Nat.zero_le _, by simp [hvn], by simp, rfl⟩
end
end Mine
end

section
set_option maxRecDepth 100000
set_option linter.unusedVariables false
open PySem PySem.W PySem.Calls PyProof.Rows PySem.Builtin._codecs
namespace Mine
theorem asciiL_mem : ∀ {l : List Nat}, asciiL l = true → ∀ c ∈ l, c < 128
  | [], _, c, h => by cases h
  | x :: r, h, c, hc => by
    have h : (match Nat.ble x 127 with | true => asciiL r | false => false) = true := h
    cases q : Nat.ble x 127 with
    | false => rw [q] at h; cases h
    | true =>
      rw [q] at h
      rcases List.mem_cons.mp hc with rfl | hc
      · exact Nat.lt_succ_of_le (Nat.le_of_ble_eq_true q)
      · exact asciiL_mem h c hc
theorem asciiB_mem : ∀ {l : List UInt8}, asciiB l = true → ∀ c ∈ l, c.toNat < 128
  | [], _, c, h => by cases h
  | x :: r, h, c, hc => by
    have h : (match Nat.ble x.toNat 127 with | true => asciiB r | false => false) = true := h
    cases q : Nat.ble x.toNat 127 with
    | false => rw [q] at h; cases h
    | true =>
      rw [q] at h
      rcases List.mem_cons.mp hc with rfl | hc
      · exact Nat.lt_succ_of_le (Nat.le_of_ble_eq_true q)
      · exact asciiB_mem h c hc
theorem fold_bytes (f : Nat → List UInt8) : ∀ (l : List Nat) (acc : Array UInt8), (∀ c ∈ l, f c = [UInt8.ofNat c]) → l.foldl (fun acc y => acc ++ (f y).toArray) acc = acc ++ (l.map UInt8.ofNat).toArray
  | [], acc, _ => by simp
  | x :: r, acc, h => by
    rw [List.foldl_cons, fold_bytes f r _ fun c hc => h c (.tail _ hc), h x (.head _)]
    simp
section
variable {M : Model} {A : Around} {E : Value → Shared → Prop} {s : Shared}
theorem narrow_ok {id : String} {cd : TextCodec} {err : Option Str} {self : Value} {x : Str} {Q : Array UInt8 → Shared → Prop} (hbad : ∀ c ∈ x.cps.toList, cd.bad c = false) (hb : ∀ c ∈ x.cps.toList, cd.bytesOf c = [UInt8.ofNat c])
    (hl : x.cps.toList.length ≤ 16777216) (h : Q (x.cps.toList.map UInt8.ofNat).toArray s) : wpAny M A (encodeNarrow id cd err self x) Q E s := by
  obtain ⟨⟨l⟩⟩ := x
  simp only at hbad hb hl h
  unfold encodeNarrow
  refine wpAny_bind ?_
  rw [Std.Legacy.Range.forIn_eq_forIn_range']
  have hlen : (Str.mk ⟨l⟩).length = l.length := rfl
  rw [hlen]
  have hbig : ∀ n, n ≤ 16777216 → ¬ n > sizeLine := fun n hn => by rw [sizeLine_eq]; omega
  refine wpAny_forIn_list _ (fun rest st s' => s' = s ∧ (rest = [] → st.2.1 = (l.map UInt8.ofNat).toArray) ∧ ((st.1 = 0 ∧ st.2.1 = #[]) ∨ (st.1 = l.length ∧ st.2.1 = (l.map UInt8.ofNat).toArray))) _ ?_ ?_ _ _ ?_
  · intro y rest st0 s' h0
    obtain ⟨i, out, st⟩ := st0
    obtain ⟨rfl, _, hst⟩ := h0
    simp only at hst
    have hout : ¬ out.size > sizeLine := by
      rcases hst with ⟨_, h2⟩ | ⟨_, h2⟩ <;> rw [h2]
      · exact hbig _ (Nat.zero_le _)
      · refine hbig _ ?_; simpa using hl
    show wpAny M A (if out.size > sizeLine then _ else _) _ _ _
    rw [if_neg hout]
    by_cases hi : i < l.length
    · obtain ⟨rfl, rfl⟩ : i = 0 ∧ out = #[] := by
        rcases hst with h2 | ⟨h2, _⟩
        · exact h2
        · omega
      have e0 : (Array.mk l)[0]? = some l[0] := by simp [hi]
      rw [e0]
      dsimp only
      have e1 : (!cd.bad l[0]) = true := by rw [hbad _ (List.getElem_mem hi)]; rfl
      rw [if_pos e1]
      have e2 : (Array.mk l).extract 0 (Array.mk l).size = Array.mk l := by simp
      have e3 : Array.findIdx? cd.bad (Array.mk l) = none := by
        rw [Array.findIdx?_eq_none_iff]
        intro c hc
        exact hbad c (by simpa using hc)
      have e4 : (Array.findIdx? cd.bad ((Array.mk l).extract 0 (Array.mk l).size)).getD ((Array.mk l).extract 0 (Array.mk l).size).size = l.length := by
        rw [e2, e3]; rfl
      have e5 : Array.foldl (fun acc y => acc ++ (cd.bytesOf y).toArray) #[] (((Array.mk l).extract 0 (Array.mk l).size).extract 0 l.length) = (l.map UInt8.ofNat).toArray := by
        rw [e2]
        have : (Array.mk l).extract 0 l.length = Array.mk l := by simp
        rw [this]
        have := fold_bytes cd.bytesOf l #[] hb
        simpa using this
      refine wpAny_pure ⟨rfl, fun _ => ?_, .inr ⟨?_, ?_⟩⟩
      · show Array.foldl _ #[] (((Array.mk l).extract 0 (Array.mk l).size).extract 0 ((Array.findIdx? cd.bad ((Array.mk l).extract 0 (Array.mk l).size)).getD ((Array.mk l).extract 0 (Array.mk l).size).size)) = _
        rw [e4]; exact e5
      · show 0 + (Array.findIdx? cd.bad ((Array.mk l).extract 0 (Array.mk l).size)).getD ((Array.mk l).extract 0 (Array.mk l).size).size = _
        rw [e4]; omega
      · show Array.foldl _ #[] (((Array.mk l).extract 0 (Array.mk l).size).extract 0 ((Array.findIdx? cd.bad ((Array.mk l).extract 0 (Array.mk l).size)).getD ((Array.mk l).extract 0 (Array.mk l).size).size)) = _
        rw [e4]; exact e5
    · have e0 : (Array.mk l)[i]? = none := by
        rw [Array.getElem?_eq_none_iff]; simp; omega
      rw [e0]
      dsimp only
      have hout2 : out = (l.map UInt8.ofNat).toArray := by
        rcases hst with ⟨h2, h3⟩ | ⟨_, h3⟩
        · have : l = [] := List.length_eq_zero_iff.mp (by omega)
          subst this; simpa using h3
        · exact h3
      subst hout2
      exact wpAny_pure (wpAny_pure h)
  · rintro ⟨i, out, st⟩ s' ⟨rfl, he, _⟩
    have he := he rfl
    dsimp only at he
    subst he
    exact wpAny_pure h
  · refine ⟨rfl, fun hr => ?_, .inl ⟨rfl, rfl⟩⟩
    have hn := congrArg List.length hr
    have : l.length = 0 := by
      rw [List.length_range'] at hn
      simpa [Std.Legacy.Range.size] using hn
    have : l = [] := List.length_eq_zero_iff.mp this
    subst this; rfl
end
section
variable {prog : Program} {w : World} {A : Around} {E : Value → Shared → Prop} {s : Shared} {x : Str} {b : List UInt8} {t u : Tok} {Q : Value → Shared → Prop}
theorem not_sur {c : Nat} (h : c < 128) : Str.isSurrogate c = false := by
  unfold Str.isSurrogate
  simp; omega
theorem call_encode (ha : asciiL x.cps.toList = true) (hl : x.cps.toList.length ≤ 16777216) (h : ∀ t' k, Q (.bytes (x.cps.toList.map UInt8.ofNat).toArray t') { s with toks := k }) :
    wpAny (model prog w) A (call (.builtin "str.encode") [.str x t]) Q E s := by
  refine wpAny_call_entry F.slot_str_encode (typeIs_str _ _ _) F.entry_str_encode ?_ (F.args_str_encode_1 _)
  rw [encode_tree, encodeRoad_utf8]
  refine wpAny_bind (wpAny_bind (narrow_ok (fun c hc => not_sur (asciiL_mem ha c hc)) (fun c hc => ?_) hl (wpAny_mkBytes (wpAny_pure ⟨_, rfl, h _ _⟩) (by rw [sizeLine_eq]; simpa using hl))))
  show Str.utf8Of c = _
  unfold Str.utf8Of
  rw [if_pos (asciiL_mem ha c hc)]
theorem call_encode_ascii (ha : asciiL x.cps.toList = true) (hl : x.cps.toList.length ≤ 16777216) (h : ∀ t' k, Q (.bytes (x.cps.toList.map UInt8.ofNat).toArray t') { s with toks := k }) :
    wpAny (model prog w) A (call (.builtin "str.encode") [.str x t, .str ⟨⟨[97, 115, 99, 105, 105]⟩⟩ u]) Q E s := by
  refine wpAny_call_entry F.slot_str_encode (typeIs_str _ _ _) F.entry_str_encode ?_ (F.args_str_encode_2 _ _)
  have e : Builtin.«str.encode» ⟨[.str x t, .str ⟨⟨[97, 115, 99, 105, 105]⟩⟩ u], []⟩ = (do ret (← (do mkBytes (← encodeNarrow "str.encode" asciiCodec none (.str x t) x)))) := by kernel_rfl
  rw [e]
  refine wpAny_bind (wpAny_bind (narrow_ok (fun c hc => ?_) (fun c hc => rfl) hl (wpAny_mkBytes (wpAny_pure ⟨_, rfl, h _ _⟩) (by rw [sizeLine_eq]; simpa using hl))))
  show decide (c ≥ 128) = false
  have := asciiL_mem ha c hc
  simp; omega
theorem loop_pure {σ : Type} (f : Nat → σ → Sem (ForInStep σ)) (g : Nat → σ) (n : Nat) (h : ∀ i k, i < n → f k (g i) = pure (.yield (g (i + 1)))) : ∀ (l : List Nat) (i : Nat), i + l.length = n → forIn l (g i) f = pure (g n)
  | [], i, e => by
    rw [List.length_nil, Nat.add_zero] at e
    subst e; rfl
  | x :: l, i, e => by
    rw [List.length_cons] at e
    rw [List.forIn_cons, h i x (by omega)]
    show (pure (ForInStep.yield (g (i + 1))) >>= _ : Sem σ) = _
    rw [pure_bind]
    exact loop_pure f g n h l (i + 1) (by omega)
theorem loop_pure0 {σ : Type} (f : Nat → σ → Sem (ForInStep σ)) (g : Nat → σ) (n : Nat) (h : ∀ i k, i < n → f k (g i) = pure (.yield (g (i + 1)))) (l : List Nat) (z : σ) (hz : g 0 = z) (e : l.length = n) : forIn l z f = pure (g n) := by
  rw [← hz]; exact loop_pure f g n h l 0 (by omega)
theorem run_ascii {b : List UInt8} (ha : asciiB b = true) (hl : b.length ≤ 16777216) (id : String) : runDecoder id utf8Decoder none true b.toArray 0 [] = pure ((b.map (·.toNat)).toArray, b.length) := by
  unfold runDecoder
  show (forIn [:b.toArray.size] ((0, #[], {}) : Nat × Array Nat × Faults) _ >>= _) = _
  rw [Std.Legacy.Range.forIn_eq_forIn_range']
  rw [loop_pure0 _ (fun i => (i, (((b.take i).map (·.toNat)).toArray, ({} : Faults)))) b.length ?_ _ (0, #[], {}) ?_ (by simp [Std.Legacy.Range.size])]
  · rw [List.take_length]; rfl
  · intro i k hi
    show (if (((b.take i).map (·.toNat)).toArray).size > sizeLine then _ else (if i ≥ b.toArray.size then _ else _)) = _
    rw [if_neg (by rw [sizeLine_eq]; simp; omega), if_neg (by simp; omega)]
    have e1 : utf8Decoder.find true b.toArray i = .text [b[i].toNat] (i + 1) := by
      have hc := asciiB_mem ha b[i] (List.getElem_mem hi)
      show (match Builtin.Bytes.utf8At b.toArray i with
        | (.char c, next) => Found.char c next
        | (.bad _ stop reason, _) => Found.bad stop reason _) = _
      have e2 : Builtin.Bytes.utf8At b.toArray i = (.char b[i].toNat, i + 1) := by
        unfold Builtin.Bytes.utf8At
        have e3 : b.toArray.getD i 0 = b[i] := by simp [Array.getD, hi]
        simp only [e3]
        rw [if_pos hc]
      rw [e2]
      rfl
    rw [e1]
    show (pure (ForInStep.yield (i + 1, ((b.take i).map (·.toNat)).toArray ++ [b[i].toNat].toArray, ({} : Faults))) : Sem _) = _
    congr 3
    have e6 : b[i]? = some b[i] := List.getElem?_eq_getElem hi
    rw [List.take_add_one, e6, Option.toList_some, List.map_append]
    simp
  · rfl
theorem call_decode (ha : asciiB b = true) (hl : b.length ≤ 16777216) (h : ∀ t' k, Q (.str ⟨⟨b.map (·.toNat)⟩⟩ t') { s with toks := k }) : wpAny (model prog w) A (call (.builtin "bytes.decode") [.bytes b.toArray t]) Q E s := by
  cases b with
  | nil =>
    refine wpAny_call_entry FB.slot_bytes_decode (typeIs_bytes _ _ _) FB.entry_bytes_decode ?_ (FB.args_bytes_decode_1 _)
    show wpAny _ _ (rule "bytes.decode.empty" >>= fun _ => retStr Str.empty) _ _ s
    refine wpAny_bind (wpAny_rule ?_)
    exact wpAny_bind (wpAny_mkStr (wpAny_pure ⟨_, rfl, h _ _⟩) (by decide))
  | cons c cs =>
    refine KBd.decode (x := ⟨⟨(c :: cs).map (·.toNat)⟩⟩) (n := (c :: cs).length) (fun id => run_ascii ha hl id) ?_ h
    simpa [Str.length] using hl
end
end Mine
end

section
set_option maxRecDepth 100000
set_option linter.unusedVariables false
open PySem PySem.W PySem.Calls PyProof.Rows
namespace Mine

section
variable {α β γ δ : Type}
noncomputable def At (𝒞 : Ctx → Prop) (S : Sys) (Φ : Frm) (A : Around) (kp : List (Addr × Obj)) (ρ : RMap) (objs : List MO) (loc : Loc) (s : Shared) (m : EvM α) (t : Sem β) (R : RMap → α → β → Prop) : Prop :=
  ∀ orc Q E, Wp S kp Φ R ρ (m ⟨objs, loc, orc⟩) Q E → wpC 𝒞 (model pw S.w) A t Q E s
variable {𝒞 : Ctx → Prop} {S : Sys} {Φ : Frm} {n : Nat} {hd : Bool} {ρ₀ : RMap} {A : Around} {kp : List (Addr × Obj)} {ρ : RMap} {objs : List MO} {loc : Loc} {s : Shared} {R : RMap → α → β → Prop}
theorem Snd.of_at {m : EvM α} {t : Sem β} (h : ∀ A kp ρ objs loc s, ρ₀ <+: ρ → AOk Φ A n hd → Stn S ρ kp ((Φ.L, loc) :: Φ.outer) objs s → At 𝒞 S Φ A kp ρ objs loc s m t R) : Snd 𝒞 S Φ n hd ρ₀ m t R :=
  fun A kp ρ st s Q E p hA I W => h A kp ρ st.objs st.loc s p hA I st.orc Q E W
theorem Snd.at {m : EvM α} {t : Sem β} (h : Snd 𝒞 S Φ n hd ρ₀ m t R) (p : ρ₀ <+: ρ) (hA : AOk Φ A n hd) (I : Stn S ρ kp ((Φ.L, loc) :: Φ.outer) objs s) : At 𝒞 S Φ A kp ρ objs loc s m t R :=
  fun orc Q E W => h A kp ρ ⟨objs, loc, orc⟩ s Q E p hA I W
theorem At.stop {w : String} {t : Sem β} : At 𝒞 S Φ A kp ρ objs loc s (stop w) t R := fun _ _ _ W => W.elim
theorem At.fin {m : EvM α} {t : Sem β} {a : α} {objs' : List MO} {loc' : Loc} (hm : ∀ orc, m ⟨objs, loc, orc⟩ = .ok a ⟨objs', loc', orc⟩ [])
    (ht : ∀ Q E, (∀ ρ' v s', ρ <+: ρ' → Stn S ρ' kp ((Φ.L, loc') :: Φ.outer) objs' s' → R ρ' a v → Q v s') → wpAny (model pw S.w) A t Q E s) : At 𝒞 S Φ A kp ρ objs loc s m t R := by
  intro orc Q E W
  rw [hm] at W
  exact wpC_of (ht Q E W.2)
theorem At.pure {t : Sem β} {a : α} (I : Stn S ρ kp ((Φ.L, loc) :: Φ.outer) objs s)
    (ht : ∀ Q E, (∀ v k, R ρ a v → Q v { s with toks := k }) → wpAny (model pw S.w) A t Q E s) : At 𝒞 S Φ A kp ρ objs loc s (Pure.pure a) t R :=
  At.fin (fun _ => rfl) fun Q E h => ht Q E fun v k hv => h ρ v _ (List.prefix_refl _) (I.toks k) hv
theorem At.dec {b : Bool} {f : Bool → EvM α} {t : Sem β} (h : At 𝒞 S Φ A kp ρ objs loc s (f b) t R) : At 𝒞 S Φ A kp ρ objs loc s (Mine.dec b >>= f) t R := by
  intro orc Q E W
  have e : (Mine.dec b >>= f) ⟨objs, loc, orc⟩ = EvM.bind (Mine.dec b) f ⟨objs, loc, orc⟩ := rfl
  rw [e] at W
  unfold EvM.bind Mine.dec at W
  cases orc with
  | nil => exact W.elim
  | cons x r =>
    cases x with
    | none =>
      cases b with
      | true => exact h r Q E (W.pre (List.prefix_refl _))
      | false => exact h r Q E (W.pre (List.prefix_refl _))
    | some c =>
      have hb : b = c := by have := W.preOk; exact this.1
      subst hb
      exact h r Q E (W.pre (List.prefix_refl _))
theorem At.need {b : Bool} {why : String} {f : Unit → EvM α} {t : Sem β} (h : b = true → At 𝒞 S Φ A kp ρ objs loc s (f ()) t R) : At 𝒞 S Φ A kp ρ objs loc s (Mine.need b why >>= f) t R := by
  intro orc Q E W
  cases orc with
  | nil => exact W.elim
  | cons x r =>
    cases x with
    | none =>
      cases b with
      | true => exact h rfl r Q E (Wp.pre (ob := []) W (List.prefix_refl _))
      | false => exact W.elim
    | some c =>
      cases c with
      | true =>
        have W' : Wp S kp Φ R ρ ((f () ⟨objs, loc, r⟩).pre ([(b, true)] ++ [])) Q E := W
        have hb : b = true := by have := W'.preOk; exact this.1
        exact h hb r Q E (W'.pre (List.prefix_refl _))
      | false => exact W.elim
theorem Snd.getO {i : Nat} {f : MO → EvM α} {t : Sem β} (h : ∀ A kp ρ objs loc s o p, ρ₀ <+: ρ → AOk Φ A n hd → Stn S ρ kp ((Φ.L, loc) :: Φ.outer) objs s → objs[i]? = some o → ρ[i]? = some p → ORep ρ s.heap p o →
    At 𝒞 S Φ A kp ρ objs loc s (f o) t R) : Snd 𝒞 S Φ n hd ρ₀ (getO i >>= f) t R := by
  refine Snd.of_at fun A kp ρ objs loc s hp hA I orc Q E W => ?_
  have e : (Mine.getO i >>= f) ⟨objs, loc, orc⟩ = EvM.bind (Mine.getO i) f ⟨objs, loc, orc⟩ := rfl
  rw [e] at W
  unfold EvM.bind Mine.getO at W
  cases q : objs[i]? with
  | none => simp only [q] at W; exact W.elim
  | some o =>
    simp only [q] at W
    obtain ⟨p, hp', hr⟩ := I.obj i o q
    exact h A kp ρ objs loc s o p hp hA I q hp' hr orc Q E (W.pre (List.prefix_refl _))
theorem At.getO {i : Nat} {f : MO → EvM α} {t : Sem β} (I : Stn S ρ kp ((Φ.L, loc) :: Φ.outer) objs s) (h : ∀ o p, objs[i]? = some o → ρ[i]? = some p → ORep ρ s.heap p o →
    At 𝒞 S Φ A kp ρ objs loc s (f o) t R) : At 𝒞 S Φ A kp ρ objs loc s (Mine.getO i >>= f) t R := by
  intro orc Q E W
  have e : (Mine.getO i >>= f) ⟨objs, loc, orc⟩ = EvM.bind (Mine.getO i) f ⟨objs, loc, orc⟩ := rfl
  rw [e] at W
  unfold EvM.bind Mine.getO at W
  cases q : objs[i]? with
  | none => simp only [q] at W; exact W.elim
  | some o =>
    simp only [q] at W
    obtain ⟨p, hp', hr⟩ := I.obj i o q
    exact h o p q hp' hr orc Q E (W.pre (List.prefix_refl _))
theorem Snd.congr {m m' : EvM α} {t : Sem β} (e : m = m') (h : Snd 𝒞 S Φ n hd ρ₀ m' t R) : Snd 𝒞 S Φ n hd ρ₀ m t R := e ▸ h
theorem At.congr {m m' : EvM α} {t : Sem β} (e : m = m') (h : At 𝒞 S Φ A kp ρ objs loc s m' t R) : At 𝒞 S Φ A kp ρ objs loc s m t R := e ▸ h
theorem At.treeEq {m : EvM α} {t t' : Sem β} (e : t = t') (h : At 𝒞 S Φ A kp ρ objs loc s m t' R) : At 𝒞 S Φ A kp ρ objs loc s m t R := e ▸ h
end

section
variable {α β γ : Type}
theorem Out.pre_pre (a b : List (Bool × Bool)) (o : Out α) : (o.pre b).pre a = o.pre (a ++ b) := by cases o <;> simp [Out.pre]
theorem Out.pre_nil (o : Out α) : o.pre [] = o := by cases o <;> rfl
theorem ev_assoc (m : EvM α) (f : α → EvM β) (g : β → EvM γ) : (m >>= f) >>= g = m >>= fun a => f a >>= g := by
  funext st
  show EvM.bind (EvM.bind m f) g st = EvM.bind m (fun a => EvM.bind (f a) g) st
  unfold EvM.bind
  cases m st with
  | ok a st' o =>
    cases q : f a st' with
    | ok b st'' o' =>
      simp only [Out.pre, q]
      cases g b st'' <;> simp
    | exc C st'' o' => simp only [Out.pre, q]
    | bad w => simp only [Out.pre, q]
  | exc C st' o => rfl
  | bad w => rfl
theorem ev_pure (a : α) (f : α → EvM β) : (Pure.pure a >>= f) = f a := by
  funext st
  show EvM.bind (EvM.pure a) f st = f a st
  unfold EvM.bind EvM.pure
  simp only [Out.pre_nil]
theorem ev_bind_pure (m : EvM α) : (m >>= fun a => Pure.pure a) = m := by
  funext st
  show EvM.bind m EvM.pure st = m st
  unfold EvM.bind EvM.pure
  cases m st with
  | ok a st' o => simp [Out.pre]
  | exc C st' o => rfl
  | bad w => rfl
end

structure ClsOk (K : Frag) (C : Addr) (ci : ClsInfo) : Prop where
  get : findIn K (.ref C) "__getattribute__" = some (some (.builtin "object.__getattribute__"))
  noga : findIn K (.ref C) "__getattr__" = some none
  seta : findIn K (.ref C) "__setattr__" = some (some (.builtin "object.__setattr__"))
  over : plainOver K C = true
  hasd : (clsIn K C).any (·.hasDict) = true
  noseq : noSeq K C = true
  fld : ∀ x, inStrs x ci.fields = true → findIn K (.ref C) x = some none ∧ copiedNames.contains x = false
  meth : ∀ x f, lookS x ci.meths = some f → findIn K (.ref C) x = some (some (.ref f)) ∧ typeIn K (.ref f) = some (.type "function") ∧ fnIn K f = true
  attr : ∀ x a, lookS x ci.attrs = some a → ∃ v, readsIn K C (.type "type") = true ∧ findCls K (.ref C) (.type "type") x = some (.val v) ∧ handedIn v = true ∧ VRep [] a v
structure SysOk (S : Sys) (T : Tabs) : Prop where
  K : S.K.In S.B
  limit : S.B.NoLimit
  cls : ∀ C ci, lookA C T.clss = some ci → ClsOk S.K C ci
  calls : ∀ a, (lookA a T.fns).isSome = true ∨ (lookA a T.clss).isSome = true → keepIn S.K (.ref a) = true
  fnsIn : ∀ a, (lookA a T.fns).isSome = true → fnIn S.K a = true
  glob : ∃ mg mb, S.B.Ns mainGlobals mg ∧ S.B.Ns builtinsNs mb ∧ (∀ x a, lookS x T.globs = some a → ∃ v, mg x = some v ∧ VRep [] a v) ∧
    ∀ x a, lookS x T.globs = none → lookS x T.bltins = some a → mg x = none ∧ ∃ v, mb x = some v ∧ VRep [] a v
theorem Stn.K {S : Sys} {T : Tabs} {ρ kp frs objs s} (Y : SysOk S T) (I : Stn S ρ kp frs objs s) : S.K.In s.heap := fun a o e => I.base a o (Y.K a o e)

theorem strBeq {a b : Str} : (a == b) = strEq a b := strEq_beq
theorem lookS_lookup {α : Type} {x : Str} : ∀ {l : List (Str × α)}, lookS x l = l.lookup x
  | [] => rfl
  | (y, v) :: r => by
    unfold lookS
    rw [List.lookup_cons, strEq_beq]
    cases strEq x y with
    | true => rfl
    | false => exact lookS_lookup

structure EnvOk (Φ : Frm) (sc : Scope) : Prop where
  scope : Φ.env.scope = sc
  kind : sc.kind = .function
  locals : Φ.env.locals = Φ.L
  frame : Φ.env.frame = some Φ.L
  globals : Φ.env.globals = mainGlobals
  builtins : Φ.env.builtins = builtinsNs

section
variable {𝒞 : Ctx → Prop} {S : Sys} {T : Tabs} {Φ : Frm} {n : Nat} {hd : Bool} {ρ₀ : RMap} {sc : Scope} {x : Str}
theorem EnvOk.kindOf (O : EnvOk Φ sc) {k : NameKind} (h : lookS x sc.names = some k) : Φ.env.kindOf x = some k := by
  unfold Env.kindOf
  rw [O.scope, ← lookS_lookup]; exact h
theorem snd_getL (O : EnvOk Φ sc) (h : lookS x sc.names = some .local) : Snd 𝒞 S Φ n hd ρ₀ (getL x) (loadName Φ.env x) VRep := by
  refine Snd.of_at fun A kp ρ objs loc s hp hA I orc Q E W => ?_
  unfold getL at W
  cases q : lookS x loc with
  | none => simp only [q] at W; exact W.elim
  | some v =>
    simp only [q] at W
    obtain ⟨m, hm, hl⟩ := I.frm (Φ.L, loc) (.head _)
    obtain ⟨u, hu, hr⟩ := hl x v q
    exact wpC_of <| wpAny_loadName_local (by rw [O.scope]; exact O.kind) (O.kindOf h) (by rw [O.locals]; exact hm) hu (W.2 ρ u s (List.prefix_refl _) I hr)
theorem snd_setL (O : EnvOk Φ sc) (h : lookS x sc.names = some .local) {a : MV} {v : Value} (hv : VRep ρ₀ a v) : Snd 𝒞 S Φ n hd ρ₀ (setL x a) (bindName Φ.env x v) (fun _ _ _ => True) := by
  refine Snd.of_at fun A kp ρ objs loc s hp hA I => At.fin (a := ()) (objs' := objs) (loc' := putS x a loc) (fun _ => rfl) fun Q E hQ => ?_
  obtain ⟨m, hm, hl⟩ := I.frm (Φ.L, loc) (.head _)
  refine wpAny_bindName (wpAny_storeName_local (O.kindOf h) (by rw [O.locals]; exact hm) (fun h' hn hs => ?_) ?_)
  · rw [O.locals] at hn hs
    refine hQ ρ _ _ (List.prefix_refl _) (I.setF hs.extBut ⟨_, hn, fun y b q => ?_⟩) trivial
    rw [lookS_put] at q
    by_cases hy : y = x
    · rw [if_pos hy] at q ⊢; cases q
      exact ⟨v, rfl, hv.mono hp⟩
    · rw [if_neg hy] at q ⊢
      exact hl y b q
  · have : (Φ.env.scope.kind == .class || (Φ.env.scope.kind == .module && Φ.env.locals != Φ.env.globals)) = false := by rw [O.scope, O.kind]; rfl
    exact this
theorem not_debug (h : strEq x nDebug = false) : (x == ("__debug__" : Str)) = false := by
  have e : nDebug = ("__debug__" : Str) := by decide +kernel
  rw [← e, strEq_beq]; exact h
theorem snd_name (Y : SysOk S T) (O : EnvOk Φ sc) {pos : Pos} : Snd 𝒞 S Φ n hd ρ₀ (nameM T sc x) (eval (.Name x pos) Φ.env) VRep := by
  unfold nameM
  split
  · rename_i hb e
    have hd' := not_debug hb
    intro A kp ρ st s Q E p hA I W
    rw [eval_Name Φ.env x pos hd']
    exact wpC_bind (wpC_of (wpAny_standAt (snd_getL O e A kp ρ st s Q E p hA I W)))
  · rename_i hb e
    have hd' := not_debug hb
    obtain ⟨mg, mb, hg, hb, k1, k2⟩ := Y.glob
    split
    · rename_i a q
      refine Snd.of_at fun A kp ρ objs loc s hp hA I => At.pure I fun Q E h => ?_
      obtain ⟨v, hv, hr⟩ := k1 _ _ q
      have hg' : s.heap.Ns mainGlobals mg := hg.keeps I.base
      exact Calls.Name_function_global (by rw [O.scope]; exact O.kind) (O.kindOf e) (Calls.loadGlobal_global (by rw [O.globals]; exact hg') hv (h v s.toks (hr.mono (List.nil_prefix)))) hd'
    · rename_i q
      split
      · rename_i a q'
        refine Snd.of_at fun A kp ρ objs loc s hp hA I => At.pure I fun Q E h => ?_
        obtain ⟨h0, v, hv, hr⟩ := k2 _ _ q q'
        have hg' : s.heap.Ns mainGlobals mg := hg.keeps I.base
        have hb' : s.heap.Ns builtinsNs mb := hb.keeps I.base
        exact Calls.Name_function_global (by rw [O.scope]; exact O.kind) (O.kindOf e) (Calls.loadGlobal_builtin (by rw [O.globals]; exact hg') h0 (by rw [O.builtins]; exact hb') hv (h v s.toks (hr.mono (List.nil_prefix)))) hd'
      · exact Snd.stop
  · exact Snd.stop
theorem snd_const {c : Const} {k : Nat} {pos : Pos} : Snd 𝒞 S Φ n hd ρ₀ (constM c) (eval (.Constant c k pos) Φ.env) VRep := by
  unfold constM
  split
  · refine Snd.of_at fun A kp ρ objs loc s hp hA I => At.pure I fun Q E h => fun _ _ _ => h _ s.toks rfl
  · refine Snd.of_at fun A kp ρ objs loc s hp hA I => At.pure I fun Q E h => fun _ _ _ => h _ s.toks rfl
  · refine Snd.of_at fun A kp ρ objs loc s hp hA I => At.pure I fun Q E h => wpAny_Constant_int (h _ _ ⟨_, rfl⟩)
  · refine Snd.of_at fun A kp ρ objs loc s hp hA I => At.pure I fun Q E h => wpAny_mkText (h _ _ ⟨_, rfl⟩)
  · refine Snd.of_at fun A kp ρ objs loc s hp hA I => At.pure I fun Q E h => PySem.W.Constant_bytes (h _ _ ⟨_, rfl⟩)
  · exact Snd.stop
end
end Mine
end

section
set_option maxRecDepth 100000
set_option linter.unusedVariables false
open PySem PySem.W PySem.Calls PyProof.Rows
namespace Mine

noncomputable def FlRep (ρ : RMap) : Fl → Flow → Prop
  | .next, f => f = .next
  | .brk, f => f = .brk
  | .cont, f => f = .cont
  | .ret a, f => ∃ v, f = .ret v ∧ VRep ρ a v
structure FSnd (𝒞 : Ctx → Prop) (S : Sys) (T : Tabs) (n : Nat) (F : Fns) : Prop where
  ex : ∀ {Φ sc ρ₀} e, EnvOk Φ sc → Snd 𝒞 S Φ n false ρ₀ (F.ex sc e) (eval e Φ.env) VRep
  tr : ∀ {Φ sc ρ₀} e, EnvOk Φ sc → Snd 𝒞 S Φ n false ρ₀ (F.tr sc e) (isTrue e Φ.env (eval e Φ.env)) (fun _ a b => a = b)
  ss : ∀ {Φ sc ρ₀} l, EnvOk Φ sc → Snd 𝒞 S Φ n false ρ₀ (F.ss sc l) (execs l Φ.env) FlRep
  ca : ∀ {Φ ρ₀} a args vs, VsRep ρ₀ args vs → SndW 𝒞 S Φ n ρ₀ (F.ca (.gl a) args) (call (.ref a) vs) VRep

section
variable {α β : Type} {𝒞 : Ctx → Prop} {S : Sys} {Φ : Frm} {n : Nat} {hd : Bool} {ρ₀ : RMap} {R : RMap → α → β → Prop}
theorem Snd.tree {m : EvM α} {t t' : Sem β} (e : t = t') (h : Snd 𝒞 S Φ n hd ρ₀ m t' R) : Snd 𝒞 S Φ n hd ρ₀ m t R := e ▸ h
theorem Snd.via {m : EvM α} {t : Sem β} {γ : Type} {t' : Sem γ} {R' : RMap → α → γ → Prop} {g : γ → β} (h : Snd 𝒞 S Φ n hd ρ₀ m t' R')
    (w : ∀ A Q E s, wpC 𝒞 (model pw S.w) A t' (fun c => Q (g c)) E s → wpC 𝒞 (model pw S.w) A t Q E s) (hr : ∀ ρ a c, R' ρ a c → R ρ a (g c)) : Snd 𝒞 S Φ n hd ρ₀ m t R := by
  intro A kp ρ st s Q E p hA I W
  refine w A Q E s (h A kp ρ st s _ E p hA I ?_)
  cases q : m st with
  | ok a st' ob => rw [q] at W; exact ⟨W.1, fun ρ' v s' p' I' r => W.2 ρ' (g v) s' p' I' (hr _ _ _ r)⟩
  | exc C st' ob => rw [q] at W; exact W
  | bad w => rw [q] at W; exact W.elim
theorem Snd.tpure {γ : Type} {m : EvM α} {c : γ} {f : γ → Sem β} (h : Snd 𝒞 S Φ n hd ρ₀ m (f c) R) : Snd 𝒞 S Φ n hd ρ₀ m (Pure.pure c >>= f) R :=
  fun A kp ρ st s Q E p hA I W => wpC_bind (wpC_pure (h A kp ρ st s Q E p hA I W))
theorem Snd.bindE {γ δ : Type} {m : EvM α} {t : Sem β} {f : α → EvM γ} {g : β → Sem δ} {R' : RMap → γ → δ → Prop}
    (h : Snd 𝒞 S Φ n hd ρ₀ m t R) (k : ∀ ρ₁ a v, ρ₀ <+: ρ₁ → R ρ₁ a v → Snd 𝒞 S Φ n hd ρ₁ (f a) (g v) R') : Snd 𝒞 S Φ n hd ρ₀ (EvM.bind m f) (t >>= g) R' := Snd.bind h k
theorem Snd.letGo {b : Expr} {o : Value} {m : EvM MV} {t : Sem Value} {R : RMap → MV → Value → Prop} (h : Snd 𝒞 S Φ n hd ρ₀ m t R) : Snd 𝒞 S Φ n hd ρ₀ m (t >>= fun r => letTemporaryGo b o r >>= fun _ => Pure.pure r) R := by
  intro A kp ρ st s Q E p hA I W
  refine wpC_bind (h A kp ρ st s _ E p hA I ?_)
  cases q : m st with
  | ok a st' ob => rw [q] at W; exact ⟨W.1, fun ρ' v s' p' I' r => wpC_of (wpAny_bind (wpAny_letTemporaryGo (wpAny_pure (W.2 ρ' v s' p' I' r))))⟩
  | exc C st' ob => rw [q] at W; exact W
  | bad w => rw [q] at W; exact W.elim
theorem Snd.holdB {γ : Type} {vs : List Value} {m : EvM α} {t : Sem γ} {f : γ → Sem β} (h : Snd 𝒞 S Φ n hd ρ₀ m (t >>= f) R) : Snd 𝒞 S Φ n hd ρ₀ m (PySem.holding vs t >>= f) R := by
  intro A kp ρ st s Q E p hA I W Γ p' hΓ hC
  have := h A kp ρ st s Q E p hA I W Γ p' hΓ hC
  rw [Sem.wp_bind'] at this ⊢
  rw [Sem.wp_holding]; exact this
theorem Snd.assocT {γ δ : Type} {m : EvM α} {t : Sem γ} {f : γ → Sem δ} {g : δ → Sem β} (h : Snd 𝒞 S Φ n hd ρ₀ m (t >>= fun c => f c >>= g) R) : Snd 𝒞 S Φ n hd ρ₀ m ((t >>= f) >>= g) R := by
  intro A kp ρ st s Q E p hA I W Γ p' hΓ hC
  have := h A kp ρ st s Q E p hA I W Γ p' hΓ hC
  rw [Sem.wp_bind'] at this ⊢
  rw [Sem.wp_bind']
  refine Sem.wp_mono _ Γ _ (fun v p' s' h' => ?_) (fun _ _ _ h' => h') _ _ this
  rw [Sem.wp_bind'] at h'; exact h'
theorem Snd.release {vs keep : List Value} {m : EvM α} {f : Unit → Sem β} (h : Snd 𝒞 S Φ n hd ρ₀ m (f ()) R) : Snd 𝒞 S Φ n hd ρ₀ m (release vs keep >>= f) R :=
  fun A kp ρ st s Q E p hA I W => wpC_bind (wpC_of (wpAny_release (h A kp ρ st s Q E p hA I W)))
end

section
variable {𝒞 : Ctx → Prop} {S : Sys} {T : Tabs} {Φ : Frm} {n : Nat} {ρ₀ : RMap} {sc : Scope} {F F0 : Fns} {ba : Bool}
theorem star_cons (e : Expr) (h : ∀ x p, e ≠ .Starred x p) (r : List Expr) (env : Env) : starEach (e :: r) env = (false, eval e env) :: starEach r env := by
  cases e <;> first | rfl | exact absurd rfl (h _ _)
theorem exM_ok {e : Expr} (h1 : ∀ x p, e ≠ .Starred x p) (h2 : ∀ x k p, e ≠ .Set x k p) : exM F sc e = F.ex sc e := by
  cases e <;> first | rfl | exact absurd rfl (h1 _ _) | exact absurd rfl (h2 _ _ _)
theorem snd_exM (H : FSnd 𝒞 S T n F) (O : EnvOk Φ sc) (e : Expr) : Snd 𝒞 S Φ n false ρ₀ (exM F sc e) (eval e Φ.env) VRep := by
  by_cases h1 : ∃ x p, e = .Starred x p
  · obtain ⟨x, p, rfl⟩ := h1; exact Snd.stop
  by_cases h2 : ∃ x k p, e = .Set x k p
  · obtain ⟨x, k, p, rfl⟩ := h2; exact Snd.stop
  rw [exM_ok (fun x p q => h1 ⟨x, p, q⟩) (fun x k p q => h2 ⟨x, k, p, q⟩)]
  exact H.ex e O
theorem snd_mapE (H : FSnd 𝒞 S T n F) (O : EnvOk Φ sc) {pos : Pos} : ∀ (es : List Expr) {ρ₀ : RMap}, Snd 𝒞 S Φ n false ρ₀ (mapE (exM F sc) es) (spliced (backTo pos (starEach es Φ.env))) VsRep
  | [], ρ₀ => Snd.tree (t' := pure []) rfl (Snd.pure fun ρ _ => .nil)
  | e :: r, ρ₀ => by
    by_cases h1 : ∃ x p, e = .Starred x p
    · obtain ⟨x, p, rfl⟩ := h1
      intro A kp ρ st s Q E p' hA I W
      exact W.elim
    rw [star_cons e (fun x p q => h1 ⟨x, p, q⟩)]
    show Snd 𝒞 S Φ n false ρ₀ (exM F sc e >>= fun v => mapE (exM F sc) r >>= fun vs => pure (v :: vs)) (spliced ((false, eval e Φ.env) :: backTo pos (starEach r Φ.env))) VsRep
    rw [spliced]
    refine Snd.bind (snd_exM H O e) fun ρ₁ a v p r1 => ?_
    show Snd 𝒞 S Φ n false ρ₁ (mapE (exM F sc) r >>= fun vs => pure (a :: vs)) (Pure.pure [v] >>= fun here => holding here (spliced (backTo pos (starEach r Φ.env))) >>= fun vs => Pure.pure (here ++ vs)) VsRep
    refine Snd.tpure ?_
    exact Snd.bind (Snd.holding (snd_mapE H O r)) fun ρ₂ as vs p2 r2 => Snd.pure fun ρ p3 => .cons (r1.mono (p2.trans p3)) (r2.mono p3)
theorem plainA_any : ∀ {es : List Expr} {env : Env} {pos : Pos}, plainA es = true → (backTo pos (starEach es env)).any (·.1) = false
  | [], _, _, _ => rfl
  | e :: r, env, pos, h => by
    have h1 : ∀ x p, e ≠ .Starred x p := by rintro x p rfl; cases h
    have h2 : plainA r = true := by cases e <;> first | exact h | exact absurd rfl (h1 _ _)
    rw [star_cons e h1]
    show (false || (backTo pos (starEach r env)).any (·.1)) = false
    rw [plainA_any h2]; rfl
theorem snd_callWith {𝒞 : Ctx → Prop} {S : Sys} {Φ : Frm} {n : Nat} {hd : Bool} {ρ₀ : RMap} {m : EvM (List MV)} {f : List MV → EvM MV} {args : List (Bool × Sem Value)} {pos : Pos} {g : Value} {first : List Value} {P : Heap → Prop}
    (hplain : args.any (·.1) = false)
    (hk : ∀ h, P h → ∃ k, (k = Keeper.frame ∨ k = Keeper.machine ∨ k = Keeper.boundFrame) ∧ Looks (model pw S.w) h (keeperOf g) k)
    (hP : ∀ ρ kp frs objs s, Stn S ρ kp frs objs s → P s.heap) (ha : Snd 𝒞 S Φ n hd ρ₀ m (spliced args) VsRep)
    (k : ∀ ρ₁ as vs, ρ₀ <+: ρ₁ → VsRep ρ₁ as vs → Snd 𝒞 S Φ n hd ρ₁ (f as) (call g (first ++ vs)) VRep) : Snd 𝒞 S Φ n hd ρ₀ (m >>= f) (callWith pos g first args []) VRep := by
  intro A kp ρ st s Q E p hA I W
  refine wpC_callWith_of (P := P) hplain hk (wpC_evalArgs hplain (ha A kp ρ st s _ E p hA I ?_))
  have e : (m >>= f) st = EvM.bind m f st := rfl
  rw [e] at W
  unfold EvM.bind at W
  cases q : m st with
  | ok a st' ob =>
    rw [q] at W
    exact ⟨W.preOk, fun ρ' v s' p' I' r => ⟨hP _ _ _ _ _ I', k ρ' a v (p.trans p') r A kp ρ' st' s' Q E (List.prefix_refl _) hA I' (W.pre p')⟩⟩
  | exc C st' ob => rw [q] at W; exact W
  | bad w => rw [q] at W; exact W.elim
theorem keeper_bi {M : Model} {h : Heap} (b : Bi) : ∃ k, (k = Keeper.frame ∨ k = Keeper.machine ∨ k = Keeper.boundFrame) ∧ Looks M h (keeperOf (biVal b)) k :=
  ⟨.machine, .inr (.inl rfl), by cases b <;> exact Looks.now⟩
theorem keeper_builtin {M : Model} {h : Heap} (id : String) : ∃ k, (k = Keeper.frame ∨ k = Keeper.machine ∨ k = Keeper.boundFrame) ∧ Looks M h (keeperOf (.builtin id)) k :=
  ⟨.machine, .inr (.inl rfl), Looks.now⟩
end

structure Leaves (𝒞 : Ctx → Prop) (ba : Bool) (S : Sys) (T : Tabs) : Prop where
  bin : ∀ {Φ n hd ρ₀} op {a b u v}, VRep ρ₀ a u → VRep ρ₀ b v → Snd 𝒞 S Φ n hd ρ₀ (binM op a b) (binaryOp op u v) VRep
  inp : ∀ {Φ n hd ρ₀} op {a b u v}, VRep ρ₀ a u → VRep ρ₀ b v → Snd 𝒞 S Φ n hd ρ₀ (inplaceM ba op a b) (inplaceOp op u v) VRep
  cmp : ∀ {Φ n ρ₀} {F0 : Fns} op {a b u v}, FSnd AllC S T n F0 → VRep ρ₀ a u → VRep ρ₀ b v → Snd 𝒞 S Φ n false ρ₀ (cmpOwn T F0 op a b) (compareOp op u v) VRep
  truthy : ∀ {Φ n hd ρ₀} {a u}, VRep ρ₀ a u → Snd 𝒞 S Φ n hd ρ₀ (truthyM a) (truthy u) (fun _ a b => a = b)
  neg : ∀ {Φ n hd ρ₀} {i : Int} {u}, VRep ρ₀ (.int i) u → Snd 𝒞 S Φ n hd ρ₀ (pure (.int (-i))) (unaryOp .USub u) VRep
  item : ∀ {Φ n ρ₀} {F0 : Fns} {a b u v} {value slice : Expr}, FSnd AllC S T n F0 → VRep ρ₀ a u → VRep ρ₀ b v → (∀ l r p, slice ≠ .Slice l r none p) →
    Snd 𝒞 S Φ n false ρ₀ (itemOwn T F0 a b) (subscriptTail value slice u v) VRep
  slice : ∀ {Φ n hd ρ₀} {a u v w} {l r : Option MV} {value : Expr} {le re p pos}, VRep ρ₀ a u → VRep ρ₀ (l.getD .none) v → VRep ρ₀ (r.getD .none) w →
    Snd 𝒞 S Φ n hd ρ₀ (sliceM a l r) (newFields "slice" [v, w, .none] >>= fun i => standAt pos >>= fun _ => subscriptTail value (.Slice le re none p) u i) VRep
  blt : ∀ {Φ n ρ₀} b {args vs}, VsRep ρ₀ args vs → Snd 𝒞 S Φ n false ρ₀ (bltT T ba b args) (call (biVal b) vs) VRep
  callee : ∀ {Φ n hd ρ₀} {a u} name pl, VRep ρ₀ a u → Snd 𝒞 S Φ n hd ρ₀ (calleeM T a name) (getMethod u name pl) (fun ρ c p => match c with
    | .own f => p = (.ref f, [u]) ∧ (lookA f T.fns).isSome = true
    | .me m => ∃ id, p = (.builtin id, [u]) ∧ ∀ {Φ n hd ρ₁ args vs}, (hd = false ∨ m = .append) → ρ <+: ρ₁ → VsRep ρ₁ args vs → Snd 𝒞 S Φ n hd ρ₁ (methM ba m a args) (call (.builtin id) (u :: vs)) VRep)
  attr : ∀ {Φ n hd ρ₀} {a u} name ex, VRep ρ₀ a u → Snd 𝒞 S Φ n hd ρ₀ (attrM T a name) (getAttr u name ex) VRep
  setA : ∀ {Φ n hd ρ₀} {a b u v} name, VRep ρ₀ a u → VRep ρ₀ b v → Snd 𝒞 S Φ n hd ρ₀ (setAttrM T a name b) (setAttr u name v) (fun _ _ _ => True)
  newL : ∀ {Φ n hd ρ₀} {as vs}, as.length ≤ line → VsRep ρ₀ as vs → Snd 𝒞 S Φ n hd ρ₀ (newO (.list as)) (newList vs) VRep
  newT : ∀ {Φ n hd ρ₀} {as vs}, as.length ≤ line → VsRep ρ₀ as vs → Snd 𝒞 S Φ n hd ρ₀ (newO (.tup as)) (newTuple vs) VRep

section
variable {𝒞 : Ctx → Prop} {S : Sys} {T : Tabs} {Φ : Frm} {n : Nat} {ρ₀ : RMap} {sc : Scope} {F F0 : Fns} {ba : Bool}
theorem markedOne {op : CmpOp} {e : Expr} {t : Sem Value} (h : ∀ x k p, e ≠ .Set x k p) : markedBehindIn op e t = t := by
  refine markedBehindIn_of_false ?_
  cases e <;> first | rfl | exact absurd rfl (h _ _ _)
theorem snd_marked (H : FSnd 𝒞 S T n F) (O : EnvOk Φ sc) {op : CmpOp} (e : Expr) : Snd 𝒞 S Φ n false ρ₀ (exM F sc e) (markedBehindIn op e (eval e Φ.env)) VRep := by
  by_cases h2 : ∃ x k p, e = .Set x k p
  · obtain ⟨x, k, p, rfl⟩ := h2; exact Snd.stop
  rw [markedOne fun x k p q => h2 ⟨x, k, p, q⟩]
  exact snd_exM H O e
theorem snd_chain1 (H : FSnd 𝒞 S T n F) (H0 : FSnd AllC S T n F0) (Lv : Leaves 𝒞 ba S T) (O : EnvOk Φ sc) {pos : Pos} {op : CmpOp} {e : Expr} {ops : List CmpOp} {es : List Expr} {ρ₀ : RMap} {a : MV} {v : Value} {m : EvM MV} {t : Sem Value} (hv : VRep ρ₀ a v)
    (h : ∀ {ρ₀ : RMap} {a : MV} {v : Value}, VRep ρ₀ a v → Snd 𝒞 S Φ n false ρ₀ (chainM T F F0 sc a ops es) (compareChain pos v ops (markedEach ops es (evalEach es Φ.env))) VRep)
    (em : m = (exM F sc e >>= fun b => cmpOwn T F0 op a b >>= fun c => truthyM c >>= fun t => match t with | true => chainM T F F0 sc b ops es | false => pure c))
    (et : t = (holding [v] (eval e Φ.env) >>= fun rv => standAt pos >>= fun _ => holding [v, rv] (compareOp op v rv) >>= fun c => release [v, rv] [c] >>= fun _ => holding [c, rv] (truthy c) >>= fun b =>
      if b then compareChain pos rv ops (markedEach ops es (evalEach es Φ.env)) else pure c)) : Snd 𝒞 S Φ n false ρ₀ m t VRep := by
  subst em et
  refine Snd.bind (Snd.holding (snd_exM H O e)) fun ρ₁ b w p r => Snd.standAt (Snd.bind (Snd.holding (Lv.cmp op H0 (hv.mono p) r)) fun ρ₂ c x p2 r2 => Snd.release (Snd.bind (Snd.holding (Lv.truthy r2)) fun ρ₃ t u p3 r3 => ?_))
  subst r3
  cases t with
  | true => exact h (r.mono (p2.trans p3))
  | false => exact Snd.pure fun ρ p4 => r2.mono (p3.trans p4)
theorem snd_chain (H : FSnd 𝒞 S T n F) (H0 : FSnd AllC S T n F0) (Lv : Leaves 𝒞 ba S T) (O : EnvOk Φ sc) {pos : Pos} : ∀ (ops : List CmpOp) (es : List Expr) {ρ₀ : RMap} {a : MV} {v : Value}, VRep ρ₀ a v →
    Snd 𝒞 S Φ n false ρ₀ (chainM T F F0 sc a ops es) (compareChain pos v ops (markedEach ops es (evalEach es Φ.env))) VRep
  | [], _, _, _, _, _ => Snd.stop
  | op :: ops, [], _, _, _, _ => by cases ops <;> exact Snd.stop
  | [op], [e], ρ₀, a, v, hv => by
    show Snd 𝒞 S Φ n false ρ₀ (exM F sc e >>= fun b => cmpOwn T F0 op a b) (compareChain pos v [op] [markedBehindIn op e (eval e Φ.env)]) VRep
    refine Snd.bind (Snd.holding (snd_marked H O e)) fun ρ₁ b w p r => Snd.standAt (Snd.operate ?_)
    exact Lv.cmp op H0 (hv.mono p) r
  | [op], e :: e' :: es, ρ₀, a, v, hv => snd_chain1 H H0 Lv O hv (fun hv' => snd_chain H H0 Lv O [] (e' :: es) hv') rfl rfl
  | op :: op' :: ops, [e], ρ₀, a, v, hv => snd_chain1 H H0 Lv O hv (fun hv' => snd_chain H H0 Lv O (op' :: ops) [] hv') rfl rfl
  | op :: op' :: ops, e :: e' :: es, ρ₀, a, v, hv => snd_chain1 H H0 Lv O hv (fun hv' => snd_chain H H0 Lv O (op' :: ops) (e' :: es) hv') rfl rfl
theorem snd_test1 (H : FSnd 𝒞 S T n F) (H0 : FSnd AllC S T n F0) (Lv : Leaves 𝒞 ba S T) (O : EnvOk Φ sc) {pos : Pos} {op : CmpOp} {e : Expr} {ops : List CmpOp} {es : List Expr} {ρ₀ : RMap} {a : MV} {v : Value} {m : EvM Bool} {t : Sem Bool} (hv : VRep ρ₀ a v)
    (h : ∀ {ρ₀ : RMap} {a : MV} {v : Value}, VRep ρ₀ a v → Snd 𝒞 S Φ n false ρ₀ (testM T F F0 sc a ops es) (testChain pos v ops (markedEach ops es (evalEach es Φ.env))) (fun _ a b => a = b))
    (em : m = (exM F sc e >>= fun b => cmpOwn T F0 op a b >>= fun c => truthyM c >>= fun t => match t with | true => testM T F F0 sc b ops es | false => pure false))
    (et : t = (holding [v] (eval e Φ.env) >>= fun rv => standAt pos >>= fun _ => holding [v, rv] (compareOp op v rv) >>= fun c => release [v, rv] [c] >>= fun _ => holding [c, rv] (truthy c) >>= fun b =>
      if b then testChain pos rv ops (markedEach ops es (evalEach es Φ.env)) else pure false)) : Snd 𝒞 S Φ n false ρ₀ m t (fun _ a b => a = b) := by
  subst em et
  refine Snd.bind (Snd.holding (snd_exM H O e)) fun ρ₁ b w p r => Snd.standAt (Snd.bind (Snd.holding (Lv.cmp op H0 (hv.mono p) r)) fun ρ₂ c x p2 r2 => Snd.release (Snd.bind (Snd.holding (Lv.truthy r2)) fun ρ₃ t u p3 r3 => ?_))
  subst r3
  cases t with
  | true => exact h (r.mono (p2.trans p3))
  | false => exact Snd.pure fun ρ p4 => rfl
theorem snd_test (H : FSnd 𝒞 S T n F) (H0 : FSnd AllC S T n F0) (Lv : Leaves 𝒞 ba S T) (O : EnvOk Φ sc) {pos : Pos} : ∀ (ops : List CmpOp) (es : List Expr) {ρ₀ : RMap} {a : MV} {v : Value}, VRep ρ₀ a v →
    Snd 𝒞 S Φ n false ρ₀ (testM T F F0 sc a ops es) (testChain pos v ops (markedEach ops es (evalEach es Φ.env))) (fun _ a b => a = b)
  | [], _, _, _, _, _ => Snd.stop
  | op :: ops, [], _, _, _, _ => by cases ops <;> exact Snd.stop
  | [op], [e], ρ₀, a, v, hv => by
    show Snd 𝒞 S Φ n false ρ₀ (exM F sc e >>= fun b => cmpOwn T F0 op a b >>= fun c => truthyM c) (testChain pos v [op] [markedBehindIn op e (eval e Φ.env)]) _
    refine Snd.bind (Snd.holding (snd_marked H O e)) fun ρ₁ b w p r => Snd.standAt (Snd.bind (Snd.operate (Lv.cmp op H0 (hv.mono p) r)) fun ρ₂ c x p2 r2 => Snd.holding (Lv.truthy r2))
  | [op], e :: e' :: es, ρ₀, a, v, hv => snd_test1 H H0 Lv O hv (fun hv' => snd_test H H0 Lv O [] (e' :: es) hv') rfl rfl
  | op :: op' :: ops, [e], ρ₀, a, v, hv => snd_test1 H H0 Lv O hv (fun hv' => snd_test H H0 Lv O (op' :: ops) [] hv') rfl rfl
  | op :: op' :: ops, e :: e' :: es, ρ₀, a, v, hv => snd_test1 H H0 Lv O hv (fun hv' => snd_test H H0 Lv O (op' :: ops) (e' :: es) hv') rfl rfl
theorem snd_bool (H : FSnd 𝒞 S T n F) (H0 : FSnd AllC S T n F0) (Lv : Leaves 𝒞 ba S T) (O : EnvOk Φ sc) {pos : Pos} {op : BoolOp} : ∀ (es : List Expr) {ρ₀ : RMap}, Snd 𝒞 S Φ n false ρ₀ (boolM F sc op es) (boolOp pos op (evalEach es Φ.env)) VRep
  | [], _ => by unfold boolM; exact Snd.stop
  | [e], ρ₀ => H.ex e O
  | e :: e' :: es, ρ₀ => by
    show Snd 𝒞 S Φ n false ρ₀ (F.ex sc e >>= fun v => truthyM v >>= fun t => _) (eval e Φ.env >>= fun v => standAt pos >>= fun _ => holding [v] (truthy v) >>= fun t => _) VRep
    refine Snd.bind (H.ex e O) fun ρ₁ a v p r => Snd.standAt (Snd.bind (Snd.holding (Lv.truthy r)) fun ρ₂ t u p2 r2 => ?_)
    subst r2
    cases op <;> cases t
    · exact Snd.pure fun ρ p3 => r.mono (p2.trans p3)
    · exact snd_bool H H0 Lv O (e' :: es)
    · exact snd_bool H H0 Lv O (e' :: es)
    · exact Snd.pure fun ρ p3 => r.mono (p2.trans p3)
theorem snd_all (H : FSnd 𝒞 S T n F) (O : EnvOk Φ sc) {op : BoolOp} : ∀ (es : List Expr) {ρ₀ : RMap}, Snd 𝒞 S Φ n false ρ₀ (allM F sc op es) (allTrue op es Φ.env) (fun _ a b => a = b)
  | [], _ => by
    show Snd _ _ _ _ _ _ (pure _) (pure _) _
    exact Snd.pure fun ρ _ => by cases op <;> rfl
  | e :: es, ρ₀ => by
    show Snd 𝒞 S Φ n false ρ₀ (F.tr sc e >>= fun t => _) (isTrue e Φ.env (eval e Φ.env) >>= fun t => _) _
    refine Snd.bind (H.tr e O) fun ρ₁ t u p r => ?_
    subst r
    cases op <;> cases t
    · exact Snd.pure fun ρ _ => rfl
    · exact snd_all H O es
    · exact snd_all H O es
    · exact Snd.pure fun ρ _ => rfl
theorem base_ok {o : Expr} {name : Str} {env : Env} {w : Sem Value} (h : baseOk o = true) : attributeBase o name env w = w := by
  cases o with
  | Call z5 z6 z7 pos => 
    cases z5 with
    | Name id p => 
      cases z6 with
      | nil => 
        cases z7 with
        | nil => cases h
        | cons _ _ => rfl
      | cons _ _ => rfl
    | _ => rfl
  | _ => rfl
theorem snd_optE (H : FSnd 𝒞 S T n F) (O : EnvOk Φ sc) (e : Option Expr) : Snd 𝒞 S Φ n false ρ₀ (optE F sc e) (valueOrNone (evalOpt e Φ.env)) (fun ρ a v => VRep ρ (a.getD .none) v) := by
  cases e with
  | none => exact Snd.pure fun ρ _ => rfl
  | some e =>
    show Snd _ _ _ _ _ _ (F.ex sc e >>= fun v => pure (some v)) (eval e Φ.env) _
    have e0 : eval e Φ.env = (eval e Φ.env >>= pure) := by simp
    rw [e0]
    exact Snd.bind (H.ex e O) fun ρ₁ a v p r => Snd.pure fun ρ p2 => r.mono p2
theorem call_form {es : List Expr} {env : Env} {pos : Pos} (h1 : plainA es = true) (h2 : Nat.blt es.length 29 = true) :
    methodCallForm (es.length + ([] : List Keyword).length) (backTo pos (starEach es env)) (backToKw pos (keywordEach [] env)) = true := by
  unfold methodCallForm
  have h := plainA_any (env := env) (pos := pos) h1
  have h2' : es.length < 29 := by
    have := Nat.le_of_ble_eq_true h2
    omega
  have e1 : (backTo pos (starEach es env)).all (fun x => !x.1) = true := by
    rw [List.all_eq_true]
    intro x hx
    have := List.any_eq_false.mp h x hx
    simpa using this
  rw [e1]
  exact decide_eq_true (show es.length + 0 + 0 < 30 by omega)
theorem arm_item (H : FSnd 𝒞 S T n F) (H0 : FSnd AllC S T n F0) (Lv : Leaves 𝒞 ba S T) (O : EnvOk Φ sc) (o i : Expr) (pos : Pos) (hns : ∀ (l u : Option Expr) (p : Pos), i = .Slice l u none p → False) :
    Snd 𝒞 S Φ n false ρ₀ (do let ov ← F.ex sc o; let iv ← F.ex sc i; itemOwn T F0 ov iv) (eval (.Subscript o i pos) Φ.env) VRep := by
  have e0 : eval (.Subscript o i pos) Φ.env = (eval o Φ.env >>= fun o' => holding [o'] (eval i Φ.env) >>= fun i' => standAt pos >>= fun _ => subscriptTail o i o' i') := rfl
  rw [e0]
  exact Snd.bind (H.ex _ O) fun ρ₁ a v p r => Snd.bind (Snd.holding (H.ex _ O)) fun ρ₂ b w p2 r2 => Snd.standAt (Lv.item H0 (r.mono p2) r2 fun l r p q => hns l r p q)
theorem snd_exStep (Y : SysOk S T) (H : FSnd 𝒞 S T n F) (H0 : FSnd AllC S T n F0) (Lv : Leaves 𝒞 ba S T) (O : EnvOk Φ sc) (e : Expr) : Snd 𝒞 S Φ n false ρ₀ (exStep T ba F F0 sc e) (eval e Φ.env) VRep := by
  unfold exStep
  cases e with
  | Constant c _ _ => exact snd_const
  | Name x _ => exact snd_name Y O
  | BoolOp op vs _ => exact snd_bool H H0 Lv O _
  | BinOp l op r _ => exact Snd.bind (H.ex _ O) fun ρ₁ a v p r => Snd.bind (Snd.holding (H.ex _ O)) fun ρ₂ b w p2 r2 => Snd.standAt (Snd.operate (Lv.bin _ (r.mono p2) r2))
  | UnaryOp z1 x pos => 
    cases z1 with
    | Not => 
      show Snd _ _ _ _ _ _ _ (eval x Φ.env >>= fun v => standAt pos >>= fun _ => holding [v] (unaryOp .Not v)) _
      refine Snd.bind (H.ex _ O) fun ρ₁ a v p r => Snd.standAt (Snd.holding ?_)
      have e1 : unaryOp .Not v = holding [v] (truthy v >>= fun b => pure (Value.bool (!b))) := rfl
      rw [e1]
      refine Snd.holding (Snd.bind (Lv.truthy r) fun ρ₂ b w p2 r2 => Snd.pure fun ρ _ => ?_)
      subst r2; rfl
    | USub => 
      show Snd _ _ _ _ _ _ _ (eval x Φ.env >>= fun v => standAt pos >>= fun _ => holding [v] (unaryOp .USub v)) _
      refine Snd.bind (H.ex _ O) fun ρ₁ a v p r => Snd.standAt (Snd.holding ?_)
      split
      · exact Lv.neg r
      · exact Snd.stop
    | _ => exact Snd.stop
  | IfExp t a b pos => 
    show Snd _ _ _ _ _ _ _ (isTrue t Φ.env (eval t Φ.env) >>= fun c => if c then eval a Φ.env else eval b Φ.env) _
    refine Snd.bind (H.tr _ O) fun ρ₁ c c' p r => ?_
    subst r
    cases c with
    | true => exact H.ex _ O
    | false => exact H.ex _ O
  | Compare l ops rs pos => 
    show Snd _ _ _ _ _ _ _ (eval l Φ.env >>= fun a => compareChain pos a ops (markedEach ops rs (evalEach rs Φ.env))) _
    exact Snd.bind (H.ex _ O) fun ρ₁ a v p r => snd_chain H H0 Lv O _ _ r
  | Call z2 args z3 pos => 
    cases z2 with
    | Attribute o name apos => 
      cases z3 with
      | nil => 
        dsimp only
        split
        · rename_i h1 h2 h3
          rw [Bool.and_eq_true] at h1
          rw [arm_eval_Call, base_ok h1.1]
          refine Snd.bind (H.ex _ O) fun ρ₁ a v p r => Snd.standAt ?_
          unfold methodCall
          rw [call_form h1.2 h3]
          refine Snd.bind (Snd.holding (Lv.callee name _ r)) fun ρ₂ c q p2 r2 => ?_
          have hpos : methodCallPos true o Φ.env apos pos = pure pos := by
            unfold methodCallPos
            have : apos.endLine = pos.line := Nat.eq_of_beq_eq_true h2
            simp [this]
          cases c with
          | own f =>
            obtain ⟨rfl, hf⟩ := r2
            show Snd _ _ _ _ _ _ _ (methodCallPos true o Φ.env apos pos >>= _) _
            rw [hpos]
            refine Snd.tpure ?_
            show Snd _ _ _ _ _ _ (mapE (exM F sc) args >>= fun as => F.ca (.gl f) (a :: as)) (callWith pos (.ref f) [v] (backTo pos (starEach args Φ.env)) []) _
            refine snd_callWith (P := fun h => S.K.In h) (plainA_any h1.2) (fun h X => keeps_K (Y.calls f (.inl hf)) h X) (fun ρ kp frs objs s I => I.K Y) (snd_mapE H O args) fun ρ₃ as vs p3 r3 => (H.ca _ _ _ (.cons (r.mono (p2.trans p3)) r3)).snd
          | me m =>
            obtain ⟨id, rfl, hm⟩ := r2
            show Snd _ _ _ _ _ _ _ (methodCallPos true o Φ.env apos pos >>= _) _
            rw [hpos]
            refine Snd.tpure ?_
            show Snd _ _ _ _ _ _ (mapE (exM F sc) args >>= fun as => methM ba m a as) (callWith pos (.builtin id) [v] (backTo pos (starEach args Φ.env)) []) _
            exact snd_callWith (P := fun h => S.K.In h) (plainA_any h1.2) (fun h X => keeper_builtin id) (fun ρ kp frs objs s I => I.K Y) (snd_mapE H O args) fun ρ₃ as vs p3 r3 => hm (.inl rfl) p3 r3
        · exact Snd.stop
      | cons _ _ => exact Snd.stop
    | Name x np => 
      cases z3 with
      | nil => 
        dsimp only
        split
        · rename_i h1
          show Snd _ _ _ _ _ _ _ (eval (.Name x np) Φ.env >>= fun f => callWith pos f [] (backTo pos (starEach args Φ.env)) []) _
          refine Snd.bind (snd_name Y O) fun ρ₁ a v p r => ?_
          split
          · rename_i hc
            cases a with
            | bi b =>
              obtain rfl : v = biVal b := r
              exact snd_callWith (P := fun h => S.K.In h) (plainA_any h1) (fun h X => keeper_bi b) (fun ρ kp frs objs s I => I.K Y) (snd_mapE H O args) fun ρ₃ as vs p3 r3 => Lv.blt b r3
            | gl f =>
              obtain rfl : v = .ref f := r
              have hf : (lookA f T.fns).isSome = true ∨ (lookA f T.clss).isSome = true := Bool.or_eq_true_iff.mp hc
              exact snd_callWith (P := fun h => S.K.In h) (plainA_any h1) (fun h X => keeps_K (Y.calls f hf) h X) (fun ρ kp frs objs s I => I.K Y) (snd_mapE H O args) fun ρ₃ as vs p3 r3 => (H.ca _ _ _ r3).snd
            | _ => cases hc
          · exact Snd.stop
        · exact Snd.stop
      | cons _ _ => exact Snd.stop
    | _ => exact Snd.stop
  | Attribute o name pos => 
    dsimp only
    split
    · rename_i h1
      have e0 : eval (.Attribute o name pos) Φ.env = (attributeBase o name Φ.env (eval o Φ.env) >>= fun ov => standAt pos.atName >>= fun _ => holding [ov] (getAttr ov name true) >>= fun r => letTemporaryGo o ov r >>= fun _ => pure r) := rfl
      rw [e0, base_ok h1]
      refine Snd.bind (H.ex _ O) fun ρ₁ a v p r => Snd.standAt ?_
      exact Snd.letGo (Snd.holding (Lv.attr name true r))
    · exact Snd.stop
  | Subscript o i pos => 
    cases i with
    | Slice l u z4 sp => 
      cases z4 with
      | none => 
        have e0 : eval (.Subscript o (.Slice l u none sp) pos) Φ.env = (eval o Φ.env >>= fun o' => holding [o'] (eval (.Slice l u none sp) Φ.env) >>= fun i => standAt pos >>= fun _ => subscriptTail o (.Slice l u none sp) o' i) := rfl
        rw [e0]
        refine Snd.bind (H.ex _ O) fun ρ₁ a v p r => ?_
        have e1 : eval (.Slice l u none sp) Φ.env = (valueOrNone (evalOpt l Φ.env) >>= fun l' => holding [l'] (valueOrNone (evalOpt u Φ.env)) >>= fun u' => holding [l', u'] (pure .none) >>= fun s => newFields "slice" [l', u', s]) := rfl
        rw [e1]
        refine Snd.holdB (Snd.assocT (Snd.bind (snd_optE H O l) fun ρ₂ lv lw p2 r2 => Snd.assocT (Snd.bind (Snd.holding (snd_optE H O u)) fun ρ₃ uv uw p3 r3 => Snd.assocT (Snd.holdB (Snd.tpure ?_)))))
        exact Lv.slice (r.mono (p2.trans p3)) (r2.mono p3) r3
      | some _ => exact arm_item H H0 Lv O _ _ _ (fun _ _ _ h => by cases h)
    | _ => exact arm_item H H0 Lv O _ _ _ (fun _ _ _ h => by cases h)
  | List es pos => 
    show Snd _ _ _ _ _ _ _ (standAt pos >>= fun _ => spliced (backTo pos (starEach es Φ.env)) >>= fun vs => newList vs) _
    exact Snd.standAt (Snd.bind (snd_mapE H O es) fun ρ₁ as vs p r => Snd.need fun h => Lv.newL (of_decide_eq_true h) r)
  | Tuple es k pos => 
    show Snd _ _ _ _ _ _ _ (standAt pos >>= fun _ => spliced (backTo pos (starEach es Φ.env)) >>= fun vs => newTuple vs) _
    exact Snd.standAt (Snd.bind (snd_mapE H O es) fun ρ₁ as vs p r => Snd.need fun h => Lv.newT (of_decide_eq_true h) r)
  | _ => exact Snd.stop
end
end Mine
end

section
set_option maxRecDepth 100000
set_option linter.unusedVariables false
open PySem PySem.W PySem.Calls PyProof.Rows
namespace Mine
section
variable {𝒞 : Ctx → Prop} {S : Sys} {T : Tabs} {Φ : Frm} {n : Nat} {ρ₀ : RMap} {sc : Scope} {F F0 : Fns} {ba : Bool}
theorem arm_tr (H : FSnd 𝒞 S T n F) (Lv : Leaves 𝒞 ba S T) (O : EnvOk Φ sc) (e : Expr) (e0 : isTrue e Φ.env (eval e Φ.env) = (eval e Φ.env >>= fun v => standAt e.pos >>= fun _ => holding [v] (truthy v))) :
    Snd 𝒞 S Φ n false ρ₀ (F.ex sc e >>= fun v => truthyM v) (isTrue e Φ.env (eval e Φ.env)) (fun _ a b => a = b) := by
  rw [e0]
  exact Snd.bind (H.ex _ O) fun ρ₁ a v p r => Snd.standAt (Snd.holding (Lv.truthy r))
theorem snd_trStep (Y : SysOk S T) (H : FSnd 𝒞 S T n F) (H0 : FSnd AllC S T n F0) (Lv : Leaves 𝒞 ba S T) (O : EnvOk Φ sc) (e : Expr) : Snd 𝒞 S Φ n false ρ₀ (trStep T F F0 sc e) (isTrue e Φ.env (eval e Φ.env)) (fun _ a b => a = b) := by
  unfold trStep
  cases e with
  | UnaryOp z1 x pos => 
    cases z1 with
    | Not => 
      show Snd _ _ _ _ _ _ _ (isTrue x Φ.env (eval x Φ.env) >>= fun b => pure (!b)) _
      exact Snd.bind (H.tr _ O) fun ρ₁ a b p r => Snd.pure fun _ _ => by subst r; rfl
    | _ => exact arm_tr H Lv O _ rfl
  | BoolOp op vs _ => exact snd_all H O _
  | Compare l ops rs pos => 
    show Snd _ _ _ _ _ _ _ (eval l Φ.env >>= fun a => testChain pos a ops (markedEach ops rs (evalEach rs Φ.env))) _
    exact Snd.bind (H.ex _ O) fun ρ₁ a v p r => snd_test H H0 Lv O _ _ r
  | IfExp _ _ _ _ => exact Snd.stop
  | _ => exact arm_tr H Lv O _ rfl
theorem snd_execs (st : ∀ (s : Stmt) {ρ₀ : RMap}, Snd 𝒞 S Φ n false ρ₀ (stStep T ba F sc s) (exec s Φ.env) FlRep) : ∀ (l : List Stmt) {ρ₀ : RMap}, Snd 𝒞 S Φ n false ρ₀ (ssStep T ba F sc l) (execs l Φ.env) FlRep
  | [], _ => Snd.pure fun ρ _ => rfl
  | s :: r, ρ₀ => by
    show Snd _ _ _ _ _ _ (stStep T ba F sc s >>= fun f => match f with | .next => ssStep T ba F sc r | f => pure f) (exec s Φ.env >>= fun f => match f with | .next => execs r Φ.env | f => pure f) _
    refine Snd.bind (st s) fun ρ₁ f g p hr => ?_
    cases f with
    | next => obtain rfl : g = .next := hr; exact snd_execs st r
    | brk => obtain rfl : g = .brk := hr; exact Snd.pure fun _ _ => rfl
    | cont => obtain rfl : g = .cont := hr; exact Snd.pure fun _ _ => rfl
    | ret a => obtain ⟨v, rfl, hv⟩ := hr; exact Snd.pure fun ρ p => ⟨v, rfl, hv.mono p⟩
theorem snd_setLP (O : EnvOk Φ sc) {x : Str} (h : lookS x sc.names = some .local) {a : MV} {v : Value} (hv : VRep ρ₀ a v) {pos : Pos} : Snd 𝒞 S Φ n false ρ₀ (setL x a) (assign (.Name x pos) Φ.env v) (fun _ _ _ => True) := by
  show Snd _ _ _ _ _ _ _ (standAt pos >>= fun _ => bindName Φ.env x v) _
  exact Snd.standAt (snd_setL O h hv)
theorem EnvOk.inter (O : EnvOk Φ sc) : interactive Φ.env = false := by
  unfold interactive
  rw [O.scope, O.kind]; rfl
theorem allLocal_cons {x : Str} {p : Pos} {ts : List Expr} (hl : allLocal sc (.Name x p :: ts) = true) : lookS x sc.names = some .local ∧ allLocal sc ts = true := by
  have hl' : (match lookS x sc.names with
    | some .local => allLocal sc ts
    | _ => false) = true := hl
  cases q : lookS x sc.names with
  | none => rw [q] at hl'; cases hl'
  | some k => rw [q] at hl'; cases k <;> first | exact ⟨rfl, hl'⟩ | cases hl'
theorem snd_assignNames (O : EnvOk Φ sc) : ∀ (ts : List Expr) (as : List MV) (vs : List Value) {ρ₀ : RMap}, allLocal sc ts = true → VsRep ρ₀ as vs → Snd 𝒞 S Φ n false ρ₀ (bindAll ts as) (assignInOrder ((assignEach ts Φ.env).map (·.2)) vs) (fun _ _ _ => True)
  | [], [], _, _, _, .nil => Snd.pure fun _ _ => trivial
  | [], _ :: _, _, _, _, _ => Snd.stop
  | t :: ts, [], _, _, _, .nil => by
    cases t <;> exact Snd.stop
  | t :: ts, a :: as, _, ρ₀, hl, .cons (v := v) (vs := vs) h r => by
    cases t with
    | Name x p =>
      have hx := allLocal_cons hl
      show Snd _ _ _ _ _ _ (setL x a >>= fun _ => bindAll ts as) (holding vs (assign (.Name x p) Φ.env v) >>= fun _ => assignInOrder ((assignEach ts Φ.env).map (·.2)) vs) _
      exact Snd.bind (Snd.holding (snd_setLP O hx.1 h)) fun ρ₁ _ _ p _ => snd_assignNames O ts as vs hx.2 (r.mono p)
    | _ => exact Snd.stop
theorem findIdx_names : ∀ {ts : List Expr} {env : Env}, allLocal sc ts = true → (assignEach ts env).findIdx? (·.1) = none ∧ (assignEach ts env).length = ts.length
  | [], _, _ => ⟨rfl, rfl⟩
  | t :: ts, env, h => by
    cases t with
    | Name x p =>
      have hx := (allLocal_cons h).2
      obtain ⟨e1, e2⟩ := findIdx_names (env := env) hx
      have e : assignEach (.Name x p :: ts) env = (false, assign (.Name x p) env) :: assignEach ts env := rfl
      rw [e]
      exact ⟨by rw [List.findIdx?_cons]; simp [e1], by simp [e2]⟩
    | _ => cases h
theorem snd_unpack (O : EnvOk Φ sc) {ts : List Expr} (hl : allLocal sc ts = true) {i : Nat} {v : Value} (hv : VRep ρ₀ (.obj i) v) : Snd 𝒞 S Φ n false ρ₀ (getO i >>= fun o => match o with
      | .tup vs => do need (decide (vs.length = ts.length)) "unpack"; bindAll ts vs; pure .next
      | _ => stop "unpack") (unpack v (assignEach ts Φ.env) >>= fun _ => pure .next) FlRep := by
  refine Snd.getO fun A kp ρ objs loc s o p hp hA I ho hρ hr => ?_
  cases o with
  | tup xs =>
    refine At.need fun hlen => ?_
    have hlen : xs.length = ts.length := of_decide_eq_true hlen
    obtain ⟨q, hq, rfl⟩ := hv
    have : q = p := by have := pre_get hp hq; rw [hρ] at this; cases this; rfl
    subst this
    obtain ⟨_, vs, nn, hg, hvs⟩ := hr
    have hf := findIdx_names (env := Φ.env) hl
    intro orc Q E W
    have ht : s.heap.IsTuple q.1 vs.toArray := ⟨_, hg, rfl, _, rfl⟩
    have hsz : (assignEach ts Φ.env).length = vs.toArray.size := by rw [hf.2, ← hlen]; simp [hvs.length]
    unfold unpack
    rw [hf.1, hsz]
    refine wpC_bind (wpC_bind (wpC_holding (wpC_of (wpAny_unpackItems_tuple (hA.handled rfl) ht fun h' hs => ?_))))
    have hk : ∀ b o, s.heap.get? b = some o → h'.get? b = some o := fun b o e => hs b o (Nat.ne_of_lt (Heap.lt_size e)) e
    have I' := I.grow (t := s.toks) hk
    have W' := snd_assignNames (𝒞 := 𝒞) (S := S) (Φ := Φ) (n := n) O ts xs vs hl hvs A kp ρ ⟨objs, loc, orc⟩ { s with heap := h' } (fun _ s' => wpC 𝒞 (model pw S.w) A (pure Flow.next) Q E s') E (List.prefix_refl _) hA I' ?_
    · exact W'
    · have e : (bindAll ts xs >>= fun _ => (pure .next : EvM Fl)) ⟨objs, loc, orc⟩ = EvM.bind (bindAll ts xs) (fun _ => pure .next) ⟨objs, loc, orc⟩ := rfl
      rw [e] at W
      unfold EvM.bind at W
      cases qq : bindAll ts xs ⟨objs, loc, orc⟩ with
      | ok a st' ob =>
        rw [qq] at W
        exact ⟨W.preOk, fun ρ' v s' p' I' _ => wpC_pure (W.2 ρ' _ s' p' I' rfl)⟩
      | exc C st' ob => rw [qq] at W; exact W
      | bad w => rw [qq] at W; exact W.elim
  | _ => exact At.stop
theorem swaps_no {e : Expr} {t : Option Expr} {l : Nat} {env : Env} (h : plainV e = true) : swapsWith e t l env = pure false := by
  cases e <;> first | rfl | cases h
theorem exec_assign1 {t e : Expr} {pos : Pos} {env : Env} (h : plainV e = true) (hs : swappedStores [t] e env = pure none) : exec (.Assign [t] e pos) env = (standAt pos >>= fun _ => (pure false : Sem Bool) >>= fun b => if b then (do
      evalThenUse e env fun v => assignAll v ((assignEach [t] env).map (·.2))
      pure .next) else (eval e env >>= fun v => (pure (none : Option (List Str)) : Sem (Option (List Str))) >>= fun w => assignStores env v w ((assignEach [t] env).map (·.2)))) := by
  have e0 : exec (.Assign [t] e pos) env = (standAt pos >>= fun _ => swapsWithSole [t] e pos.line env >>= fun b => if b then (do
      evalThenUse e env fun v => assignAll v ((assignEach [t] env).map (·.2))
      pure .next) else (eval e env >>= fun v => swappedStores [t] e env >>= fun w => assignStores env v w ((assignEach [t] env).map (·.2)))) := rfl
  have e1 : swapsWithSole [t] e pos.line env = pure false := swaps_no h
  rw [e0, e1, hs]
theorem snd_assign1 {t e : Expr} {pos : Pos} {m : EvM MV} {f : MV → EvM Fl} (h : plainV e = true) (hs : swappedStores [t] e Φ.env = pure none) (ht : ∀ x p, t ≠ .Starred x p) (he : Snd 𝒞 S Φ n false ρ₀ m (eval e Φ.env) VRep)
    (k : ∀ ρ₁ a v, ρ₀ <+: ρ₁ → VRep ρ₁ a v → Snd 𝒞 S Φ n false ρ₁ (f a) (assign t Φ.env v >>= fun _ => pure .next) FlRep) : Snd 𝒞 S Φ n false ρ₀ (m >>= f) (exec (.Assign [t] e pos) Φ.env) FlRep := by
  rw [exec_assign1 h hs]
  refine Snd.standAt (Snd.tpure ?_)
  show Snd _ _ _ _ _ _ _ (eval e Φ.env >>= _) _
  refine Snd.bind he fun ρ₁ a v p r => Snd.tpure ?_
  have e1 : (assignEach [t] Φ.env).map (·.2) = [assign t Φ.env] := by
    cases t <;> first | rfl | exact absurd rfl (ht _ _)
  rw [e1]
  exact k ρ₁ a v p r
end
end Mine
end

section
set_option maxRecDepth 100000
set_option linter.unusedVariables false
open PySem PySem.W PySem.Calls PyProof.Rows
namespace Mine

section
variable {S : Sys} {ρ : RMap} {kp : List (Addr × Obj)} {frs : List (Addr × Loc)} {objs : List MO} {s : Shared}
theorem Stn.after (I : Stn S ρ kp frs objs s) {hid : List Addr} {h' : Heap} (hh : ∀ b ∈ hid, b ∈ frs.map (·.1) ∨ (S.B.get? b = none ∧ b ∉ tracked ρ kp frs))
    (hb : ∀ b o, (hideAll s.heap hid).get? b = some o → h'.get? b = some o) (hu : s.heap.UpToSlots h') : Stn S ρ kp frs objs { s with heap := h' } := by
  have hA := I.apart
  have hA2 := List.nodup_append.mp hA
  have off : ∀ b ∈ kp.map (·.1) ++ addrs ρ, b ∉ hid := fun b hm hx => by
    rcases hh b hx with h | h
    · exact hA2.2.2 b h b hm rfl
    · exact h.2 (List.mem_append_right _ hm)
  refine ⟨fun b o e => hb b o (hideAll_get _ (I.base b o e) fun hx => ?_), I.len, fun i o e => ?_, fun f hf => ?_, fun p hp => hb _ _ (hideAll_get _ (I.kept p hp) (off _ (List.mem_append_left _ (List.mem_map_of_mem hp)))), I.apart, I.fresh, I.gens, I.os, I.high⟩
  · rcases hh b hx with h | h
    · have := I.fresh b (List.mem_append_left _ h); rw [e] at this; cases this
    · rw [e] at h; cases h.1
  · obtain ⟨p, hp, r⟩ := I.obj i o e
    exact ⟨p, hp, r.mono (List.prefix_refl _) fun b ob hm q => hb b ob (hideAll_get _ q (off b (List.mem_append_right _ (mem_addrs.mpr ⟨i, p, hp, hm⟩))))⟩
  · exact (I.frm f hf).mono (List.prefix_refl _) fun m hm => hu.ns hm
theorem stays_hide {h : Heap} {l : List Addr} : (hideAll h l).StaysIn h := fun b o e => of_hideAll _ e
theorem funFrames_at {h base : Heap} : ∀ {frs : List (Addr × Loc)} (hb : ∀ b ∈ frs.map (·.1), base.get? b = none) (hf : ∀ f ∈ frs, ∃ m, h.Ns f.1 m) {l : List Env}, EnvsAt l frs → h.FunFrames base l
  | _, _, _, [], _ => trivial
  | [], _, _, _ :: _, he => he.elim
  | f :: fs, hb, hf, env :: l, he => by
    obtain ⟨h1, h2, h3, h4⟩ := he
    obtain ⟨m, o, es, ep, ho, hd, _⟩ := hf f (.head _)
    refine ⟨by rw [h1]; decide, ⟨f.1, o, h2, hb _ (.head _), ho, fun vs q => by rw [hd] at q; cases q⟩, ?_⟩
    exact funFrames_at (fun b hm => hb b (.tail _ hm)) (fun f hm => hf f (.tail _ hm)) h4
theorem EnvsAt.loc : ∀ {l : List Env} {a b : List (Addr × Loc)}, a.map (·.1) = b.map (·.1) → EnvsAt l a → EnvsAt l b
  | [], [], [], _, h => h
  | [], [], _ :: _, e, h => by cases e
  | [], _ :: _, _, _, h => h.elim
  | _ :: _, [], _, _, h => h.elim
  | _ :: _, _ :: _, [], e, h => by cases e
  | env :: l, f :: fs, g :: gs, e, h => by
    simp only [List.map_cons, List.cons.injEq] at e
    exact ⟨h.1, by rw [← e.1]; exact h.2.1, by rw [← e.1]; exact h.2.2.1, EnvsAt.loc e.2 h.2.2.2⟩
variable {Φ : Frm} {st : St} {C e : Addr} {n : Nat} {hd : Bool} {A : Around} {E : Value → Shared → Prop}
theorem AOk.envsAt (hA : AOk Φ A n hd) : EnvsAt (Φ.env :: Φ.envs) ((Φ.L, st.loc) :: Φ.outer) := EnvsAt.loc rfl hA.envs
theorem Stn.frNs (I : Stn S ρ kp frs objs s) : ∀ f ∈ frs, ∃ m, s.heap.Ns f.1 m := fun f hf => let ⟨m, h, _⟩ := I.frm f hf; ⟨m, h⟩
theorem traced_off {hid : List Addr} {h' : Heap} {cls a0 fl : Value} (I : Stn S ρ kp ((Φ.L, st.loc) :: Φ.outer) st.objs s) (hid1 : ∀ b ∈ hid, b ∈ ((Φ.L, st.loc) :: Φ.outer).map (·.1) ∨ (S.B.get? b = none ∧ b ∉ tracked ρ kp ((Φ.L, st.loc) :: Φ.outer)))
    (I' : Stn S ρ kp ((Φ.L, st.loc) :: Φ.outer) st.objs { s with heap := h' }) (he : S.B.get? e = none ∧ e ∉ tracked ρ kp ((Φ.L, st.loc) :: Φ.outer)) (hT : h'.TracedAtW (hideAll s.heap hid) e cls a0 fl) :
    ∃ oe vs T oT ts, h'.get? e = some oe ∧ oe.cls = cls ∧ oe.data = .fields vs ∧ vs[0]? = some a0 ∧ vs[1]? = some (.ref T) ∧ S.B.get? e = none ∧ e ∉ tracked ρ kp ((Φ.L, st.loc) :: Φ.outer) ∧
      T ≠ e ∧ S.B.get? T = none ∧ T ∉ tracked ρ kp ((Φ.L, st.loc) :: Φ.outer) ∧ h'.get? T = some oT ∧ oT.data = .fields ts ∧ ts[3]? = some fl := by
  obtain ⟨oe, vs, T, oT, ts, g1, ⟨g2, g3⟩, g4, g5, g6, g7, g8, g9, g10⟩ := hT
  have hA2 := List.nodup_append.mp I.apart
  refine ⟨oe, vs, T, oT, ts, g1, g2, g4, g3, g5, he.1, he.2, g7, ?_, fun hm => ?_, g8, g9, g10⟩
  · cases q : S.B.get? T with
    | none => rfl
    | some o =>
      have := hideAll_get hid (I.base T o q) fun hx => by
        rcases hid1 T hx with h | h
        · have := I.fresh T (List.mem_append_left _ h); rw [q] at this; cases this
        · rw [q] at h; cases h.1
      rw [g6] at this; cases this
  · rcases List.mem_append.mp hm with hm | hm
    · obtain ⟨f, hf, rfl⟩ := List.mem_map.mp hm
      obtain ⟨m, o, es, ep, ho, hd, _⟩ := I'.frNs f hf
      have ho : h'.get? f.1 = some o := ho
      rw [g8] at ho; cases ho
      rw [hd] at g9; cases g9
    · obtain ⟨o, ho⟩ := I.there (List.mem_append_right _ hm)
      have := hideAll_get hid ho fun hx => by
        rcases hid1 T hx with h | h
        · exact hA2.2.2 T h T hm rfl
        · exact h.2 (List.mem_append_right _ hm)
      rw [g6] at this; cases this
theorem hid_frames {l : List Addr} (h : ∀ b ∈ l, S.B.get? b = none ∧ b ∉ tracked ρ kp frs) : ∀ b ∈ frs.map (·.1) ++ l, b ∈ frs.map (·.1) ∨ (S.B.get? b = none ∧ b ∉ tracked ρ kp frs) := fun b hb => by
  rcases List.mem_append.mp hb with hb | hb
  · exact .inl hb
  · exact .inr (h b hb)
theorem noted_any {Q : Unit → Shared → Prop} {M : Model} (hA : A.frames = some (Φ.env :: Φ.envs)) (hE : EnvsAt (Φ.env :: Φ.envs) ((Φ.L, st.loc) :: Φ.outer)) (X : StnX S ρ kp Φ st C e s) (h : ∀ s', StnG S ρ kp Φ st C e .held s' → Q () s') :
    wpAny M A (noteFrame (.ref e) Φ.env) Q E s := by
  obtain ⟨g, I, x⟩ := X.g
  have hf : Φ.env.frame = some Φ.L := hE.2.1
  cases g with
  | held =>
    obtain ⟨oe, vs, a0, T, oT, ts, g1, g2, g3, g4, g5, g6, g7, g8, g9, g10, g11, g12, g13⟩ := id x
    exact wpAny_noteFrame_againW (base := hideAll s.heap [T]) (cls := .ref C) (a0 := a0) hf ⟨oe, vs, T, oT, ts, g1, ⟨g2, g4⟩, g3, g5, hideAll_none _ (.head _), g8, g11, g12, g13⟩ (h s ⟨I, x⟩)
  | fly =>
    obtain ⟨oe, vs, a0, T, oT, ts, g1, g2, g3, g4, g5, g6, g7, g8, g9, g10, g11, g12, g13⟩ := id x
    have hid1 := hid_frames (S := S) (ρ := ρ) (kp := kp) (frs := (Φ.L, st.loc) :: Φ.outer) (l := [e, T]) fun b hb => by
      rcases List.mem_cons.mp hb with rfl | hb
      · exact ⟨g6, g7⟩
      · rw [List.mem_singleton.mp hb]; exact ⟨g9, g10⟩
    have hn : ∀ b ∈ ((Φ.L, st.loc) :: Φ.outer).map (·.1) ++ [e, T], (hideAll s.heap (((Φ.L, st.loc) :: Φ.outer).map (·.1) ++ [e, T])).get? b = none := fun b hb => hideAll_none _ hb
    refine wpAny_noteFrame_onW (base := hideAll s.heap (((Φ.L, st.loc) :: Φ.outer).map (·.1) ++ [e, T])) (cls := .ref C) (a0 := a0) hA (funFrames_at (fun b hm => hn b (List.mem_append_left _ hm)) I.frNs hE) hf
      ⟨oe, vs, T, oT, ts, g1, ⟨g2, g4⟩, g3, g5, hn T (List.mem_append_right _ (.tail _ (.head _))), g8, g11, g12, g13⟩ stays_hide (hn e (List.mem_append_right _ (.head _))) fun h' hN => ?_
    obtain ⟨k1, k2, k3, k4⟩ := hN
    have I' := I.after (h' := h') hid1 k1 k4
    obtain ⟨oe', vs', T', oT', ts', z⟩ := traced_off I hid1 I' ⟨g6, g7⟩ k3
    exact h _ ⟨I', oe', vs', a0, T', oT', ts', z⟩
  | fresh =>
    obtain ⟨oe, vs, a0, g1, g2, g3, g4, g5, g6, g7⟩ := id x
    have hid1 := hid_frames (S := S) (ρ := ρ) (kp := kp) (frs := (Φ.L, st.loc) :: Φ.outer) (l := [e]) fun b hb => by
      rw [List.mem_singleton.mp hb]; exact ⟨g6, g7⟩
    have hn : ∀ b ∈ ((Φ.L, st.loc) :: Φ.outer).map (·.1) ++ [e], (hideAll s.heap (((Φ.L, st.loc) :: Φ.outer).map (·.1) ++ [e])).get? b = none := fun b hb => hideAll_none _ hb
    unfold noteFrame
    simp only [hf]
    refine wpAny_bind (wpAny_field g1 g3 g5 ?_)
    rw [if_neg (by decide)]
    refine wpAny_entryW (base := hideAll s.heap (((Φ.L, st.loc) :: Φ.outer).map (·.1) ++ [e])) hA (funFrames_at (fun b hm => hn b (List.mem_append_left _ hm)) I.frNs hE) hf g1 stays_hide
      (hn e (List.mem_append_right _ (.head _))) g3 (Array.getElem?_eq_some_iff.mp g5).1 g4 fun h' hN => ?_
    obtain ⟨k1, k2, k3, k4⟩ := hN
    have I' := I.after (h' := h') hid1 k1 k4
    rw [g2] at k3
    obtain ⟨oe', vs', T', oT', ts', z⟩ := traced_off I hid1 I' ⟨g6, g7⟩ k3
    exact h _ ⟨I', oe', vs', a0, T', oT', ts', z⟩
theorem flight_set {Q : Unit → Shared → Prop} {M : Model} {fr : Option Addr} {g : Stage} {g₀ : Stage} (hg₀ : g₀ ≠ .fresh) (X : StnG S ρ kp Φ st C e g₀ s) (hg : (fr = none ∧ g = .fly) ∨ (fr = some Φ.L ∧ g = .held)) (h : ∀ s', StnG S ρ kp Φ st C e g s' → Q () s') :
    wpAny M A (setFlight (.ref e) fr) Q E s := by
  obtain ⟨I, x⟩ := X
  have x' : ∃ oe vs a0 T oT ts fl, s.heap.get? e = some oe ∧ oe.cls = .ref C ∧ oe.data = .fields vs ∧ vs[0]? = some a0 ∧ vs[1]? = some (.ref T) ∧ S.B.get? e = none ∧ e ∉ tracked ρ kp ((Φ.L, st.loc) :: Φ.outer) ∧
      T ≠ e ∧ S.B.get? T = none ∧ T ∉ tracked ρ kp ((Φ.L, st.loc) :: Φ.outer) ∧ s.heap.get? T = some oT ∧ oT.data = .fields ts ∧ ts[3]? = some fl := by
    cases g₀ with
    | fresh => exact absurd rfl hg₀
    | fly => obtain ⟨oe, vs, a0, T, oT, ts, z⟩ := id x; exact ⟨oe, vs, a0, T, oT, ts, _, z⟩
    | held => obtain ⟨oe, vs, a0, T, oT, ts, z⟩ := id x; exact ⟨oe, vs, a0, T, oT, ts, _, z⟩
  obtain ⟨oe, vs, a0, T, oT, ts, fl, g1, g2, g3, g4, g5, g6, g7, g8, g9, g10, g11, g12, g13⟩ := x'
  have hsz : 3 < ts.size := (Array.getElem?_eq_some_iff.mp g13).1
  unfold setFlight
  refine wpAny_bind (wpAny_field g1 g3 g5 ?_)
  rw [if_pos (show (Value.ref T != Value.none) = true from by simp)]
  refine wpAny_setField g11 g12 hsz (h _ ?_)
  have other : ∀ b, b ≠ T → (s.heap.update T (Obj.mapFields (·.setIfInBounds 3 (fr.elim Value.none fun f => rawInt f)))).get? b = s.heap.get? b := fun b hb => Heap.get?_update_other _ _ (Ne.symm hb)
  have I' : Stn S ρ kp ((Φ.L, st.loc) :: Φ.outer) st.objs { s with heap := s.heap.update T (Obj.mapFields (·.setIfInBounds 3 (fr.elim Value.none fun f => rawInt f))) } := by
    refine I.after (hid := [T]) (fun b hb => .inr (by rw [List.mem_singleton.mp hb]; exact ⟨g9, g10⟩)) (fun b o q => ?_) fun b o q hn => ?_
    · have hb : b ≠ T := fun z => by rw [z, hideAll_none _ (.head _)] at q; cases q
      exact (other b hb).trans (of_hideAll _ q)
    · have hb : b ≠ T := fun z => by rw [z, g11] at q; cases q; exact hn _ g12
      exact ⟨o.slots, (other b hb).trans q⟩
  have hd' := Obj.data_mapFields g12 (·.setIfInBounds 3 (fr.elim Value.none fun f => rawInt f))
  have hT' := Heap.get?_update_self (Obj.mapFields (·.setIfInBounds 3 (fr.elim Value.none fun f => rawInt f))) g11 (Obj.isFreed_of_fields hd')
  rcases hg with ⟨rfl, rfl⟩ | ⟨rfl, rfl⟩
  · exact ⟨I', oe, vs, a0, T, _, _, (other e (Ne.symm g8)).trans g1, g2, g3, g4, g5, g6, g7, g8, g9, g10, hT', hd', by simp [hsz]⟩
  · exact ⟨I', oe, vs, a0, T, _, _, (other e (Ne.symm g8)).trans g1, g2, g3, g4, g5, g6, g7, g8, g9, g10, hT', hd', by simp [hsz]⟩
theorem noted_X {M : Model} (hA : A.frames = some (Φ.env :: Φ.envs)) (hE : EnvsAt (Φ.env :: Φ.envs) ((Φ.L, st.loc) :: Φ.outer)) (X : StnX S ρ kp Φ st C e s) (h : ∀ s', StnG S ρ kp Φ st C e .held s' → E (.ref e) s') : notedBy M A Φ.env E (.ref e) s :=
  noted_any hA hE X h
theorem came_X {M : Model} (hf : Φ.env.frame = some Φ.L) (X : StnG S ρ kp Φ st C e .held s) (h : ∀ s', StnG S ρ kp Φ st C e .held s' → E (.ref e) s') : cameBackBy M A Φ.env E (.ref e) s := by
  obtain ⟨oe, vs, a0, T, oT, ts, g1, g2, g3, g4, g5, _⟩ := X.exc
  unfold cameBackBy
  refine wpAny_bind (wpAny_field g1 g3 g5 ?_)
  rw [if_neg (show ¬ (Value.ref T == Value.none) = true from by simp)]
  exact flight_set (by intro q; cases q) X (.inr ⟨hf, rfl⟩) h
theorem leave_X {Q : Unit → Shared → Prop} {M : Model} (hA : A.frames = some (Φ.env :: Φ.envs)) (hE : EnvsAt (Φ.env :: Φ.envs) ((Φ.L, st.loc) :: Φ.outer)) (X : StnX S ρ kp Φ st C e s) (h : ∀ s', StnG S ρ kp Φ st C e .fly s' → Q () s') :
    wpAny M A (leaving Φ.env (.ref e)) Q E s :=
  wpAny_bind (noted_any hA hE X fun s' X' => flight_set (by intro q; cases q) X' (.inl ⟨rfl, rfl⟩) h)
end
end Mine
end

section
set_option maxRecDepth 100000
set_option linter.unusedVariables false
open PySem PySem.W PySem.Calls PyProof.Rows
namespace Mine

section
variable {S : Sys} {ρ : RMap} {kp : List (Addr × Obj)} {frs : List (Addr × Loc)} {objs : List MO} {s : Shared}
theorem Stn.dropBut {D : Addr} {o : Obj} (I : Stn S ρ ((D, o) :: kp) frs objs s) {h' : Heap} {t : Nat} (hs : Heap.ExtBut D s.heap h') : Stn S ρ kp frs objs { s with heap := h', toks := t } := by
  have hA := List.nodup_cons.mp (nodup_mid.mp (by have := I.apart; rwa [List.map_cons, List.cons_append] at this))
  have hne : ∀ x ∈ frs.map (·.1) ++ (kp.map (·.1) ++ addrs ρ), x ≠ D := fun x hx e => hA.1 (e ▸ hx)
  have U := I.unkeep
  refine ⟨fun b o' e => ?_, I.len, fun j o' e => ?_, fun f hf => ?_, fun q hq => ?_, U.apart, U.fresh, I.gens, I.os, I.high⟩
  · refine hs b o' (fun hb => ?_) (I.base b o' e)
    have := I.fresh D (by simp)
    rw [← hb, e] at this; cases this
  · obtain ⟨q, hq, r⟩ := I.obj j o' e
    exact ⟨q, hq, r.mono (List.prefix_refl _) fun b ob hb => hs b ob (hne b (List.mem_append_right _ (List.mem_append_right _ (mem_addrs.mpr ⟨j, q, hq, hb⟩))))⟩
  · refine (I.frm f hf).mono (List.prefix_refl _) fun m hm => ?_
    obtain ⟨ob, es, ep, ho, r⟩ := hm
    exact ⟨ob, es, ep, hs _ _ (hne _ (List.mem_append_left _ (List.mem_map_of_mem hf))) ho, r⟩
  · exact hs _ _ (hne _ (List.mem_append_right _ (List.mem_append_left _ (List.mem_map_of_mem hq)))) (I.kept q (.tail _ hq))
theorem ExcAt.less {T T' : List Addr} (h : ∀ x ∈ T', x ∈ T) {L : Addr} {hp : Heap} {C e : Addr} {g : Stage} (q : ExcAt S T L hp C e g) : ExcAt S T' L hp C e g := by
  cases g with
  | fresh => obtain ⟨oe, vs, a0, g1, g2, g3, g4, g5, g6, g7⟩ := q; exact ⟨oe, vs, a0, g1, g2, g3, g4, g5, g6, fun z => g7 (h _ z)⟩
  | fly => obtain ⟨oe, vs, a0, T, oT, ts, g1, g2, g3, g4, g5, g6, g7, g8, g9, g10, g11⟩ := q; exact ⟨oe, vs, a0, T, oT, ts, g1, g2, g3, g4, g5, g6, fun z => g7 (h _ z), g8, g9, fun z => g10 (h _ z), g11⟩
  | held => obtain ⟨oe, vs, a0, T, oT, ts, g1, g2, g3, g4, g5, g6, g7, g8, g9, g10, g11⟩ := q; exact ⟨oe, vs, a0, T, oT, ts, g1, g2, g3, g4, g5, g6, fun z => g7 (h _ z), g8, g9, fun z => g10 (h _ z), g11⟩
theorem StnX.unkeep {Φ : Frm} {st : St} {C e : Addr} {p : Addr × Obj} (X : StnX S ρ (p :: kp) Φ st C e s) : StnX S ρ kp Φ st C e s := by
  obtain ⟨I, g, x⟩ := X
  refine ⟨I.unkeep, g, x.less fun y hy => ?_⟩
  rcases List.mem_append.mp hy with hy | hy
  · exact List.mem_append_left _ hy
  · exact List.mem_append_right _ (.tail _ hy)
end

section
variable {α β γ δ : Type} {S : Sys} {Φ : Frm} {ρ : RMap} {kp kp' : List (Addr × Obj)} {Q : δ → Shared → Prop} {E : Value → Shared → Prop} {R : RMap → γ → δ → Prop} {R₁ : RMap → α → β → Prop}
theorem Wp.bindK {m : EvM α} {f : α → EvM γ} {st : St} (hk : ∀ ρ st C e s, StnX S ρ kp' Φ st C e s → StnX S ρ kp Φ st C e s) (W : Wp S kp Φ R ρ ((m >>= f) st) Q E) :
    Wp S kp' Φ R₁ ρ (m st) (fun v s' => ∃ a st' ρ', ρ <+: ρ' ∧ Stn S ρ' kp' ((Φ.L, st'.loc) :: Φ.outer) st'.objs s' ∧ R₁ ρ' a v ∧ Wp S kp Φ R ρ' (f a st') Q E) E := by
  have e : (m >>= f) st = EvM.bind m f st := rfl
  rw [e] at W
  unfold EvM.bind at W
  cases q : m st with
  | ok a st' ob =>
    rw [q] at W
    exact ⟨W.preOk, fun ρ' v s' p' I' r => ⟨a, st', ρ', p', I', r, W.pre p'⟩⟩
  | exc C st' ob => rw [q] at W; exact ⟨W.1, fun ρ' e s' p' X => W.2 ρ' e s' p' (hk _ _ _ _ _ X)⟩
  | bad w => rw [q] at W; exact W.elim
theorem Wp.noted {A A' : Around} {M : Model} {o : Out α} {Q : β → Shared → Prop} (hA : A'.frames = some (Φ.env :: Φ.envs)) (hE : EnvsAt (Φ.env :: Φ.envs) ((Φ.L, []) :: Φ.outer)) (W : Wp S kp Φ R₁ ρ o Q E) :
    Wp S kp Φ R₁ ρ o Q (notedBy M A' Φ.env (cameBackBy M A Φ.env E)) := by
  cases o with
  | ok a st' ob => exact W
  | exc C st' ob => exact ⟨W.1, fun ρ' e s' p' X => noted_X hA (EnvsAt.loc rfl hE) X fun s'' X' => came_X hE.2.1 X' fun s₃ X'' => W.2 ρ' e s₃ p' X''.x⟩
  | bad w => exact W
theorem Wp.to {o : Out α} {Q Q' : β → Shared → Prop} {E' : Value → Shared → Prop} (W : Wp S kp Φ R₁ ρ o Q E) (hQ : ∀ v s, Q v s → Q' v s) (hE : ∀ e s, E e s → E' e s) : Wp S kp Φ R₁ ρ o Q' E' := by
  cases o with
  | ok a st' ob => exact ⟨W.1, fun ρ' v s' p' I' r => hQ _ _ (W.2 ρ' v s' p' I' r)⟩
  | exc C st' ob => exact ⟨W.1, fun ρ' e s' p' X => hE _ _ (W.2 ρ' e s' p' X)⟩
  | bad w => exact W
theorem Wp.dec {b : Bool} {f : Bool → EvM γ} {st : St} (W : Wp S kp Φ R ρ ((dec b >>= f) st) Q E) : ∃ r, Wp S kp Φ R ρ (f b { st with orc := r }) Q E := by
  have e : (Mine.dec b >>= f) st = EvM.bind (Mine.dec b) f st := rfl
  rw [e] at W
  unfold EvM.bind Mine.dec at W
  cases q : st.orc with
  | nil => simp only [q] at W; exact W.elim
  | cons x r =>
    cases x with
    | none =>
      simp only [q] at W
      cases b with
      | true => exact ⟨r, W.pre (List.prefix_refl _)⟩
      | false => exact ⟨r, W.pre (List.prefix_refl _)⟩
    | some c =>
      simp only [q] at W
      have hb : b = c := by have := W.preOk; exact this.1
      subst hb
      exact ⟨r, W.pre (List.prefix_refl _)⟩
theorem Wp.need {b : Bool} {why : String} {f : Unit → EvM γ} {st : St} (W : Wp S kp Φ R ρ ((need b why >>= f) st) Q E) : b = true ∧ ∃ r, Wp S kp Φ R ρ (f () { st with orc := r }) Q E := by
  have e : (Mine.need b why >>= f) = (Mine.dec b >>= fun c => match c with | true => f () | false => Mine.stop why) := by
    rw [Mine.need, ev_assoc]
    congr 1
    funext c
    cases c with
    | true => exact ev_pure _ _
    | false => rfl
  rw [e] at W
  obtain ⟨r, W⟩ := W.dec
  cases b with
  | true => exact ⟨rfl, r, W⟩
  | false => exact W.elim
theorem Wp.getO {i : Nat} {f : MO → EvM γ} {st : St} (W : Wp S kp Φ R ρ ((getO i >>= f) st) Q E) : ∃ o, st.objs[i]? = some o ∧ Wp S kp Φ R ρ (f o st) Q E := by
  have e : (Mine.getO i >>= f) st = EvM.bind (Mine.getO i) f st := rfl
  rw [e] at W
  unfold EvM.bind Mine.getO at W
  cases q : st.objs[i]? with
  | none => simp only [q] at W; exact W.elim
  | some o => simp only [q] at W; exact ⟨o, rfl, W.pre (List.prefix_refl _)⟩
end

noncomputable def ItRep (ρ : RMap) : It → Obj → Prop
  | .seq t i k, o => ∃ p : Addr × Option Addr, ρ[i]? = some p ∧ o.cls = .type (if t then "tuple_iterator" else "list_iterator") ∧ o.data = .fields #[.ref p.1, .int k 0]
  | .byt b k, o => ∃ t, o.cls = .type "bytes_iterator" ∧ o.data = .fields #[.bytes b.toArray t, .int k 0]
  | .rng x l c, o => o = { cls := .type "range_iterator", dict := none, data := .fields #[rawInt x, rawInt l, rawInt c], slots := #[] }
theorem ItRep.mono {ρ ρ' : RMap} (h : ρ <+: ρ') : ∀ {it : It} {o : Obj}, ItRep ρ it o → ItRep ρ' it o
  | .seq _ _ _, _, ⟨p, e, r⟩ => ⟨p, pre_get h e, r⟩
  | .byt _ _, _, x => x
  | .rng _ _ _, _, x => x

section
variable {γ δ : Type} {S : Sys} {Φ : Frm} {ρ : RMap} {kp : List (Addr × Obj)} {Q : δ → Shared → Prop} {E : Value → Shared → Prop} {R : RMap → γ → δ → Prop} {A : Around} {st : St} {s : Shared} {E' : Value → Shared → Prop}
theorem iter_at {a : MV} {v : Value} {f : It → EvM γ} (I : Stn S ρ kp ((Φ.L, st.loc) :: Φ.outer) st.objs s) (hv : VRep ρ a v) (W : Wp S kp Φ R ρ ((iterM a >>= f) st) Q E) :
    wpAny (model pw S.w) A (pyIter v) (fun itv s' => ∃ it o itm orc, itv = .ref it ∧ Stn S ρ ((it, o) :: kp) ((Φ.L, st.loc) :: Φ.outer) st.objs s' ∧ ItRep ρ itm o ∧ Wp S kp Φ R ρ (f itm { st with orc := orc }) Q E) E' s := by
  have hnone : s.heap.get? s.heap.objs.size = none := Heap.get?_none_of_le (Nat.le_refl _)
  have hpush : ∀ o' b o, s.heap.get? b = some o → (s.heap.push o').get? b = some o := fun o' b o e => Heap.get?_push_of_some o' e
  cases a with
  | bytes b =>
    obtain ⟨t, rfl⟩ := hv
    have e : (iterM (.bytes b) >>= f) = f (.byt b 0) := ev_pure _ _
    rw [e] at W
    exact KBw.pyIter_bytes ⟨_, _, .byt b 0, st.orc, rfl, I.keep (hpush _) hnone (Heap.get?_push_size _ rfl), ⟨t, rfl, rfl⟩, W⟩
  | obj i =>
    obtain ⟨p, hp, rfl⟩ := hv
    have e : (iterM (.obj i) >>= f) = (getO i >>= fun o => (match o with
        | .list _ => pure (.seq false i 0)
        | .tup _ => pure (.seq true i 0)
        | .range a b c => do need (Builtin.Range.small a b c) "range"; pure (.rng a (Builtin.Range.rangeSize a b c) c)
        | _ => stop "iterable") >>= f) := ev_assoc _ _ _
    rw [e] at W
    obtain ⟨o, ho, W⟩ := W.getO
    obtain ⟨p', hp', hr⟩ := I.obj i o ho
    rw [hp] at hp'; cases hp'
    cases o with
    | list xs =>
      obtain ⟨_, vs, nn, hg, hvs⟩ := hr
      exact wpAny_pyIter_list ⟨_, hg, rfl, _, rfl⟩ ⟨_, _, .seq false i 0, st.orc, rfl, I.keep (hpush _) hnone (Heap.get?_push_size _ rfl), ⟨p, hp, rfl, rfl⟩, by rw [ev_pure] at W; exact W⟩
    | tup xs =>
      obtain ⟨_, vs, nn, hg, hvs⟩ := hr
      exact wpAny_pyIter_tuple ⟨_, hg, rfl, _, rfl⟩ ⟨_, _, .seq true i 0, st.orc, rfl, I.keep (hpush _) hnone (Heap.get?_push_size _ rfl), ⟨p, hp, rfl, rfl⟩, by rw [ev_pure] at W; exact W⟩
    | range a b c =>
      obtain ⟨_, t, u, v, hg⟩ := hr
      have e2 : ((do need (Builtin.Range.small a b c) "range"; pure (.rng a (Builtin.Range.rangeSize a b c) c) : EvM It) >>= f) = (need (Builtin.Range.small a b c) "range" >>= fun _ => f (.rng a (Builtin.Range.rangeSize a b c) c)) := by
        rw [ev_assoc]; congr 1; funext _; exact ev_pure _ _
      rw [e2] at W
      obtain ⟨hs, r, W⟩ := W.need
      exact wpAny_pyIter_range hg hs ⟨_, _, .rng a _ c, r, rfl, I.keep (hpush _) hnone (Heap.get?_push_size _ rfl), rfl, W⟩
    | barr b => exact W.elim
    | inst C fs => exact W.elim
    | flist b => exact W.elim
  | _ => exact W.elim
theorem next_at {it : Addr} {o : Obj} {itm : It} {f : Option (MV × It) → EvM γ} (hh : A.handled = none) (I : Stn S ρ ((it, o) :: kp) ((Φ.L, st.loc) :: Φ.outer) st.objs s) (hi : ItRep ρ itm o) (W : Wp S kp Φ R ρ ((nextM itm >>= f) st) Q E) :
    wpAny (model pw S.w) A (pyNext (.ref it)) (fun r s' => ∃ orc, (r = none ∧ Stn S ρ kp ((Φ.L, st.loc) :: Φ.outer) st.objs s' ∧ Wp S kp Φ R ρ (f none { st with orc := orc }) Q E) ∨
      ∃ v a itm' o', r = some v ∧ Stn S ρ ((it, o') :: kp) ((Φ.L, st.loc) :: Φ.outer) st.objs s' ∧ VRep ρ a v ∧ ItRep ρ itm' o' ∧ Wp S kp Φ R ρ (f (some (a, itm')) { st with orc := orc }) Q E) E' s := by
  have hit := I.kept (it, o) (.head _)
  cases itm with
  | byt b k =>
    obtain ⟨t, h1, h2⟩ := hi
    have hI : KBw.IsBytesIter s.heap it b.toArray t k := ⟨o, hit, h1, h2⟩
    cases q : b[k]? with
    | some c =>
      have e : (nextM (.byt b k) >>= f) = f (some (.int (c.toNat : Nat), .byt b (k + 1))) := by
        unfold nextM; simp only [q]; exact ev_pure _ _
      rw [e] at W
      exact KBw.next_item hI (by simpa using q) fun h' hI' hs => ⟨st.orc, .inr ⟨_, .int (c.toNat : Nat), .byt b (k + 1), hI'.choose, rfl, I.rekeep hs.extBut hI'.choose_spec.1, ⟨_, rfl⟩, ⟨t, hI'.choose_spec.2.1, hI'.choose_spec.2.2⟩, W⟩⟩
    | none =>
      have e : (nextM (.byt b k) >>= f) = f none := by
        unfold nextM; simp only [q]; exact ev_pure _ _
      rw [e] at W
      exact KBw.next_end hh hI (by simpa using q) fun h' hs => ⟨st.orc, .inl ⟨rfl, I.dropBut hs, W⟩⟩
  | rng x l c =>
    have hI : IsRangeIter s.heap it x l c := by
      obtain rfl : o = _ := hi
      exact hit
    have e : (nextM (.rng x l c) >>= f) = (dec (decide (0 < l)) >>= fun b => (match b with
      | true => pure (some (.int x, .rng (x + c) (l - 1) c))
      | false => pure none) >>= f) := ev_assoc _ _ _
    rw [e] at W
    obtain ⟨r, W⟩ := W.dec
    by_cases hl : 0 < l
    · rw [decide_eq_true hl] at W
      rw [ev_pure] at W
      exact wpAny_pyNext_range_item hI hl fun h' hI' hs => ⟨r, .inr ⟨_, .int x, .rng (x + c) (l - 1) c, _, rfl, I.rekeep hs.extBut hI', ⟨_, rfl⟩, rfl, W⟩⟩
    · rw [decide_eq_false hl] at W
      rw [ev_pure] at W
      exact wpAny_pyNext_range_end hh hI (by omega) fun h' hs => ⟨r, .inl ⟨rfl, I.dropBut hs, W⟩⟩
  | seq t i k =>
    obtain ⟨p, hp, h1, h2⟩ := hi
    have e : (nextM (.seq t i k) >>= f) = (getO i >>= fun o => (match o with
      | .list xs => (match t, xs[k]? with
        | false, some v => pure (some (v, .seq false i (k + 1)))
        | false, none => pure none
        | true, _ => stop "next")
      | .tup xs => (match t, xs[k]? with
        | true, some v => pure (some (v, .seq true i (k + 1)))
        | true, none => pure none
        | false, _ => stop "next")
      | _ => stop "next") >>= f) := ev_assoc _ _ _
    rw [e] at W
    obtain ⟨ob, ho, W⟩ := W.getO
    obtain ⟨p', hp', hr⟩ := I.obj i ob ho
    rw [hp] at hp'; cases hp'
    cases ob with
    | list xs =>
      obtain ⟨_, vs, nn, hg, hvs⟩ := hr
      cases t with
      | true => exact W.elim
      | false =>
        have hI : s.heap.IsListIter it p.1 k := ⟨o, hit, h1, h2⟩
        have hL : s.heap.IsList p.1 vs.toArray := ⟨_, hg, rfl, _, rfl⟩
        cases q : xs[k]? with
        | some a =>
          simp only [q] at W
          rw [ev_pure] at W
          obtain ⟨v, hv, hr⟩ := hvs.get q
          exact wpAny_pyNext_list_item hI hL (by simpa using hv) fun h' hI' hs => ⟨st.orc, .inr ⟨_, a, .seq false i (k + 1), hI'.choose, rfl, I.rekeep (t := s.toks) hs.extBut hI'.choose_spec.1, hr, ⟨p, hp, hI'.choose_spec.2.1, hI'.choose_spec.2.2⟩, W⟩⟩
        | none =>
          simp only [q] at W
          rw [ev_pure] at W
          have hv : vs[k]? = none := by
            rw [List.getElem?_eq_none_iff] at q ⊢
            rw [hvs.length]; exact q
          exact wpAny_pyNext_list_end hh hI hL (by simpa using hv) fun h' hs => ⟨st.orc, .inl ⟨rfl, I.dropBut (t := s.toks) hs, W⟩⟩
    | tup xs =>
      obtain ⟨_, vs, nn, hg, hvs⟩ := hr
      cases t with
      | false => exact W.elim
      | true =>
        have hI : s.heap.IsTupleIter it p.1 k := ⟨o, hit, h1, h2⟩
        have hL : s.heap.IsTuple p.1 vs.toArray := ⟨_, hg, rfl, _, rfl⟩
        cases q : xs[k]? with
        | some a =>
          simp only [q] at W
          rw [ev_pure] at W
          obtain ⟨v, hv, hr⟩ := hvs.get q
          exact wpAny_pyNext_tuple_item hI hL (by simpa using hv) fun h' hI' hs => ⟨st.orc, .inr ⟨_, a, .seq true i (k + 1), hI'.choose, rfl, I.rekeep (t := s.toks) hs.extBut hI'.choose_spec.1, hr, ⟨p, hp, hI'.choose_spec.2.1, hI'.choose_spec.2.2⟩, W⟩⟩
        | none =>
          simp only [q] at W
          rw [ev_pure] at W
          have hv : vs[k]? = none := by
            rw [List.getElem?_eq_none_iff] at q ⊢
            rw [hvs.length]; exact q
          exact wpAny_pyNext_tuple_end hh hI hL (by simpa using hv) fun h' hs => ⟨st.orc, .inl ⟨rfl, I.dropBut (t := s.toks) hs, W⟩⟩
    | _ => exact W.elim
end
end Mine
end

section
set_option maxRecDepth 100000
set_option linter.unusedVariables false
open PySem PySem.W PySem.Calls PyProof.Rows
namespace Mine
section
variable {𝒞 : Ctx → Prop} {S : Sys} {T : Tabs} {Φ : Frm} {n : Nat} {ρ₀ : RMap} {sc : Scope} {F F0 : Fns} {ba : Bool}
theorem snd_while (K : Closed 𝒞) (H : FSnd 𝒞 S T n F) (O : EnvOk Φ sc) {t : Expr} {body : List Stmt} {pos : Pos} {k : Nat} : Snd 𝒞 S Φ n false ρ₀ (whileM F sc t body k) (exec (.While t body [] pos) Φ.env) FlRep := by
  intro A kp ρ st s Q E p hA I W
  refine wpC_While K ?_
  refine codeC_whileLoop K (fun k s => ∃ ρ' st, ρ <+: ρ' ∧ Stn S ρ' kp ((Φ.L, st.loc) :: Φ.outer) st.objs s ∧ Wp S kp Φ FlRep ρ' (whileM F sc t body k st) Q E) (fun k s hI => ?_) k ⟨ρ, st, List.prefix_refl _, I, W⟩
  obtain ⟨ρ', st, p', I, W⟩ := hI
  cases k with
  | zero => exact W.elim
  | succ k =>
    have W' : Wp S kp Φ FlRep ρ' ((F.tr sc t >>= fun c => match c with
      | true => (F.ss sc body >>= fun f => match f with
        | .next => whileM F sc t body k
        | .cont => whileM F sc t body k
        | .brk => pure .next
        | .ret u => pure (.ret u))
      | false => pure .next) st) Q E := W
    refine wpC_mono (H.tr (ρ₀ := ρ') t O A kp ρ' st s _ _ (List.prefix_refl _) hA I ((Wp.bindK (R₁ := fun _ a b => a = b) (fun _ _ _ _ _ X => X) W').noted hA.frames hA.envs)) (fun b s₂ hb => ?_) fun _ _ h => h
    obtain ⟨c, st', ρ₂, p₂, I₂, rfl, W₂⟩ := hb
    cases c with
    | false => exact wpC_of <| wpAny_execs_nil (W₂.2 ρ₂ .next s₂ (List.prefix_refl _) I₂ rfl)
    | true =>
      refine wpC_mono (H.ss (ρ₀ := ρ₂) body O A kp ρ₂ st' s₂ _ _ (List.prefix_refl _) hA I₂ ((Wp.bindK (R₁ := FlRep) (fun _ _ _ _ _ X => X) W₂).noted hA.frames hA.envs)) (fun f s₃ hf => ?_) fun _ _ h => h
      obtain ⟨a, st₃, ρ₃, p₃, I₃, r, W₃⟩ := hf
      cases a with
      | next => obtain rfl : f = .next := r; exact ⟨k, Nat.lt_succ_self _, ρ₃, st₃, (p'.trans p₂).trans p₃, I₃, W₃⟩
      | cont => obtain rfl : f = .cont := r; exact ⟨k, Nat.lt_succ_self _, ρ₃, st₃, (p'.trans p₂).trans p₃, I₃, W₃⟩
      | brk => obtain rfl : f = .brk := r; exact W₃.2 ρ₃ .next s₃ (List.prefix_refl _) I₃ rfl
      | ret u => obtain ⟨v, rfl, hv⟩ := r; exact W₃.2 ρ₃ (.ret v) s₃ (List.prefix_refl _) I₃ ⟨v, rfl, hv⟩
theorem snd_for (K : Closed 𝒞) (H : FSnd 𝒞 S T n F) (O : EnvOk Φ sc) {x : Str} {px : Pos} {it : Expr} {body : List Stmt} {pos : Pos} {k : Nat} (hx : lookS x sc.names = some .local) (hs : ∀ v, foldedSetIterable it Φ.env v = pure v) :
    Snd 𝒞 S Φ n false ρ₀ (F.ex sc it >>= fun s => iterM s >>= fun its => forM F sc x body k its) (exec (.For (.Name x px) it body [] pos) Φ.env) FlRep := by
  intro A kp ρ st s Q E p hA I W
  refine wpC_For K ?_ hs
  refine wpC_mono (H.ex (ρ₀ := ρ) it O A kp ρ st s _ _ (List.prefix_refl _) hA I (Wp.bindK (R₁ := VRep) (fun _ _ _ _ _ X => X) W)) (fun v s₁ hv => ?_) fun _ _ h => h
  obtain ⟨a, st, ρ₁, p₁, I, r, W⟩ := hv
  refine wpC_mono (wpC_of (iter_at I r W)) (fun itv s₂ hi => ?_) fun _ _ h => h
  obtain ⟨ia, o, itm, orc, rfl, I, hr, W⟩ := hi
  refine codeC_forLoop K (fun k s => ∃ ρ' st o itm, ρ₁ <+: ρ' ∧ Stn S ρ' ((ia, o) :: kp) ((Φ.L, st.loc) :: Φ.outer) st.objs s ∧ ItRep ρ' itm o ∧ Wp S kp Φ FlRep ρ' (forM F sc x body k itm st) Q E) (fun k s hI => ?_) k ⟨ρ₁, _, o, itm, List.prefix_refl _, I, hr, W⟩
  obtain ⟨ρ', st, o, itm, p', I, hr, W⟩ := hI
  cases k with
  | zero => exact W.elim
  | succ k =>
    have W' : Wp S kp Φ FlRep ρ' ((nextM itm >>= fun r => match r with
      | none => pure .next
      | some (v, it') => (setL x v >>= fun _ => F.ss sc body >>= fun f => match f with
        | .next => forM F sc x body k it'
        | .cont => forM F sc x body k it'
        | .brk => pure .next
        | .ret u => pure (.ret u))) st) Q E := W
    refine wpC_mono (wpC_of (next_at (hA.handled rfl) I hr W')) (fun r s₃ h => ?_) fun _ _ h => h
    obtain ⟨orc, ⟨rfl, I₃, W₃⟩ | ⟨v, a, itm', o', rfl, I₃, hv, hr', W₃⟩⟩ := h
    · exact wpC_of <| wpAny_execs_nil (W₃.2 ρ' .next s₃ (List.prefix_refl _) I₃ rfl)
    · have hun : ∀ ρ st C e s, StnX S ρ ((ia, o') :: kp) Φ st C e s → StnX S ρ kp Φ st C e s := fun _ _ _ _ _ X => X.unkeep
      refine wpC_mono (snd_setLP (n := n) (pos := px) O hx hv A ((ia, o') :: kp) ρ' { st with orc := orc } s₃ _ _ (List.prefix_refl _) hA I₃ ((Wp.bindK (R₁ := fun _ _ _ => True) hun W₃).noted hA.frames hA.envs)) (fun u s₄ h => ?_) fun _ _ h => h
      obtain ⟨_, st₄, ρ₄, p₄, I₄, _, W₄⟩ := h
      refine wpC_mono (H.ss (ρ₀ := ρ₄) body O A ((ia, o') :: kp) ρ₄ st₄ s₄ _ _ (List.prefix_refl _) hA I₄ ((Wp.bindK (R₁ := FlRep) hun W₄).noted hA.frames hA.envs)) (fun f s₅ hf => ?_) fun _ _ h => h
      obtain ⟨a, st₅, ρ₅, p₅, I₅, r, W₅⟩ := hf
      cases a with
      | next => obtain rfl : f = .next := r; exact ⟨k, Nat.lt_succ_self _, ρ₅, st₅, o', itm', p'.trans (p₄.trans p₅), I₅, hr'.mono (p₄.trans p₅), W₅⟩
      | cont => obtain rfl : f = .cont := r; exact ⟨k, Nat.lt_succ_self _, ρ₅, st₅, o', itm', p'.trans (p₄.trans p₅), I₅, hr'.mono (p₄.trans p₅), W₅⟩
      | brk => obtain rfl : f = .brk := r; exact W₅.2 ρ₅ .next s₅ (List.prefix_refl _) I₅.unkeep rfl
      | ret u => obtain ⟨v, rfl, hv⟩ := r; exact W₅.2 ρ₅ (.ret v) s₅ (List.prefix_refl _) I₅.unkeep ⟨v, rfl, hv⟩
end
end Mine
end

section
set_option maxRecDepth 100000
set_option linter.unusedVariables false
open PySem PySem.W PySem.Calls PyProof.Rows
namespace Mine

noncomputable abbrev excBm : List Value := [.type "Exception", .type "BaseException", .type "object"]
structure ExcOk (K : Frag) (C : Addr) (T : Tabs) (mro : List Addr) : Prop where
  ty : typeIn K (.ref C) = some (.type "type")
  base : subIn K (.ref C) (.type "BaseException") = some true
  notTup : instIn K (.ref C) (.type "tuple") = some false
  exc : excIn K C excBm "Exception.__new__" = true
  self : subIn K (.ref C) (.ref C) = some true
  sub : ∀ D m, lookA D T.excs = some m → subIn K (.ref C) (.ref D) = some (mro.any (Nat.beq D))

theorem exc_obj {K : Frag} {h : Heap} {C : Addr} (X : K.In h) (q : excIn K C excBm "Exception.__new__" = true) :
    ∃ bm N nm qn bs hdct sn sub ab col dd k0 k1 k2 k3 k5 mN, h.get? C = some (excClassObj nm qn C N bs bm hdct sn sub ab col dd k0 k1 k2 k3 k5 "Exception.__new__") ∧ h.Ns N mN ∧ mN "__init__" = none ∧ OwnTail h excBm bm := by
  have hg : h.Ns mainGlobals (fun x => if x = "C" then some (.ref C) else none) → True := fun _ => trivial
  unfold excIn at q
  split at q
  · rename_i dd cd sl ho
    split at q
    · rename_i C' bm k0 k1 k2 k3 n k5 hm hs
      simp only [Bool.and_eq_true, beq_iff_eq, Bool.not_eq_true'] at q
      obtain ⟨⟨⟨⟨⟨q1, q2⟩, q3⟩, q4⟩, q5⟩, q6⟩ := q
      subst q1 q2
      have hC := X _ _ ho
      have hcd : cd = { name := cd.name, bases := cd.bases, mro := .ref C' :: bm, ns := cd.ns, qualname := cd.qualname, hasDict := cd.hasDict, slotNames := cd.slotNames, subclasses := cd.subclasses, abstract := cd.abstract, collection := cd.collection, hasDel := false } := by
        rw [← hm, ← q3]
      have hsl : sl = #[k0, k1, k2, k3, some (.builtin "Exception.__new__"), k5] := by
        apply Array.toList_inj.mp
        exact hs
      rw [hcd, hsl] at hC
      exact ⟨bm, cd.ns, cd.name, cd.qualname, cd.bases, cd.hasDict, cd.slotNames, cd.subclasses, cd.abstract, cd.collection, dd, k0, k1, k2, k3, k5, _, hC, .of_isNs (isNs_of_in X q5), nsMap_none_of_in X q5 q6, tail_of_in X q4⟩
    · cases q
  · cases q
theorem looks_isType {K : Frag} {M : Model} {h : Heap} {C : Addr} (X : K.In h) (q : excIn K C excBm "Exception.__new__" = true) : Looks M h (isType (.ref C)) true := by
  obtain ⟨bm, N, nm, qn, bs, hdct, sn, sub, ab, col, dd, k0, k1, k2, k3, k5, mN, hC, _⟩ := exc_obj X q
  exact (Looks.ld hC).andThen .now
section
variable {K : Frag} {T : Tabs} {C : Addr} {mro : List Addr} {w : World} {A : Around} {E : Value → Shared → Prop} {s : Shared}
theorem isc_nested {dep : Int} {tk : Tok} {Q : Fin → Shared → Prop} {M : Model} (X : K.In s.heap) (O : ExcOk K C T mro) (h : Q (.done (.ret (.bool true))) s) :
    wpAny M A (Builtin.«issubclass.nested» ⟨[.ref C, .ref C, .int dep tk], []⟩) Q E s := by
  unfold Builtin.«issubclass.nested»
  refine wpAny_bind ((looks_typeIn X O.ty).here ?_)
  rw [if_pos (by decide)]
  k_delta "plainIsSubclass"
  refine wpAny_bind (wpAny_bind ((looks_isType X O.exc).here (wpAny_bind ((looks_isType X O.exc).here ?_))))
  simp only [Bool.and_self, if_true]
  refine (looks_subIn X O.self).here ?_
  exact wpAny_pure h
theorem isc_call {Q : Value → Shared → Prop} (X : K.In s.heap) (O : ExcOk K C T mro) (h : Q (.bool true) s) : wpAny (model pw w) A (call (.builtin "issubclass") [.ref C, .ref C]) Q E s :=
  call_issubclass (S := fun _ R s => K.In s.heap ∧ R (.ok (.ret (.bool true))) s) (fun _ _ _ _ _ hs => issubclass_outer (isc_nested hs.1 O hs.2)) ⟨X, h⟩
theorem wp_raise {x : Str} {np pos : Pos} {env : Env} {Q : Flow → Shared → Prop} (hh : A.handled = none) (O : ExcOk K C T mro)
    (hx : wpAny (model pw w) A (eval (.Name x np) env) (fun v s₁ => v = .ref C ∧ K.In s₁.heap ∧ ∀ h' e, Heap.MadeExcOf s₁.heap h' e (.ref C) [] → E (.ref e) { s₁ with heap := h' }) E s) :
    wpAny (model pw w) A (exec (.Raise (some (.Name x np)) none pos) env) Q E s := by
  show wpAny _ A (do standAt pos; raiseStmt env (some (do let v ← eval (.Name x np) env; standAt pos; pure v)) none) Q E s
  refine wpAny_bind (wpAny_standAt ?_)
  unfold raiseStmt
  dsimp only
  refine wpAny_bind (wpAny_bind (wpAny_mono hx (fun v s₁ h₁ => wpAny_bind (wpAny_standAt (wpAny_pure ?_))) fun _ _ e => e))
  obtain ⟨rfl, X, h⟩ := h₁
  refine wpAny_bind (wpAny_pure ?_)
  dsimp only
  refine wpAny_bind (wpAny_holding ?_)
  unfold excFromValue isExcClass
  refine wpAny_bind (wpAny_bind ((looks_isType X O.exc).here ?_))
  simp only [if_true]
  refine (looks_subIn X O.base).here ?_
  simp only [if_true]
  obtain ⟨bm, N, nm, qn, bs, hdct, sn, sub, ab, col, dd, k0, k1, k2, k3, k5, mN, hC, hN, hni, hT⟩ := exc_obj X O.exc
  obtain ⟨hp, g, d, tk, os⟩ := s₁
  refine wpAny_bind (wpAny_call_exc_subT (hrest := by decide) PySem.F.excBase_Exception hT hC hN hni fun h' e hm => ?_)
  obtain ⟨t, he, htn, ht⟩ := hm.there
  have X' : K.In h' := X.keeps hm.keeps
  have ty : ∀ M, Looks M h' (typeOf (.ref e)) (.ref C) := fun M => (Looks.ld he).andThen .now
  refine wpAny_bind (wpAny_bind ((ty _).at ((looks_subIn X' O.base).at ?_)))
  simp only [Bool.not_true, Bool.false_eq_true, if_false]
  refine wpAny_pure ?_
  refine wpAny_bind ((looks_isType X' O.exc).at ?_)
  simp only [if_true]
  refine wpAny_bind (wpAny_holding ?_)
  unfold raisedFor
  simp only [Bool.false_eq_true, if_false]
  refine wpAny_bind ((ty _).at ?_)
  refine wpAny_bind (isc_call (s := ⟨h', g, d, tk, os⟩) X' O ?_)
  refine wpAny_bind (wpAny_truthy_bool ?_)
  simp only [if_true]
  refine wpAny_pure ?_
  unfold setFlight
  refine wpAny_bind (wpAny_bind (wpAny_field (s := ⟨h', g, d, tk, os⟩) (i := 1) (x := Value.none) he rfl rfl ?_))
  rw [if_neg (by decide)]
  refine wpAny_pure ?_
  exact wpAny_raiseNew_none hh (h h' e hm)
end
end Mine
end

section
set_option maxRecDepth 100000
set_option linter.unusedVariables false
open PySem PySem.W PySem.Calls PyProof.Rows
namespace Mine
noncomputable def SysE (S : Sys) (T : Tabs) : Prop := ∀ C m, lookA C T.excs = some m → ExcOk S.K C T m
section
variable {𝒞 : Ctx → Prop} {S : Sys} {T : Tabs} {Φ : Frm} {n : Nat} {ρ₀ : RMap} {sc : Scope} {F F0 : Fns} {ba : Bool}
theorem nameM_exc {x : Str} : ∀ (m : EvM MV), nameM T sc x = m → ∀ st C st' ob, m st = .exc C st' ob → False := by
  intro m hm
  unfold nameM at hm
  split at hm
  · subst hm
    intro st C st' ob q
    unfold getL at q
    cases h : lookS x st.loc with
    | none => simp only [h] at q; cases q
    | some v => simp only [h] at q; cases q
  · split at hm
    · subst hm; intro st C st' ob q; cases q
    · split at hm
      · subst hm; intro st C st' ob q; cases q
      · subst hm; intro st C st' ob q; cases q
  · subst hm; intro st C st' ob q; cases q
theorem snd_raise (Y : SysOk S T) (YE : SysE S T) (O : EnvOk Φ sc) {x : Str} {np pos : Pos} : Snd 𝒞 S Φ n false ρ₀ (nameM T sc x >>= fun v => match v with
      | .gl C => (match lookA C T.excs with
        | some _ => throwC C
        | none => stop "raise")
      | _ => stop "raise") (exec (.Raise (some (.Name x np)) none pos) Φ.env) FlRep := by
  intro A kp ρ st s Q E p hA I W
  have key := snd_name (𝒞 := AllC) (S := S) (n := n) (hd := false) (ρ₀ := ρ) (pos := np) (x := x) Y O A kp ρ st s
  have e : ∀ f : MV → EvM Fl, (nameM T sc x >>= f) st = EvM.bind (nameM T sc x) f st := fun _ => rfl
  rw [e] at W
  unfold EvM.bind at W
  cases q : nameM T sc x st with
  | bad w => rw [q] at W; exact W.elim
  | exc C st' ob =>
    rw [q] at W
    exact (nameM_exc _ rfl _ _ _ _ q).elim
  | ok a st' ob =>
    rw [q] at W
    dsimp only at W
    cases a with
    | gl C =>
      dsimp only at W
      cases hm : lookA C T.excs with
      | none => rw [hm] at W; exact W.elim
      | some m =>
        rw [hm] at W
        have Ox := YE C m hm
        have W' : Wp S kp Φ FlRep ρ ((Out.exc C st' []).pre ob) Q E := W
        refine wpC_of <| wp_raise (hA.handled rfl) Ox (wpC_all (key _ E (List.prefix_refl _) hA I ?_))
        rw [q]
        refine ⟨W'.preOk, fun ρ' v s₁ p' I' r => ⟨r, I'.K Y, fun h' e hm => ?_⟩⟩
        obtain ⟨t, he, htn, ht⟩ := hm.there
        refine W'.2 ρ' e _ p' ⟨I'.grow (t := s₁.toks) hm.keeps, .fresh, _, _, _, he, rfl, rfl, rfl, rfl, I'.new_B hm.new, fun hx => I'.new_ne hm.new hx rfl⟩
    | _ => exact W.elim

theorem AOk.marked {Φ : Frm} {A : Around} {n : Nat} {hd : Bool} (hA : AOk Φ A n hd) (v : Option Value) : AOk Φ (A.mark v) n true :=
  ⟨hA.frames, hA.depth, hA.units, (fun h => by cases h), hA.envs⟩
theorem Stn.adopt {ρ : RMap} {kp : List (Addr × Obj)} {frs : List (Addr × Loc)} {objs : List MO} {s : Shared} (I : Stn S ρ kp frs objs s) {D : Addr} {o : Obj} (ho : s.heap.get? D = some o) (hB : S.B.get? D = none) (hD : D ∉ tracked ρ kp frs) :
    Stn S ρ ((D, o) :: kp) frs objs s := by
  refine ⟨I.base, I.len, I.obj, I.frm, fun q hq => ?_, ?_, fun x hx => ?_, I.gens, I.os, I.high⟩
  · rcases List.mem_cons.mp hq with rfl | hq
    · exact ho
    · exact I.kept q hq
  · rw [List.map_cons, List.cons_append]
    exact nodup_mid.mpr (List.nodup_cons.mpr ⟨hD, I.apart⟩)
  · rw [List.map_cons, List.cons_append, List.mem_append, List.mem_cons] at hx
    rcases hx with hx | rfl | hx
    · exact I.fresh x (List.mem_append_left _ hx)
    · exact hB
    · exact I.fresh x (List.mem_append_right _ hx)
theorem kept_apart {ρ : RMap} {kp : List (Addr × Obj)} {frs : List (Addr × Loc)} {objs : List MO} {s : Shared} {D : Addr} {o : Obj} (I : Stn S ρ ((D, o) :: kp) frs objs s) : D ∉ tracked ρ kp frs :=
  (List.nodup_cons.mp (nodup_mid.mp (by have := I.apart; rwa [List.map_cons, List.cons_append] at this))).1
theorem wp_matches {K : Frag} {w : World} {A : Around} {E : Value → Shared → Prop} {s : Shared} {e C D : Addr} {oe : Obj} {c m : List Addr} {Q : Bool → Shared → Prop} (X : K.In s.heap) (he : s.heap.get? e = some oe) (hc : oe.cls = .ref C)
    (OC : ExcOk K C T c) (OD : ExcOk K D T m) (hD : lookA D T.excs = some m) (h : Q (c.any (Nat.beq D)) s) : wpAny (model pw w) A (excMatches (.ref e) (.ref D)) Q E s := by
  obtain ⟨hp, g, d, tk, os⟩ := s
  have ty : ∀ M, Looks M hp (typeOf (.ref e)) (.ref C) := fun M => hc ▸ ((Looks.ld he).andThen .now)
  unfold excMatches
  refine wpAny_bind ((looks_instIn X OD.notTup).at ?_)
  simp only [Bool.false_eq_true, if_false]
  refine wpAny_bind (wpAny_pure ?_)
  refine wpAny_bind ?_
  rw [List.forIn_cons]
  unfold isExcClass
  refine wpAny_bind (wpAny_bind (wpAny_bind ((looks_isType X OD.exc).at ?_)))
  simp only [if_true]
  refine (looks_subIn X OD.base).at ?_
  simp only [Bool.not_true, Bool.false_eq_true, if_false]
  refine wpAny_pure ?_
  dsimp only
  rw [List.forIn_nil]
  refine wpAny_pure (wpAny_bind ((ty _).at (wpAny_bind ?_)))
  rw [List.forIn_cons]
  refine wpAny_bind (wpAny_bind ((looks_subIn X (OC.sub D m hD)).at ?_))
  cases hb : c.any (Nat.beq D) with
  | true =>
    rw [hb] at h
    simp only [if_true]
    exact wpAny_pure (wpAny_pure (wpAny_pure h))
  | false =>
    rw [hb] at h
    simp only [Bool.false_eq_true, if_false]
    refine wpAny_pure ?_
    dsimp only
    rw [List.forIn_nil]
    exact wpAny_pure (wpAny_pure h)
theorem snd_hs (Y : SysOk S T) (Lv : Leaves 𝒞 false S T) (O : EnvOk Φ sc) (body : List Stmt) : Snd 𝒞 S Φ n true ρ₀ (hsM T sc body) (execs body Φ.env) FlRep := by
  unfold hsM
  cases body with
  | cons z1 z2 => 
    cases z1 with
    | Pass p => 
      cases z2 with
      | nil => 
        rw [execs_cons]
        show Snd _ _ _ _ _ _ _ (exec (.Pass p) Φ.env >>= _) _
        have e : exec (.Pass p) Φ.env = (standAt p >>= fun _ => pure .next) := rfl
        rw [e]
        exact Snd.assocT (Snd.standAt (Snd.tpure (Snd.pure fun _ _ => rfl)))
      | cons _ _ => exact Snd.stop
    | Return z3 q => 
      cases z3 with
      | some z4 => 
        cases z4 with
        | Constant c k p => 
          cases z2 with
          | nil => 
            rw [execs_cons, exec_Return_some]
            refine Snd.assocT (Snd.standAt (Snd.assocT (Snd.bind snd_const fun ρ₁ a v p r => Snd.tpure (Snd.pure fun _ p => ⟨v, rfl, r.mono p⟩))))
          | cons _ _ => exact Snd.stop
        | _ => exact Snd.stop
      | none => exact Snd.stop
    | Expr z5 ep => 
      cases z5 with
      | Call z6 z7 z8 pos => 
        cases z6 with
        | Attribute z9 name apos => 
          cases z9 with
          | Name x np => 
            cases z7 with
            | cons z10 z11 => 
              cases z10 with
              | Constant c k cp => 
                cases z11 with
                | nil => 
                  cases z8 with
                  | nil => 
                    cases z2 with
                    | nil => 
                      dsimp only
                      split
                      · rename_i h2
                        rw [execs_cons, exec_Expr Φ.env _ _ O.inter (swaps_no rfl)]
                        refine Snd.assocT (Snd.standAt (Snd.assocT ?_))
                        rw [arm_eval_Call, base_ok (o := .Name x np) rfl]
                        refine Snd.assocT (Snd.bind (snd_name Y O) fun ρ₁ a v p r => Snd.assocT (Snd.standAt ?_))
                        unfold methodCall
                        rw [call_form (es := [.Constant c k cp]) rfl rfl]
                        refine Snd.assocT (Snd.bind (Snd.holding (Lv.callee name _ r)) fun ρ₂ cl q p2 r2 => ?_)
                        have hpos : methodCallPos true (.Name x np) Φ.env apos pos = pure pos := by
                          unfold methodCallPos
                          have : apos.endLine = pos.line := Nat.eq_of_beq_eq_true h2
                          simp [this]
                        have bad : ∀ {m : EvM Fl} {t : Sem Flow}, m = (constM c >>= fun v => stop "suite") → Snd 𝒞 S Φ n true ρ₂ m t FlRep := by
                          rintro m t rfl A kp ρ st s Q E p' hA I W
                          exfalso
                          revert W
                          cases c <;> intro W <;> exact W
                        cases cl with
                        | own f => exact bad rfl
                        | me m =>
                          by_cases hmm : m = .append
                          · subst hmm
                            obtain ⟨id, rfl, hm⟩ := r2
                            show Snd _ _ _ _ _ _ _ ((methodCallPos true (.Name x np) Φ.env apos pos >>= _) >>= _) _
                            rw [hpos]
                            refine Snd.assocT (Snd.tpure ?_)
                            have em : (constM c >>= fun v => (methM false .append a [v] >>= fun r => match r with
                                | .none => (pure .next : EvM Fl)
                                | _ => stop "suite")) = (((constM c >>= fun v => pure [v]) >>= fun as => methM false .append a as) >>= fun r => match r with
                                | .none => (pure .next : EvM Fl)
                                | _ => stop "suite") := by
                              rw [ev_assoc, ev_assoc]
                              congr 1
                              funext v
                              rw [ev_pure]
                            refine Snd.congr (m' := ((constM c >>= fun v => pure [v]) >>= fun as => methM false .append a as) >>= fun r => match r with
                                | .none => (pure .next : EvM Fl)
                                | _ => stop "suite") em ?_
                            show Snd _ _ _ _ _ _ _ (callWith pos (.builtin id) [v] (backTo pos (starEach [.Constant c k cp] Φ.env)) [] >>= fun v => dropValue (.Call (.Attribute (.Name x np) name apos) [.Constant c k cp] [] pos) ep v >>= fun f => match f with | .next => execs [] Φ.env | f => pure f) _
                            refine Snd.bind (snd_callWith (P := fun h => S.K.In h) (plainA_any rfl) (fun h X => keeper_builtin id) (fun ρ kp frs objs s I => I.K Y) (?_ : Snd 𝒞 S Φ n true ρ₂ (constM c >>= fun v => pure [v]) _ VsRep) fun ρ₃ as vs p3 r3 => hm (.inr rfl) p3 r3) fun ρ₃ r w p3 r3 => ?_
                            · show Snd _ _ _ _ _ _ _ (spliced [(false, eval (.Constant c k cp) Φ.env)]) _
                              rw [spliced]
                              refine Snd.bind snd_const fun ρ₁ a v p r => Snd.tpure ?_
                              show Snd _ _ _ _ _ _ _ (holding [v] (spliced []) >>= fun vs => pure ([v] ++ vs)) _
                              have e0 : spliced [] = (pure [] : Sem (List Value)) := rfl
                              rw [e0]
                              exact Snd.holdB (Snd.tpure (Snd.pure fun ρ p => .cons (r.mono p) .nil))
                            · split
                              · obtain rfl : w = .none := r3
                                exact Snd.tpure (Snd.pure fun _ _ => rfl)
                              · exact Snd.stop
                          · refine bad ?_
                            congr 1
                            funext v
                            cases m <;> first | rfl | exact absurd rfl hmm
                      · exact Snd.stop
                    | cons _ _ => exact Snd.stop
                  | cons _ _ => exact Snd.stop
                | cons _ _ => exact Snd.stop
              | _ => exact Snd.stop
            | nil => exact Snd.stop
          | _ => exact Snd.stop
        | _ => exact Snd.stop
      | _ => exact Snd.stop
    | _ => exact Snd.stop
  | nil => exact Snd.stop
end
end Mine
end

section
set_option maxRecDepth 100000
set_option linter.unusedVariables false
open PySem PySem.W PySem.Calls PyProof.Rows
namespace Mine
section
variable {𝒞 : Ctx → Prop} {S : Sys} {T : Tabs} {Φ : Frm} {n : Nat} {sc : Scope} {F F0 : Fns} {ba : Bool} {A : Around} {E : Value → Shared → Prop} {Q : Flow → Shared → Prop}
theorem handle_at (Y : SysOk S T) (YE : SysE S T) (Lv0 : Leaves AllC false S T) (O : EnvOk Φ sc) (hA : AOk Φ A n false) {C e : Addr} : ∀ (hs : List ExceptHandler) {ρ : RMap} {kp : List (Addr × Obj)} {st : St} {s : Shared},
    StnG S ρ kp Φ st C e .fly s → Wp S kp Φ FlRep ρ (handM T sc C hs st) Q E → wpAny (model pw S.w) A (handleBy (.ref e) Φ.env hs) Q E s
  | [], ρ, kp, st, s, X, W => by
    obtain ⟨oe, vs, a0, T', oT, ts, g1, g2, g3, g4, g5, _⟩ := X.exc
    refine wpAny_handleBy_nil ?_
    unfold PySem.passOn
    refine wpAny_bind (wpAny_field g1 g3 g5 ?_)
    rw [if_neg (show ¬ (Value.ref T' == Value.none) = true from by simp)]
    refine wpAny_bind (flight_set (by intro q; cases q) X (.inr ⟨O.frame, rfl⟩) fun s' X' => wpAny_throw ?_)
    exact W.2 ρ e s' (List.prefix_refl _) X'.x
  | .ExceptHandler none _ _ _ :: r, ρ, kp, st, s, X, W => W.elim
  | .ExceptHandler (some t) (some _) _ _ :: r, ρ, kp, st, s, X, W => by cases t <;> exact W.elim
  | .ExceptHandler (some t) none body pos :: r, ρ, kp, st, s, X, W => by
    cases t with
    | Name x np =>
      obtain ⟨oe, vs, a0, T', oT, ts, g1, g2, g3, g4, g5, g6, g7, g8, g9, g10, g11, g12, g13⟩ := X.exc
      have I1 := X.inv.adopt g11 g9 g10
      have I2 := I1.adopt g1 g6 (fun hx => by
        have hx : e ∈ tracked ρ ((T', oT) :: kp) ((Φ.L, st.loc) :: Φ.outer) := hx
        rcases List.mem_append.mp hx with hx | hx
        · exact g7 (List.mem_append_left _ hx)
        · rcases List.mem_cons.mp hx with hx | hx
          · exact g8 hx.symm
          · exact g7 (List.mem_append_right _ hx))
      have W' : Wp S kp Φ FlRep ρ (EvM.bind (nameM T sc x) (fun v => match v with
        | .gl D => (match lookA C T.excs, lookA D T.excs with
          | some c, some _ => (match c.any (Nat.beq D) with
            | true => hsM T sc body
            | false => handM T sc C r)
          | _, _ => stop "raised")
        | _ => stop "handler") st) Q E := W
      unfold EvM.bind at W'
      refine wpAny_handleBy_cons (codeAny_handlers_test ?_) (by intro q; cases q)
      cases q : nameM T sc x st with
      | bad w => rw [q] at W'; exact W'.elim
      | exc C st' ob => exact (nameM_exc _ rfl _ _ _ _ q).elim
      | ok a st' ob =>
        rw [q] at W'
        dsimp only at W'
        cases a with
        | gl D =>
          dsimp only at W'
          cases hC : lookA C T.excs with
          | none => rw [hC] at W'; exact W'.elim
          | some m =>
          have OC := YE C m hC
          rw [hC] at W'
          cases hD : lookA D T.excs with
          | none => rw [hD] at W'; exact W'.elim
          | some mD =>
            rw [hD] at W'
            dsimp only at W'
            have OD := YE D mD hD
            refine wpC_all (snd_name (𝒞 := AllC) (S := S) (n := n) (hd := true) (ρ₀ := ρ) (pos := np) (x := x) Y O (A.mark (some (.ref e))) _ ρ st s _ _ (List.prefix_refl _) (hA.marked _) I2 ?_)
            rw [q]
            refine ⟨W'.preOk, fun ρ' v s₁ p' I' hv => ?_⟩
            obtain rfl : v = .ref D := hv
            have ge : s₁.heap.get? e = some oe := I'.kept (e, oe) (.head _)
            have gT : s₁.heap.get? T' = some oT := I'.kept (T', oT) (.tail _ (.head _))
            have X1 : StnG S ρ' kp Φ st' C e .fly s₁ := by
              refine ⟨I'.unkeep.unkeep, oe, vs, a0, T', oT, ts, ge, g2, g3, g4, g5, g6, fun hx => ?_, g8, g9, fun hx => ?_, gT, g12, g13⟩
              · refine kept_apart I' ?_
                rcases List.mem_append.mp hx with hx | hx
                · exact List.mem_append_left _ hx
                · exact List.mem_append_right _ (.tail _ hx)
              · exact kept_apart I'.unkeep hx
            refine wp_matches (I'.K Y) ge g2 OC OD hD ?_
            have W2 := W'.pre p'
            cases hb : m.any (Nat.beq D) with
            | false =>
              rw [hb] at W2
              exact handle_at Y YE Lv0 O hA r X1 W2
            | true =>
              rw [hb] at W2
              cases body with
              | nil => exact W2.elim
              | cons b₀ body =>
                refine codeAny_handlers_suite (flight_set (by intro q; cases q) X1 (.inl ⟨rfl, rfl⟩) fun s₂ X2 => ?_)
                refine wpAny_mono (wpC_all (snd_hs (S := S) (n := n) (ρ₀ := ρ') Y Lv0 O (b₀ :: body) (A.mark (some (.ref e))) kp ρ' st' s₂ _ _ (List.prefix_refl _) (hA.marked _) X2.inv ((W2.noted (A' := A.mark (some (.ref e))) (A := A) (M := model pw S.w) (hA.marked (some (.ref e))).frames hA.envs)))) (fun f s₃ h => h) fun _ _ h => h
        | _ => exact W'.elim
    | _ => exact W.elim
theorem snd_try (Y : SysOk S T) (YE : SysE S T) (H : FSnd 𝒞 S T n F) (Lv0 : Leaves AllC false S T) (O : EnvOk Φ sc) {body : List Stmt} {h : ExceptHandler} {hs : List ExceptHandler} {pos : Pos} {ρ₀ : RMap} :
    Snd 𝒞 S Φ n false ρ₀ (fun st => match F.ss sc body st with
      | .ok a st' o => .ok a st' o
      | .exc C st' o => (handM T sc C (h :: hs) st').pre o
      | .bad w => .bad w) (exec (.Try body (h :: hs) [] [] pos) Φ.env) FlRep := by
  intro A kp ρ st s Q E p hA I W
  refine wpC_Try_except (H.ss (ρ₀ := ρ) body O A kp ρ st s _ _ (List.prefix_refl _) hA I ?_)
  dsimp only at W
  cases q : F.ss sc body st with
  | bad w => rw [q] at W; exact W.elim
  | ok a st' o =>
    rw [q] at W
    refine ⟨W.1, fun ρ' f s' p' I' r => ?_⟩
    have Wq := W.2 ρ' f s' p' I' r
    cases f with
    | next => exact wpC_of (wpAny_execs_nil Wq)
    | _ => exact Wq
  | exc C st' o =>
    rw [q] at W
    dsimp only at W
    exact ⟨W.preOk, fun ρ' e s' p' X => noted_any hA.frames hA.envsAt X fun s₂ X₂ => flight_set (by intro q; cases q) X₂ (.inl ⟨rfl, rfl⟩) fun s₃ X₃ => wpC_of <| handle_at Y YE Lv0 O hA (h :: hs) X₃ (W.pre p')⟩
end
end Mine
end

section
set_option maxRecDepth 100000
set_option linter.unusedVariables false
open PySem PySem.W PySem.Calls PyProof.Rows
namespace Mine
noncomputable def SysI (S : Sys) (T : Tabs) : Prop := ∀ a, T.ids.any (Nat.beq a) = true → keepIn S.K (.ref a) = true ∧ ∀ (A : Around) (E : Value → Shared → Prop) (s : Shared) (b : Array UInt8) (t : Tok) (Q : Value → Shared → Prop), A.depth ≤ 950 → A.units ≤ 9500 → (∀ b o, S.B.get? b = some o → s.heap.get? b = some o) →
  (∀ s', Keeps s s' → Q (.bytes b t) s') → wpAny (model pw S.w) A (call (.ref a) [.bytes b t]) Q E s
theorem allBytes_mem {ρ : RMap} : ∀ {xs : List MV} {vs : List Value}, allBytes xs = true → VsRep ρ xs vs → ∀ v ∈ vs, ∃ b t, v = .bytes b t
  | [], _, _, .nil, v, hv => by cases hv
  | x :: xs, _, h, .cons (v := u) hu r, v, hv => by
    cases x with
    | bytes b =>
      rcases List.mem_cons.mp hv with rfl | hv
      · obtain ⟨t, rfl⟩ := hu; exact ⟨_, _, rfl⟩
      · exact allBytes_mem (xs := xs) h r v hv
    | _ => cases h
theorem paired_eq {l : List Value} {ys : List Value} {p : Value → Prop} (h : Paired (fun v y => v = y ∧ p v) l ys) : l = ys := by
  induction h with
  | nil => rfl
  | cons h _ ih => rw [h.1, ih]
theorem Stn.adoptO {S : Sys} {ρ : RMap} {kp : List (Addr × Obj)} {frs : List (Addr × Loc)} {objs : List MO} {s : Shared} (I : Stn S ρ kp frs objs s) {p : Addr × Option Addr} {o : MO} (h1 : p.1 ∉ tracked ρ kp frs) (hB : S.B.get? p.1 = none) (h2 : p.2 = none)
    (hr : ORep (ρ ++ [p]) s.heap p o) : Stn S (ρ ++ [p]) kp frs (objs ++ [o]) s := by
  have e : addrs (ρ ++ [p]) = addrs ρ ++ [p.1] := by simp [addrs, h2]
  refine ⟨I.base, by simp [I.len], fun i o' q => ?_, fun f hf => (I.frm f hf).mono (List.prefix_append _ _) fun m hm => hm, I.kept, ?_, fun x hx => ?_, I.gens, I.os, I.high⟩
  · by_cases hi : i < objs.length
    · rw [List.getElem?_append_left hi] at q
      obtain ⟨q', hq, r⟩ := I.obj i o' q
      exact ⟨q', pre_get (List.prefix_append _ _) hq, r.mono (List.prefix_append _ _) fun b o _ h => h⟩
    · rw [List.getElem?_append_right (Nat.le_of_not_lt hi)] at q
      have : i - objs.length = 0 := by
        rcases Nat.eq_zero_or_pos (i - objs.length) with h | h
        · exact h
        · rw [List.getElem?_eq_none (by simp; omega)] at q; cases q
      rw [this] at q; simp at q; subst q
      refine ⟨p, ?_, hr⟩
      have hl : i = ρ.length := by rw [I.len]; omega
      subst hl; simp
  · rw [e, ← List.append_assoc, ← List.append_assoc, List.nodup_append]
    have hA := I.apart
    rw [← List.append_assoc] at hA
    refine ⟨hA, by simp, fun x hx y hy hxy => ?_⟩
    subst hxy
    rw [List.mem_singleton.mp hy, List.append_assoc] at hx
    exact h1 hx
  · rw [e, ← List.append_assoc, ← List.append_assoc, List.mem_append, List.append_assoc] at hx
    rcases hx with hx | hx
    · exact I.fresh x hx
    · rw [List.mem_singleton.mp hx]; exact hB
section
variable {𝒞 : Ctx → Prop} {S : Sys} {T : Tabs} {Φ : Frm} {n : Nat} {ρ₀ : RMap} {sc : Scope} {F F0 : Fns} {ba : Bool}
theorem folded_no {it : Expr} {env : Env} (h : notSet it = true) (v : Value) : foldedSetIterable it env v = pure v := by
  cases it <;> first | rfl | cases h
theorem blockKind_fn (O : EnvOk Φ sc) : Φ.env.blockKind = .function := by
  unfold Env.blockKind
  rw [O.scope, O.kind]
  rfl
theorem snd_comp (Y : SysOk S T) (YI : SysI S T) (O : EnvOk Φ sc) {x f z y it : Str} {px fp zp cp yp ip pos spos : Pos} {csc : Scope} :
    Snd 𝒞 S Φ n false ρ₀ (compStM T sc x px f z y it csc pos)
      (exec (.Assign [.Name x px] (.ListComp (.Call (.Name f fp) [.Name z zp] [] cp) [⟨.Name y yp, .Name it ip, [], 0⟩] csc pos) spos) Φ.env) FlRep := by
  unfold compStM
  split
  · rename_i a hc hx hf
    unfold compOk at hc
    simp only [Bool.and_eq_true, List.all_eq_true, beq_iff_eq, Bool.not_eq_true', bne_iff_ne, ne_eq, Bool.or_eq_true] at hc
    obtain ⟨⟨⟨⟨⟨⟨⟨hline, hyz⟩, hkind⟩, hnames⟩, hy⟩, hff⟩, hfd⟩, hzd⟩ := hc
    obtain rfl := strEq_iff.mp hyz
    have hy' : csc.names.lookup y = some .local := by rw [← lookS_lookup]; exact hy
    have hf' : csc.names.lookup f = some .globalImplicit := by rw [← lookS_lookup]; exact hff
    obtain ⟨mg, mb, hg, hb, k1, k2⟩ := Y.glob
    obtain ⟨vf, hvf, hrf⟩ := k1 _ _ hf
    obtain rfl : vf = .ref a := hrf
    intro A kp ρ st s Q E p hA I W
    refine wpC_of <| wpAny_Assign_ListComp_map (fun _ => true) (fun v w => v = w ∧ ∃ b t, v = .bytes b t) ?_ (hA.handled rfl) (fun q hq => (hnames q hq).1.1.1) (fun q hq => (hnames q hq).1.1.2) hkind (fun q hq hl => ?_) hy' (O.kindOf hx) ?_ ?_ (folded_no rfl)
    · have e1 : swapsWith (.ListComp (.Call (.Name f fp) [.Name y zp] [] cp) [⟨.Name y yp, .Name it ip, [], 0⟩] csc pos) (some (.Name x px)) spos.line Φ.env = pure (Φ.env.blockKind == .function && Φ.env.kindOf x == some .local && px.line == pos.line
          && !(csc.names.any fun (n, k) => n == x && (k == .local || k == .cell))) := rfl
      have e2 : (csc.names.any fun (n, k) => n == x && (k == .local || k == .cell)) = false := by
        rw [List.any_eq_false]
        intro q hq
        have := (hnames q hq).2
        simpa using this
      rw [e1, e2, blockKind_fn O, O.kindOf hx, Nat.eq_of_beq_eq_true hline]
      simp
    · have := (hnames q hq).1.2
      rcases this with h | h
      · exact absurd hl h
      · exact h
    · rw [O.scope, O.kind]; rfl
    · refine wpAny_mono (wpC_all (snd_name (𝒞 := AllC) (n := n) (hd := false) (ρ₀ := ρ) (x := it) (pos := ip) Y O A kp ρ st s _ _ (List.prefix_refl _) hA I (Wp.bindK (R₁ := VRep) (fun _ _ _ _ _ X => X) W))) (fun v s₁ hv => ?_) fun _ _ h => h
      obtain ⟨a', st, ρ₁, p₁, I, r, W⟩ := hv
      cases a' with
      | obj i =>
        obtain ⟨p, hp, rfl⟩ := r
        obtain ⟨o, ho, W⟩ := W.getO
        obtain ⟨p', hp', hr⟩ := I.obj i o ho
        rw [hp] at hp'; cases hp'
        cases o with
        | list xs =>
          dsimp only at W
          cases hab : allBytes xs with
          | false => rw [hab] at W; exact W.elim
          | true =>
          cases hid : T.ids.any (Nat.beq a) with
          | false => rw [hab, hid] at W; exact W.elim
          | true =>
            rw [hab, hid] at W
            obtain ⟨hlen, orc, W⟩ := W.need
            have hlen : xs.length ≤ line := of_decide_eq_true hlen
            obtain ⟨_, vs, nn, hgl, hvs⟩ := hr
            obtain ⟨m, hm, hl⟩ := I.frm (Φ.L, st.loc) (.head _)
            have hmem := allBytes_mem hab hvs
            refine ⟨p.1, vs.toArray, m, rfl, ⟨_, hgl, rfl, _, rfl⟩, by simp [hvs.length, sizeLine_eq]; exact hlen, by rw [O.locals]; exact hm, ?_, ?_, ?_⟩
            · intro C v s₂ m₂ E' _ _ _ _
              rw [List.forIn_nil]
              exact wpAny_pure ⟨rfl, s₂.heap, s₂.toks, rfl, fun _ _ h => h⟩
            · intro C v s₂ m₂ E' hv _ hns2 hmv hk
              obtain ⟨b, t, rfl⟩ := hmem v (by simpa using hv)
              have hB : ∀ b o, S.B.get? b = some o → s₂.heap.get? b = some o := fun b o e => hk b o (I.base b o e)
              have hYI := YI a hid
              refine wpAny_Call_ofName (Calls.Name_function_global (env := compEnv csc C Φ.env) hkind hf' (Calls.loadGlobal_global (env := compEnv csc C Φ.env) (by show s₂.heap.Ns Φ.env.globals mg; rw [O.globals]; exact hg.keeps hB) hvf ?_) (not_debug hfd))
              refine callWith_of (P := fun h => S.K.In h) rfl (fun h X => keeps_K hYI.1 h X) (Calls.evalArgs_plain (x := eval (.Name y zp) (compEnv csc C Φ.env)) (rest := []) ?_)
              show wpAny _ _ (spliced [(false, eval (.Name y zp) (compEnv csc C Φ.env))]) _ _ _
              refine Calls.spliced_cons (wpAny_Name (wpAny_loadName_local (env := compEnv csc C Φ.env) hkind hy' hns2 hmv (Calls.spliced_nil ⟨fun a o e => hB a o (Y.K a o e), ?_⟩)) (not_debug hzd))
              exact hYI.2 A E' s₂ b t _ (by have := hA.depth; omega) (by have := hA.units; omega) hB fun s' hs' => ⟨⟨rfl, b, t, rfl⟩, hs'⟩
            · intro D h' tk ys hD hlD hF hnsD hkD
              have hfilter : vs.toArray.toList.filter (fun _ => true) = vs := by simp
              rw [hfilter] at hF
              have hys : vs = ys.toList := paired_eq hF
              have W3 : Wp S kp Φ FlRep ρ₁ (.ok Fl.next ⟨st.objs ++ [.flist xs], putS x (.obj st.objs.length) st.loc, orc⟩ []) Q E := W
              have hkeep : Heap.ExtBut Φ.L s₁.heap h' := fun b o hb e => hkD b o (by rw [O.locals]; exact hb) e
              rw [O.locals] at hnsD
              have J1 := I.setF (loc' := []) (t := tk) hkeep ⟨_, hnsD, fun y a q => by cases q⟩
              have hDt : D ∉ tracked ρ₁ kp ((Φ.L, []) :: Φ.outer) := fun hx => I.new_ne hD hx rfl
              have J2 := J1.adoptO (p := (D, none)) (o := .flist xs) hDt (I.new_B hD) rfl ⟨rfl, vs, hys ▸ hlD, hvs.mono (List.prefix_append _ _)⟩
              have J3 := J2.setF (loc' := putS x (.obj st.objs.length) st.loc) (h' := h') (t := tk) (Heap.ExtBut.refl _ _) ⟨_, hnsD, fun w a q => by
                rw [lookS_put] at q
                by_cases hw : w = x
                · rw [if_pos hw] at q ⊢; cases q
                  refine ⟨_, rfl, (D, none), ?_, rfl⟩
                  rw [← I.len]; simp
                · rw [if_neg hw] at q ⊢
                  obtain ⟨u, q1, q2⟩ := hl w a q
                  exact ⟨u, q1, q2.mono (List.prefix_append _ _)⟩⟩
              exact W3.2 _ .next _ (List.prefix_append _ _) J3 rfl
        | _ => exact W.elim
      | _ => exact W.elim
  · exact Snd.stop
end
end Mine
end

section
set_option maxRecDepth 100000
set_option linter.unusedVariables false
open PySem PySem.W PySem.Calls PyProof.Rows
namespace Mine
section
variable {𝒞 : Ctx → Prop} {S : Sys} {T : Tabs} {Φ : Frm} {n : Nat} {ρ₀ : RMap} {sc : Scope} {F F0 : Fns} {ba : Bool}
theorem arm_name (H : FSnd 𝒞 S T n F) (O : EnvOk Φ sc) (x : Str) (px : Pos) (e : Expr) (pos : Pos) : Snd 𝒞 S Φ n false ρ₀ (match plainV e, lookS x sc.names with
    | true, some .local => do
      let v ← F.ex sc e
      setL x v
      pure Fl.next
    | _, _ => stop "assign") (exec (.Assign [.Name x px] e pos) Φ.env) FlRep := by
  split
  · rename_i _ _ hp hx
    refine snd_assign1 hp rfl (fun _ _ h => by cases h) (H.ex _ O) fun ρ₁ a v p r => ?_
    exact Snd.bind (snd_setLP O hx r) fun _ _ _ _ _ => Snd.pure fun _ _ => rfl
  · exact Snd.stop
theorem arm_comp (Y : SysOk S T) (YI : SysI S T) (O : EnvOk Φ sc) {x : Str} {px : Pos} {el : Expr} {gs : List Comprehension} {csc : Scope} {cpos pos : Pos} : Snd 𝒞 S Φ n false ρ₀ (compM1 T sc x px el gs csc cpos) (exec (.Assign [.Name x px] (.ListComp el gs csc cpos) pos) Φ.env) FlRep := by
  unfold compM1
  cases el with
  | Call z1 z2 z3 _ => 
    cases z1 with
    | Name _ _ => 
      cases z2 with
      | cons z4 z5 => 
        cases z4 with
        | Name _ _ => 
          cases z5 with
          | nil => 
            cases z3 with
            | nil => 
              cases gs with
              | cons z6 z7 => 
                cases z6 with
                | mk z8 z9 z10 a => 
                  cases z8 with
                  | Name _ _ => 
                    cases z9 with
                    | Name _ _ => 
                      cases z10 with
                      | nil => 
                        cases z7 with
                        | nil => 
                          cases a with
                          | negSucc _ => exact Snd.stop
                          | ofNat k => cases k with
                            | zero => exact snd_comp Y YI O
                            | succ _ => exact Snd.stop
                        | cons _ _ => exact Snd.stop
                      | cons _ _ => exact Snd.stop
                    | _ => exact Snd.stop
                  | _ => exact Snd.stop
              | nil => exact Snd.stop
            | cons _ _ => exact Snd.stop
          | cons _ _ => exact Snd.stop
        | _ => exact Snd.stop
      | nil => exact Snd.stop
    | _ => exact Snd.stop
  | _ => exact Snd.stop
theorem snd_stStep (Y : SysOk S T) (YE : SysE S T) (YI : SysI S T) (K : Closed 𝒞) (H : FSnd 𝒞 S T n F) (Lv : Leaves 𝒞 ba S T) (Lv0 : Leaves AllC false S T) (O : EnvOk Φ sc) (s : Stmt) : Snd 𝒞 S Φ n false ρ₀ (stStep T ba F sc s) (exec s Φ.env) FlRep := by
  unfold stStep
  cases s with
  | Expr z11 pos => 
    cases z11 with
    | Call f as kw p => 
      rw [exec_Expr Φ.env _ _ O.inter (swaps_no rfl)]
      refine Snd.standAt (Snd.bind (H.ex _ O) fun ρ₁ a v p r => ?_)
      split
      · obtain rfl : v = .none := r
        exact Snd.pure fun _ _ => rfl
      · obtain ⟨t, rfl⟩ := r
        exact Snd.pure fun _ _ => rfl
      · exact Snd.stop
    | _ => exact Snd.stop
  | Pass _ => exact Snd.standAt (Snd.pure fun _ _ => rfl)
  | Break _ => exact Snd.standAt (Snd.pure fun _ _ => rfl)
  | Continue _ => exact Snd.standAt (Snd.pure fun _ _ => rfl)
  | Return z12 pos => 
    cases z12 with
    | none => exact Snd.standAt (Snd.pure fun _ _ => ⟨_, rfl, rfl⟩)
    | some e => 
      rw [exec_Return_some]
      exact Snd.standAt (Snd.bind (H.ex _ O) fun ρ₁ a v p r => Snd.pure fun _ p => ⟨_, rfl, r.mono p⟩)
  | Assign z13 e pos => 
    cases z13 with
    | cons z14 z15 => 
      cases z14 with
      | Tuple ts k tp => 
        cases z15 with
        | nil => 
          cases e with
          | Call f as kw p => 
            dsimp only
            split
            · rename_i _ hl
              refine snd_assign1 rfl rfl (fun _ _ h => by cases h) (H.ex _ O) fun ρ₁ a v p r => ?_
              have e1 : assign (.Tuple ts k tp) Φ.env v = (standAt tp >>= fun _ => unpack v (assignEach ts Φ.env)) := rfl
              rw [e1]
              refine Snd.assocT (Snd.standAt ?_)
              split
              · exact snd_unpack O hl r
              · exact Snd.stop
            · exact Snd.stop
          | _ => exact Snd.stop
        | cons _ _ => exact Snd.stop
      | Name x px => 
        cases z15 with
        | nil => 
          cases e with
          | ListComp el gs csc cpos => exact arm_comp Y YI O
          | _ => first | exact arm_name H O _ _ _ _ | exact Snd.stop
        | cons _ _ => exact Snd.stop
      | Attribute o name apos => 
        cases z15 with
        | nil => 
          dsimp only
          split
          · rename_i _ hp
            refine snd_assign1 hp rfl (fun _ _ h => by cases h) (H.ex _ O) fun ρ₁ a v p r => ?_
            have e1 : assign (.Attribute o name apos) Φ.env v = (holding [v] (eval o Φ.env) >>= fun ov => standAt apos.atName >>= fun _ => holding [v, ov] (setAttr ov name v) >>= fun _ => release [v, ov] []) := rfl
            rw [e1]
            refine Snd.assocT (Snd.bind (Snd.holding (H.ex _ O)) fun ρ₂ b w p2 r2 => Snd.assocT (Snd.standAt (Snd.assocT (Snd.bind (Snd.holding (Lv.setA name r2 (r.mono p2))) fun ρ₃ _ _ p3 _ => ?_))))
            exact Snd.release (Snd.pure fun _ _ => rfl)
          · exact Snd.stop
        | cons _ _ => exact Snd.stop
      | _ => exact Snd.stop
    | nil => exact Snd.stop
  | AugAssign z16 op e pos => 
    cases z16 with
    | Name x px => 
      dsimp only
      split
      · rename_i _ hx
        rw [exec_AugAssign_Name]
        refine Snd.standAt (Snd.bind (snd_getL O hx) fun ρ₁ a v p r => Snd.bind (Snd.holding (H.ex _ O)) fun ρ₂ b w p2 r2 => Snd.standAt (Snd.bind (Snd.operate (Lv.inp op (r.mono p2) r2)) fun ρ₃ c x p3 r3 => Snd.standAt (Snd.bind (snd_setL O hx r3) fun _ _ _ _ _ => Snd.pure fun _ _ => rfl)))
      · exact Snd.stop
    | Attribute o name tpos => 
      have e1 : exec (.AugAssign (.Attribute o name tpos) op e pos) Φ.env = (standAt pos >>= fun _ => eval o Φ.env >>= fun ov => holding [ov] (standAt tpos.atName >>= fun _ => getAttr ov name true >>= fun old => holding [old] (eval e Φ.env) >>= fun v => standAt pos >>= fun _ => operate [old, v] (inplaceOp op old v)) >>= fun new =>
        standAt tpos.atName >>= fun _ => holding [new, ov] (setAttr ov name new) >>= fun _ => release [new, ov] [] >>= fun _ => pure .next) := rfl
      rw [e1]
      refine Snd.standAt (Snd.bind (H.ex _ O) fun ρ₁ ov w p r => Snd.holdB (Snd.assocT (Snd.standAt (Snd.assocT (Snd.bind (Lv.attr name true r) fun ρ₂ old x p2 r2 => Snd.assocT (Snd.bind (Snd.holding (H.ex _ O)) fun ρ₃ v y p3 r3 => Snd.assocT (Snd.standAt (Snd.bind (Snd.operate (Lv.inp op (r2.mono p3) r3)) fun ρ₄ u z p4 r4 => Snd.standAt ?_))))))))
      exact Snd.bind (Snd.holding (Lv.setA name (r.mono (p2.trans (p3.trans p4))) r4)) fun _ _ _ _ _ => Snd.release (Snd.pure fun _ _ => rfl)
    | _ => exact Snd.stop
  | If t a b pos => 
    rw [exec_If]
    refine Snd.standAt (Snd.bind (H.tr _ O) fun ρ₁ c c' p r => ?_)
    subst r
    cases c with
    | true => exact H.ss _ O
    | false => exact H.ss _ O
  | While t body z17 pos => 
    cases z17 with
    | nil => exact snd_while K H O
    | cons _ _ => exact Snd.stop
  | For z18 it body z19 pos => 
    cases z18 with
    | Name x px => 
      cases z19 with
      | nil => 
        dsimp only
        split
        · rename_i _ _ hn hx
          exact snd_for K H O hx (folded_no hn)
        · exact Snd.stop
      | cons _ _ => exact Snd.stop
    | _ => exact Snd.stop
  | Raise z20 z21 pos => 
    cases z20 with
    | some z22 => 
      cases z22 with
      | Name x px => 
        cases z21 with
        | none => exact snd_raise Y YE O
        | some _ => exact Snd.stop
      | _ => exact Snd.stop
    | none => exact Snd.stop
  | Assert t z23 pos => 
    cases z23 with
    | none => 
      rw [arm_exec_Assert]
      refine Snd.standAt (Snd.bind (H.tr _ O) fun ρ₁ c c' p r => ?_)
      subst r
      cases c with
      | true => exact Snd.pure fun _ _ => rfl
      | false => exact Snd.stop
    | some _ => exact Snd.stop
  | Try body z24 z25 z26 pos => 
    cases z24 with
    | cons hd hs => 
      cases z25 with
      | nil => 
        cases z26 with
        | nil => exact snd_try Y YE H Lv0 O
        | cons _ _ => exact Snd.stop
      | cons _ _ => exact Snd.stop
    | nil => exact Snd.stop
  | _ => exact Snd.stop
theorem snd_ssStep (Y : SysOk S T) (YE : SysE S T) (YI : SysI S T) (K : Closed 𝒞) (H : FSnd 𝒞 S T n F) (Lv : Leaves 𝒞 ba S T) (Lv0 : Leaves AllC false S T) (O : EnvOk Φ sc) (l : List Stmt) : Snd 𝒞 S Φ n false ρ₀ (ssStep T ba F sc l) (execs l Φ.env) FlRep :=
  snd_execs (fun s _ => snd_stStep Y YE YI K H Lv Lv0 O s) l
end
end Mine
end

section
set_option maxRecDepth 100000
set_option linter.unusedVariables false
open PySem PySem.W PySem.Calls PyProof.Rows
namespace Mine
structure FnOk (S : Sys) (a : Addr) (fi : FnInfo) : Prop where
  ex : ∃ o fd dv, S.B.get? a = some o ∧ o.data = .func fd ∧ fd.body = .stmts fi.body ∧ fd.scope = fi.scope ∧ fd.globals = mainGlobals ∧ fd.closure = [] ∧ fd.builtins = builtinsNs ∧ S.B.CodeRec fd.code fd.qualname ∧ VsRep [] fi.dflts dv ∧
    ∀ (vs : List Value), fi.params.length - fi.dflts.length ≤ vs.length → vs.length ≤ fi.params.length → ∀ (M : Model) (A : Around) (E : Value → Shared → Prop) (s : Shared) (Q : List (Str × Value) → Shared → Prop), (∀ b o, S.B.get? b = some o → s.heap.get? b = some o) →
      Q (fi.params.zip (vs ++ dv.drop (vs.length - (fi.params.length - fi.dflts.length)))) s → wpAny M A (bindArgs fd ⟨vs, []⟩) Q E s
  co : fi.scope.isCoroutine = false
  gen : fi.scope.isGenerator = false
  kind : fi.scope.kind = .function
  cells : ∀ x ∈ fi.scope.names, x.2 ≠ .cell
  names : ∀ x ∈ fi.params, fi.scope.names.lookup x = some .local
  nodup : fi.params.Nodup
noncomputable def SysF (S : Sys) (T : Tabs) : Prop := ∀ a fi, lookA a T.fns = some fi → FnOk S a fi

theorem zip_lookup {ρ : RMap} {x : Str} {a : MV} : ∀ {ps : List Str} {as : List MV} {vs : List Value}, VsRep ρ as vs → lookS x (ps.zip as) = some a → ∃ v, (ps.zip vs).lookup x = some v ∧ VRep ρ a v
  | [], _, _, _, h => by cases h
  | p :: ps, _, _, .nil, h => by cases h
  | p :: ps, _, _, .cons (a := b) (v := v) hv r, h => by
    show ∃ w, ((p, v) :: ps.zip _).lookup x = some w ∧ _
    have h : (match strEq x p with | true => some b | false => lookS x (ps.zip _)) = some a := h
    rw [List.lookup_cons, strEq_beq]
    cases q : strEq x p with
    | true => rw [q] at h; cases h; exact ⟨v, rfl, hv⟩
    | false => rw [q] at h; exact zip_lookup r h
theorem lookup_some_mem {x : Str} {v : Value} : ∀ {l : List (Str × Value)}, l.lookup x = some v → (x, v) ∈ l
  | [], h => by cases h
  | (y, u) :: r, h => by
    rw [List.lookup_cons, strEq_beq] at h
    cases q : strEq x y with
    | true => rw [q] at h; cases h; rw [strEq_iff.mp q]; exact .head _
    | false => rw [q] at h; exact .tail _ (lookup_some_mem h)
theorem lookup_of_nodup {x : Str} {v : Value} : ∀ {l : List (Str × Value)}, (l.map (·.1)).Nodup → (x, v) ∈ l → l.lookup x = some v
  | [], _, h => by cases h
  | (y, u) :: r, hn, h => by
    rw [List.map_cons, List.nodup_cons] at hn
    rw [List.lookup_cons, strEq_beq]
    rcases List.mem_cons.mp h with h0 | h0
    · cases h0
      rw [strEq_iff.mpr rfl]
    · have : strEq x y = false := by
        cases q : strEq x y with
        | false => rfl
        | true =>
          have := strEq_iff.mp q; subst this
          exact absurd (List.mem_map_of_mem (f := (·.1)) (l := r) h0) hn.1
      rw [this]
      exact lookup_of_nodup hn.2 h0
theorem lookup_reverse {x : Str} {v : Value} {l : List (Str × Value)} (hn : (l.map (·.1)).Nodup) (h : l.lookup x = some v) : l.reverse.lookup x = some v := by
  refine lookup_of_nodup ?_ (List.mem_reverse.mpr (lookup_some_mem h))
  rw [List.map_reverse]
  exact (List.reverse_perm _).nodup_iff.mpr hn
theorem zip_fst_sub : ∀ {ps : List Str} {vs : List Value}, ((ps.zip vs).map (·.1)) = ps.take vs.length
  | [], vs => by cases vs <;> rfl
  | p :: ps, [] => rfl
  | p :: ps, v :: vs => by
    show p :: ((ps.zip vs).map (·.1)) = p :: ps.take vs.length
    rw [zip_fst_sub]

section
variable {𝒞 : Ctx → Prop} {S : Sys} {T : Tabs} {Φ : Frm} {n : Nat} {F : Fns} {A : Around} {E : Value → Shared → Prop} {Q : Value → Shared → Prop}
theorem code_fn (K : Closed 𝒞) (Y : SysOk S T) (H : FSnd 𝒞 S T n F) {a : Addr} {fi : FnInfo} (hf : FnOk S a fi) (hfr : A.frames = some (Φ.env :: Φ.envs)) (hE : EnvsAt (Φ.env :: Φ.envs) ((Φ.L, []) :: Φ.outer)) (hdep : A.depth + 8 * n + 1 ≤ 900) (huni : A.units + 24 * n + 3 ≤ 9000)
    (hh : A.handled = none) {ρ : RMap} {kp : List (Addr × Obj)} {st : St} {s : Shared} {args : List MV} {vs : List Value} (I : Stn S ρ kp ((Φ.L, st.loc) :: Φ.outer) st.objs s) (hvs : VsRep ρ args vs)
    (W : Wp S kp Φ VRep ρ (callFn F fi args st) Q E) :
    codeC 𝒞 (model pw S.w) A (.call (.ref a) ⟨vs, []⟩) (fun r s' => match r with | .ok (.ret v) => Q v s' | .ok _ => False | .error e => E e s') s := by
  obtain ⟨o, fd, dv, ho, hd, hbody, hsc, hgl, hcl, hbu, hcode, hdv, hb⟩ := hf.ex
  unfold callFn bindArgsM at W
  cases hc : (Nat.ble (fi.params.length - fi.dflts.length) args.length && Nat.ble args.length fi.params.length) with
  | false => rw [hc] at W; exact W.elim
  | true =>
    rw [hc] at W
    dsimp only at W
    rw [Bool.and_eq_true] at hc
    have h1 := Nat.le_of_ble_eq_true hc.1
    have h2 := Nat.le_of_ble_eq_true hc.2
    have hvl := hvs.length
    refine codeC_call_function K (Nat.lt_of_le_of_lt (by omega : A.depth ≤ 900) (by decide)) (I.base _ _ ho) hd (by rw [hsc]; exact hf.co) (by rw [hsc]; exact hf.gen) hbody (hcode.keeps I.base) ?_
    refine hb vs (by rw [hvl]; exact h1) (by rw [hvl]; exact h2) _ _ _ s _ I.base ?_
    rw [hsc, hgl, hcl, hbu]
    have hloc : ∀ x ∈ fi.params.zip (vs ++ dv.drop (vs.length - (fi.params.length - fi.dflts.length))), fi.scope.names.lookup x.1 = some .local := fun x hx => hf.names _ (List.of_mem_zip (a := x.1) (b := x.2) hx).1
    refine wpAny_newFunctionEnv hf.cells hloc (fun h₁ hns hsb => ⟨(Y.limit.keeps I.base).fresh _ hsb, ?_⟩) hf.kind
    refine codeC_func K ?_
    have hvs2 : VsRep ρ (args ++ fi.dflts.drop (args.length - (fi.params.length - fi.dflts.length))) (vs ++ dv.drop (vs.length - (fi.params.length - fi.dflts.length))) := by
      rw [hvl]
      exact hvs.append ((hdv.drop _).mono List.nil_prefix)
    have hkeep : ∀ b ob, s.heap.get? b = some ob → h₁.get? b = some ob := fun b ob e => hsb.extBut b ob (Nat.ne_of_lt (Heap.lt_size e)) (Heap.get?_push_of_some _ e)
    have hnone : s.heap.get? s.heap.objs.size = none := Heap.get?_none_of_le (Nat.le_refl _)
    have I₁ := I.push (loc := fi.params.zip (args ++ fi.dflts.drop (args.length - (fi.params.length - fi.dflts.length)))) (t := s.toks + (fi.params.zip (vs ++ dv.drop (vs.length - (fi.params.length - fi.dflts.length)))).length) hkeep hnone ⟨_, hns, fun x a q => by
      obtain ⟨v, e1, e2⟩ := zip_lookup hvs2 q
      refine ⟨v, lookup_reverse ?_ e1, e2⟩
      rw [zip_fst_sub]
      exact hf.nodup.sublist (List.take_sublist _ _)⟩ fun a o e => Heap.lt_size (I.K Y a o e)
    let env : Env := newEnv fi.scope s.heap.objs.size mainGlobals [] (fd.qualname ++ ".<locals>.") (some a) fd.code none builtinsNs
    let Φ' : Frm := ⟨env, s.heap.objs.size, (Φ.L, st.loc) :: Φ.outer, Φ.env :: Φ.envs⟩
    have O' : EnvOk Φ' fi.scope := ⟨rfl, hf.kind, rfl, rfl, rfl, rfl⟩
    have hEA : EnvsAt (Φ'.env :: Φ'.envs) ((Φ'.L, []) :: Φ'.outer) := ⟨hf.kind, rfl, rfl, EnvsAt.loc rfl hE⟩
    have hA' : AOk Φ' (A.deeper env) n false := ⟨Around.frames_deeper hfr, by show A.depth + 1 + 8 * n ≤ 900; omega, by show A.units + 3 + 24 * n ≤ 9000; omega, fun _ => hh, hEA⟩
    refine H.ss (ρ₀ := ρ) fi.body O' (A.deeper env) kp ρ ⟨st.objs, fi.params.zip (args ++ fi.dflts.drop (args.length - (fi.params.length - fi.dflts.length))), st.orc⟩ _ _ _ (List.prefix_refl _) hA' I₁ ?_
    cases q : F.ss fi.scope fi.body ⟨st.objs, fi.params.zip (args ++ fi.dflts.drop (args.length - (fi.params.length - fi.dflts.length))), st.orc⟩ with
    | bad w => rw [q] at W; exact W.elim
    | ok fl st' ob =>
      rw [q] at W
      cases fl with
      | ret v =>
        refine ⟨W.1, fun ρ' f s' p' I' r => ?_⟩
        obtain ⟨u, rfl, hu⟩ := r
        exact W.2 ρ' u s' p' I'.pop hu
      | next =>
        refine ⟨W.1, fun ρ' f s' p' I' r => ?_⟩
        obtain rfl : f = .next := r
        exact W.2 ρ' .none s' p' I'.pop rfl
      | brk => exact W.elim
      | cont => exact W.elim
    | exc C st' ob =>
      rw [q] at W
      refine ⟨W.1, fun ρ' e s' p' X => ?_⟩
      refine leave_X hA'.frames (EnvsAt.loc rfl hEA) X fun s'' X' => ?_
      refine W.2 ρ' e s'' p' ⟨X'.inv.pop, .fly, ?_⟩
      have hx := X'.exc
      exact ExcAt.less (g := .fly) (T := tracked ρ' kp ((Φ'.L, st'.loc) :: Φ'.outer)) (fun y hy => List.mem_cons_of_mem _ hy) hx
end
end Mine
end

section
set_option maxRecDepth 100000
set_option linter.unusedVariables false
open PySem PySem.W PySem.Calls PyProof.Rows
namespace Mine
noncomputable def SysM (S : Sys) (T : Tabs) : Prop := ∀ C ci i, lookA C T.clss = some ci → ci.init = some i → makesIn S.K C = true ∧ findIn S.K (.ref C) "__init__" = some (some (.ref i)) ∧ typeIn S.K (.ref i) = some (.type "function")
theorem tc_weight (a : Addr) (vs : List Value) : (Code.builtin "type.__call__" ⟨.ref a :: vs, []⟩).weight = 1 := by kernel_rfl
theorem tc_units (args : Args) : (Code.builtin "type.__call__" args).cUnits = 1 := by kernel_rfl
theorem tc_envs (args : Args) : (Code.builtin "type.__call__" args).envs = [] := by kernel_rfl
section
variable {𝒞 : Ctx → Prop} {S : Sys} {T : Tabs} {Φ : Frm} {n : Nat} {F : Fns} {ρ₀ : RMap}
theorem snd_caStep (K : Closed 𝒞) (Y : SysOk S T) (YF : SysF S T) (YM : SysM S T) (H : FSnd 𝒞 S T n F) (H0 : FSnd AllC S T n F0) (a : Addr) (args : List MV) (vs : List Value) (hvs : VsRep ρ₀ args vs) : SndW 𝒞 S Φ (n + 1) ρ₀ (caStep T F F0 (.gl a) args) (call (.ref a) vs) VRep := by
  intro A kp ρ st s Q E p hA I W
  refine wpC_call K ?_
  unfold caStep at W
  dsimp only at W
  have hd := hA.depth
  have hu := hA.units
  cases hf : lookA a T.fns with
  | some fi =>
    rw [hf] at W
    exact code_fn K Y H (YF a fi hf) hA.frames hA.envs (by omega) (by omega) hA.handled I (hvs.mono p) W
  | none =>
    rw [hf] at W
    dsimp only at W
    cases hc : lookA a T.clss with
    | none => rw [hc] at W; exact W.elim
    | some c =>
      rw [hc] at W
      dsimp only at W
      cases hi : c.init with
      | none => rw [hi] at W; exact W.elim
      | some i =>
        rw [hi, Option.bind_some] at W
        cases hfi : lookA i T.fns with
        | none => rw [hfi] at W; exact W.elim
        | some fi =>
          rw [hfi] at W
          dsimp only at W
          obtain ⟨m1, m2, m3⟩ := YM a c i hc hi
          obtain ⟨h, g, d, t, os⟩ := s
          have X : S.K.In h := I.K Y
          have n1 : h.get? h.objs.size = none := Heap.get?_none_of_le (Nat.le_refl _)
          have n2 : h.get? (h.objs.size + 1) = none := Heap.get?_none_of_le (Nat.le_succ _)
          have hk : ∀ b o, h.get? b = some o → ((h.push emptyDict).push (instObj a h.objs.size)).get? b = some o := fun b o e => Heap.get?_push_of_some _ (Heap.get?_push_of_some _ e)
          have g1 : ((h.push emptyDict).push (instObj a h.objs.size)).get? (h.objs.size + 1) = some (instObj a h.objs.size) := Heap.get?_push_at (by rw [Heap.size_push]) rfl
          have g2 : ((h.push emptyDict).push (instObj a h.objs.size)).get? h.objs.size = some emptyDict := Heap.get?_push_of_some _ (Heap.get?_push_size _ rfl)
          have I1 := I.newO (p := (h.objs.size + 1, some h.objs.size)) (o := .inst a []) (t := t) hk n2 (fun d' e => by cases e; exact ⟨n1, by show h.objs.size ≠ h.objs.size + 1; omega⟩)
            ⟨h.objs.size, rfl, g1, emptyDict, #[], 0, fun _ => none, g2, rfl, (fun e he => by simp at he), (fun _ => rfl), Nat.zero_le _, (fun x a q => by cases q), fun _ _ => rfl⟩
          refine codeC_of <| make_core (makes_of X m1) (looks_findIn X m2) (fun self => bind_fn X self m3) (.inl rfl) ?_
          have W1 : Wp S kp Φ VRep ρ ((callFn F0 fi (.obj st.objs.length :: args) >>= fun r => match r with
            | .none => pure (.obj st.objs.length)
            | _ => stop "init") ⟨st.objs ++ [.inst a []], st.loc, st.orc⟩) Q E := by
            have e : ∀ f : MV → EvM MV, (newO (.inst a []) >>= f) st = (f (.obj st.objs.length) ⟨st.objs ++ [.inst a []], st.loc, st.orc⟩).pre [] := fun _ => rfl
            rw [e, Out.pre_nil] at W
            exact W
          have hob : VRep (ρ ++ [(h.objs.size + 1, some h.objs.size)]) (.obj st.objs.length) (.ref (h.objs.size + 1)) := ⟨_, by rw [← I.len]; exact List.getElem?_concat_length, rfl⟩
          have e : ∀ f : MV → EvM MV, (callFn F0 fi (.obj st.objs.length :: args) >>= f) ⟨st.objs ++ [.inst a []], st.loc, st.orc⟩ = EvM.bind (callFn F0 fi (.obj st.objs.length :: args)) f ⟨st.objs ++ [.inst a []], st.loc, st.orc⟩ := fun _ => rfl
          rw [e] at W1
          unfold EvM.bind at W1
          have W3 : Wp S kp Φ VRep (ρ ++ [(h.objs.size + 1, some h.objs.size)]) (callFn F0 fi (.obj st.objs.length :: args) ⟨st.objs ++ [.inst a []], st.loc, st.orc⟩) (fun v s' => v = .none ∧ Q (.ref (h.objs.size + 1)) s') E := by
            cases q : callFn F0 fi (.obj st.objs.length :: args) ⟨st.objs ++ [.inst a []], st.loc, st.orc⟩ with
            | bad w => rw [q] at W1; exact W1.elim
            | exc C st' ob => rw [q] at W1; exact ⟨W1.1, fun ρ' e s' p' X => W1.2 ρ' e s' ((List.prefix_append _ _).trans p') X⟩
            | ok v st' ob =>
              rw [q] at W1
              refine ⟨W1.preOk, fun ρ' u s' p' I' r => ?_⟩
              have W4 := W1.pre ((List.prefix_append _ _).trans p')
              cases v with
              | none =>
                obtain rfl : u = .none := r
                exact ⟨rfl, W4.2 ρ' (.ref (h.objs.size + 1)) s' (List.prefix_refl _) I' (hob.mono p')⟩
              | _ => exact W4.elim
          refine codeAny_mono (codeC_all (code_fn (A := A.under (.builtin "type.__call__" ⟨.ref a :: vs, []⟩)) all_closed Y H0 (YF i fi hfi) ?_ hA.envs ?_ ?_ hA.handled I1 (.cons hob ((hvs.mono p).mono (List.prefix_append _ _))) W3)) fun r s' hr => ?_
          · show pushEnvs (Code.builtin "type.__call__" ⟨.ref a :: vs, []⟩).envs A.frames = _
            rw [tc_envs]; exact hA.frames
          · show A.depth + (Code.builtin "type.__call__" ⟨.ref a :: vs, []⟩).weight + 8 * n + 1 ≤ 900
            rw [tc_weight]; omega
          · show A.units + (Code.builtin "type.__call__" ⟨.ref a :: vs, []⟩).cUnits + 24 * n + 3 ≤ 9000
            rw [tc_units]; omega
          · rcases r with e | (v | _ | _ | _) <;> first | exact hr | exact hr.elim
theorem fsnd_step (K : Closed 𝒞) (Y : SysOk S T) (YE : SysE S T) (YI : SysI S T) (YF : SysF S T) (YM : SysM S T) (Lv : Leaves 𝒞 ba S T) (Lv0 : Leaves AllC false S T) (H : FSnd 𝒞 S T n F) (H0 : FSnd AllC S T n F0) : FSnd 𝒞 S T (n + 1) (step T ba F F0) where
  ex := fun e O => (snd_exStep Y H H0 Lv O e).fuel (Nat.le_succ _)
  tr := fun e O => (snd_trStep Y H H0 Lv O e).fuel (Nat.le_succ _)
  ss := fun l O => (snd_ssStep Y YE YI K H Lv Lv0 O l).fuel (Nat.le_succ _)
  ca := fun a args vs h => snd_caStep K Y YF YM H H0 a args vs h
theorem fsnd0 : FSnd 𝒞 S T 0 fns0 := ⟨fun _ _ => Snd.stop, fun _ _ => Snd.stop, fun _ _ => Snd.stop, fun _ _ _ _ => fun _ _ _ _ _ _ _ _ _ _ W => W.elim⟩
theorem fsnd (K : Closed 𝒞) (Y : SysOk S T) (YE : SysE S T) (YI : SysI S T) (YF : SysF S T) (YM : SysM S T) (Lv : Leaves 𝒞 true S T) (Lv0 : Leaves AllC false S T) : ∀ n, FSnd 𝒞 S T n (fnsN T n).1 ∧ FSnd AllC S T n (fnsN T n).2
  | 0 => ⟨fsnd0, fsnd0⟩
  | n + 1 => let ⟨h1, h2⟩ := fsnd K Y YE YI YF YM Lv Lv0 n
    ⟨fsnd_step K Y YE YI YF YM Lv Lv0 h1 h2, fsnd_step all_closed Y YE YI YF YM Lv0 Lv0 h2 h2⟩
end
end Mine
end

section
set_option maxRecDepth 100000
set_option linter.unusedVariables false
open PySem PySem.W PySem.Calls PyProof.Rows
namespace Mine
theorem size_line : sizeLine = 16777216 := sizeLine_eq
section
variable {𝒞 : Ctx → Prop} {S : Sys} {T : Tabs} {Φ : Frm} {n : Nat} {hd : Bool} {ρ₀ : RMap}
theorem lv_newL {as : List MV} {vs : List Value} (hl : as.length ≤ line) (h : VsRep ρ₀ as vs) : Snd 𝒞 S Φ n hd ρ₀ (newO (.list as)) (newList vs) VRep := by
  refine Snd.of_at fun A kp ρ objs loc s hp hA I => At.fin (a := .obj objs.length) (objs' := objs ++ [.list as]) (loc' := loc) (fun _ => rfl) fun Q E hQ => ?_
  refine wpAny_newList ?_ (by rw [h.length, size_line]; exact hl)
  refine hQ (ρ ++ [(s.heap.objs.size, none)]) _ _ (List.prefix_append _ _) (I.newO (t := s.toks) (fun b o e => Heap.get?_push_of_some _ e) (Heap.get?_none_of_le (Nat.le_refl _)) (fun d e => by cases e) ⟨rfl, vs, 0, Heap.get?_push_size _ rfl, (h.mono hp).mono (List.prefix_append _ _)⟩) ⟨_, by rw [← I.len]; exact List.getElem?_concat_length, rfl⟩
theorem lv_newT {as : List MV} {vs : List Value} (hl : as.length ≤ line) (h : VsRep ρ₀ as vs) : Snd 𝒞 S Φ n hd ρ₀ (newO (.tup as)) (newTuple vs) VRep := by
  refine Snd.of_at fun A kp ρ objs loc s hp hA I => At.fin (a := .obj objs.length) (objs' := objs ++ [.tup as]) (loc' := loc) (fun _ => rfl) fun Q E hQ => ?_
  refine wpAny_newTuple ?_ (by rw [h.length, size_line]; exact hl)
  refine hQ (ρ ++ [(s.heap.objs.size, none)]) _ _ (List.prefix_append _ _) (I.newO (t := s.toks) (fun b o e => Heap.get?_push_of_some _ e) (Heap.get?_none_of_le (Nat.le_refl _)) (fun d e => by cases e) ⟨rfl, vs, 0, Heap.get?_push_size _ rfl, (h.mono hp).mono (List.prefix_append _ _)⟩) ⟨_, by rw [← I.len]; exact List.getElem?_concat_length, rfl⟩
theorem lv_truthy {a : MV} {u : Value} (h : VRep ρ₀ a u) : Snd 𝒞 S Φ n hd ρ₀ (truthyM a) (truthy u) (fun _ a b => a = b) := by
  cases a with
  | none => obtain rfl : u = .none := h; exact Snd.leaf leaf_trn fun ρ v p hv => hv.symm
  | bool b =>
    obtain rfl : u = .bool b := h
    show Snd 𝒞 S Φ n hd ρ₀ (dec b) _ _
    rw [← ev_bind_pure (dec b)]
    exact Snd.dec (Snd.leaf leaf_tro fun ρ v p hv => hv.symm)
  | int i =>
    obtain ⟨t, rfl⟩ := h
    show Snd 𝒞 S Φ n hd ρ₀ (dec (!(decide (i = 0)))) _ _
    rw [← ev_bind_pure (dec _)]
    exact Snd.dec (Snd.leaf leaf_tri fun ρ v p hv => hv.symm)
  | str x =>
    obtain ⟨t, rfl⟩ := h
    show Snd 𝒞 S Φ n hd ρ₀ (need _ "truthy" >>= fun _ => dec (!(x.cps.toList.isEmpty))) _ _
    refine Snd.need fun hs => ?_
    rw [← ev_bind_pure (dec _)]
    exact Snd.dec (Snd.leaf (leaf_trs (of_decide_eq_true hs)) fun ρ v p hv => hv.symm)
  | bytes b =>
    obtain ⟨t, rfl⟩ := h
    show Snd 𝒞 S Φ n hd ρ₀ (need _ "truthy" >>= fun _ => dec (!(b.isEmpty))) _ _
    refine Snd.need fun hs => ?_
    rw [← ev_bind_pure (dec _)]
    exact Snd.dec (Snd.leaf (leaf_trb (of_decide_eq_true hs)) fun ρ v p hv => hv.symm)
  | _ => exact Snd.stop
theorem lv_neg {i : Int} {u : Value} (h : VRep ρ₀ (.int i) u) : Snd 𝒞 S Φ n hd ρ₀ (pure (.int (-i))) (unaryOp .USub u) VRep := by
  obtain ⟨t, rfl⟩ := h
  exact Snd.leaf (P := IsInt (-i)) (fun A s Q E _ _ _ k => PyProof.Rows.neg_int (k _ _ ⟨_, rfl⟩)) fun ρ v p hv => hv

theorem lookIn_of {o : Obj} {es : Array DictEntry} {ep : Nat} {m : Str → Option Value} (hd : o.data = .dict es ep) (hk : StrKeys es) (hm : ∀ x, nsFind es x = m x) (x : Str) : lookIn x o = some (m x) := by
  unfold lookIn
  rw [hd]
  dsimp only
  rw [← hm x]
  unfold nsFind findBy
  rw [← Array.find?_toList]
  cases q : es.toList.find? (·.key.isStr x) with
  | some e => rfl
  | none =>
    have : es.toList.any (·.refKey) = false := by
      rw [List.any_eq_false]; intro e he; obtain ⟨n, t, h⟩ := hk e (by simpa using he); simp [DictEntry.refKey, h]
    simp [this]
theorem inst_at {ρ : RMap} {h : Heap} {p : Addr × Option Addr} {C : Addr} {fs : Loc} (hr : ORep ρ h p (.inst C fs)) : ∃ d od es ep m, p.2 = some d ∧ h.get? p.1 = some (instObj C d) ∧ h.get? d = some od ∧ InstAt h p.1 (instObj C d) C (some od) ∧ od.data = .dict es ep ∧ StrKeys es ∧ (∀ x, nsFind es x = m x) ∧
    es.size ≤ fs.length ∧ FldRep ρ fs m ∧ ∀ x, lookIn x od = some (m x) := by
  obtain ⟨d, e, g, od, es, ep, m, ho, h1, h2, h3, h4, h5⟩ := hr
  exact ⟨d, od, es, ep, m, e, g, ho, ⟨g, rfl, rfl, ho⟩, h1, h2, h3, h4, h5, lookIn_of h1 h2 h3⟩
theorem handed_rep {ρ : RMap} {a : MV} {v : Value} (h : VRep ρ a v) : handedIn v = true := by
  cases a with
  | none => obtain rfl : v = .none := h; rfl
  | bool b => obtain rfl : v = .bool b := h; rfl
  | int i => obtain ⟨t, rfl⟩ := h; rfl
  | str x => obtain ⟨t, rfl⟩ := h; rfl
  | bytes b => obtain ⟨t, rfl⟩ := h; rfl
  | obj i => obtain ⟨p, _, rfl⟩ := h; rfl
  | bi b => obtain rfl : v = biVal b := h; cases b <;> decide +kernel
  | gl a => obtain rfl : v = .ref a := h; rfl
theorem findObj_own {K : Frag} {C : Addr} {od : Obj} {x : Str} {v : Value} (hh : (clsIn K C).any (·.hasDict) = true) (hf : findIn K (.ref C) x = some none) (hl : lookIn x od = some (some v)) : findObj K C (some od) x = some (.value v) := by
  obtain ⟨cd, hc, hd'⟩ := any_some hh
  unfold findObj
  rw [hc, Option.bind_some, hf, Option.bind_some]
  unfold PySem.W.ownOf
  rw [if_pos hd']
  show ((lookIn x od).bind _) = _
  rw [hl]
  rfl
theorem lv_attr (Y : SysOk S T) {a : MV} {u : Value} (x : Str) (ex : Bool) (h : VRep ρ₀ a u) : Snd 𝒞 S Φ n hd ρ₀ (attrM T a x) (getAttr u x ex) VRep := by
  cases a with
  | obj i =>
    obtain ⟨p, hp, rfl⟩ := h
    show Snd 𝒞 S Φ n hd ρ₀ (getO i >>= _) _ _
    refine Snd.getO fun A kp ρ objs loc s o p' pp hA I ho hρ hr => ?_
    have := pre_get pp hp; rw [hρ] at this; cases this
    cases o with
    | inst C fs =>
      dsimp only
      cases hc : lookA C T.clss with
      | none => exact At.stop
      | some ci =>
        rw [Option.bind_some]
        cases hin : inStrs x ci.fields with
        | false => exact At.stop
        | true =>
          cases hl : lookS x fs with
          | none => exact At.stop
          | some b =>
            have OC := Y.cls C ci hc
            obtain ⟨d, od, es, ep, m, e2, g, ho', IA, h1, h2, h3, h4, h5, h6⟩ := inst_at hr
            obtain ⟨v, hv, hvr⟩ := h5.1 x b hl
            refine At.pure I fun Q E k => ?_
            refine get_value (I.K Y) IA OC.get (findObj_own OC.hasd (OC.fld x hin).1 (by rw [h6, hv])) (handed_rep hvr) (k _ _ hvr)
    | _ => exact At.stop
  | gl C =>
    obtain rfl : u = .ref C := h
    show Snd 𝒞 S Φ n hd ρ₀ (match (lookA C T.clss).bind fun c => lookS x c.attrs with
      | some v => pure v
      | none => stop "class attr") _ _
    cases hc : lookA C T.clss with
    | none => exact Snd.stop
    | some ci =>
      rw [Option.bind_some]
      cases hl : lookS x ci.attrs with
      | none => exact Snd.stop
      | some b =>
        obtain ⟨v, a1, a2, a3, a4⟩ := (Y.cls C ci hc).attr x b hl
        refine Snd.of_at fun A kp ρ objs loc s hp hA I => At.pure I fun Q E k => ?_
        exact cls_value (I.K Y) a1 a2 a3 (k _ _ (a4.mono List.nil_prefix))
  | _ => exact Snd.stop
end
end Mine
end

section
set_option maxRecDepth 100000
set_option linter.unusedVariables false
open PySem PySem.W PySem.Calls PyProof.Rows
namespace Mine
theorem wp_nsSet_size {M : Model} {Γ : Ctx} {E : Value → Pos → Shared → Prop} {p : Pos} {s : Shared} {a : Addr} {o : Obj} {es : Array DictEntry} {ep : Nat} {m : Str → Option Value} (ho : s.heap.get? a = some o) (hd : o.data = .dict es ep) (hk : StrKeys es) (hm : ∀ x, nsFind es x = m x)
    (name : Str) (v : Value) (Q : Unit → Pos → Shared → Prop)
    (hQ : ∀ h' o' es' ep', h'.get? a = some o' → o'.data = .dict es' ep' → StrKeys es' → (∀ x, nsFind es' x = if x = name then some v else m x) → es'.size ≤ (if (m name).isSome then es.size else es.size + 1) → Heap.SameBut a s.heap h' →
      Q () p { s with heap := h', toks := s.toks + 1 }) : Sem.wp M Γ (nsSet a name v) Q E p s := by
  simp only [nsSet, strHash, Sem.wp_bind', Sem.wp_cmd_ask, Sem.wp_pure', Sem.wp_cmd_mkText]
  rw [Sem.wp_loadPart_of M Γ E p { s with toks := s.toks + 1 } (o := o) _ ho]
  have hany : es.any (·.refKey) = false := by
    rw [Array.any_eq_false']; intro e he; obtain ⟨n, t, h⟩ := hk e he; simp [DictEntry.refKey, h]
  simp only [hd, aRefKeyMayBeTheName_eq, aRefKeyMayBeTheNameByArray, hany, Bool.and_false, Bool.false_eq_true, if_false, Sem.wp_cmd_updatePart]
  obtain ⟨c, d, dt, sl⟩ := o
  subst hd
  cases hi : es.findIdx? (·.key.isStr name) with
  | some i =>
    refine ⟨by rw [ho]; rfl, hQ _ _ _ ep (Heap.get?_update_self _ ho (by simp only [Obj.putName_eq, Obj.putNameByArray, hi]; rfl)) (by simp only [Obj.putName_eq, Obj.putNameByArray, hi]; rfl) (hk.modify _ _) (fun x => ?_) ?_ (Heap.SameBut.update ..)⟩
    · rw [← hm]; exact findBy_modify (fun n v => v.isStr n) Value.isStr_inj es name x v i hi
    · split <;> simp
  | none =>
    have hn : m name = none := by
      rw [← hm]
      unfold nsFind findBy
      have : es.find? (·.key.isStr name) = none := by
        rw [Array.find?_eq_none]
        intro e he
        have := Array.findIdx?_eq_none_iff.mp hi e he
        simpa using this
      rw [this]; rfl
    refine ⟨by rw [ho]; rfl, hQ _ _ _ (ep + 1) (Heap.get?_update_self _ ho (by simp only [Obj.putName_eq, Obj.putNameByArray, hi]; rfl)) (by simp only [Obj.putName_eq, Obj.putNameByArray, hi]; rfl) (hk.push _ _ _ _) (fun x => ?_) ?_ (Heap.SameBut.update ..)⟩
    · rw [← hm]
      exact findBy_push (fun n v => v.isStr n) es name x _ _ v (fun y => by
        show (name == y) = decide (y = name)
        by_cases h : y = name
        · subst h; simp
        · have : ¬ name = y := fun e => h e.symm
          simp [h, this]) hi
    · rw [hn]; simp
theorem wpAny_nsSet_size {M : Model} {A : Around} {E : Value → Shared → Prop} {s : Shared} {a : Addr} {o : Obj} {es : Array DictEntry} {ep : Nat} {m : Str → Option Value} (ho : s.heap.get? a = some o) (hd : o.data = .dict es ep) (hk : StrKeys es) (hm : ∀ x, nsFind es x = m x)
    {name : Str} {v : Value} {Q : Unit → Shared → Prop}
    (hQ : ∀ h' o' es' ep', h'.get? a = some o' → o'.data = .dict es' ep' → StrKeys es' → (∀ x, nsFind es' x = if x = name then some v else m x) → es'.size ≤ (if (m name).isSome then es.size else es.size + 1) → Heap.SameBut a s.heap h' →
      Q () { s with heap := h', toks := s.toks + 1 }) : wpAny M A (nsSet a name v) Q E s := fun Γ p _ => wp_nsSet_size ho hd hk hm name v _ hQ
theorem putS_length {x : Str} {v : MV} : ∀ {l : Loc}, (putS x v l).length = if (lookS x l).isSome then l.length else l.length + 1
  | [] => rfl
  | (y, u) :: r => by
    unfold putS lookS
    cases q : strEq x y with
    | true => simp
    | false =>
      simp only [List.length_cons]
      rw [putS_length]
      split <;> simp_all
section
variable {𝒞 : Ctx → Prop} {S : Sys} {T : Tabs} {Φ : Frm} {n : Nat} {hd : Bool} {ρ₀ : RMap}
theorem lv_setA (Y : SysOk S T) {a b : MV} {u v : Value} (x : Str) (h : VRep ρ₀ a u) (hb : VRep ρ₀ b v) : Snd 𝒞 S Φ n hd ρ₀ (setAttrM T a x b) (setAttr u x v) (fun _ _ _ => True) := by
  cases a with
  | obj i =>
    obtain ⟨p, hp, rfl⟩ := h
    show Snd 𝒞 S Φ n hd ρ₀ (getO i >>= _) _ _
    refine Snd.getO fun A kp ρ objs loc s o p' pp hA I ho hρ hr => ?_
    have := pre_get pp hp; rw [hρ] at this; cases this
    cases o with
    | inst C fs =>
      dsimp only
      cases hc : lookA C T.clss with
      | none => exact At.stop
      | some ci =>
        rw [Option.bind_some]
        cases hin : inStrs x ci.fields with
        | false => exact At.stop
        | true =>
          refine At.need fun hlen => ?_
          have hlen := Nat.le_of_ble_eq_true hlen
          have OC := Y.cls C ci hc
          obtain ⟨d, od, es, ep, m, e2, g, ho', IA, h1, h2, h3, h4, h5, h6⟩ := inst_at hr
          refine At.fin (a := ()) (objs' := objs.set i (.inst C (putS x b fs))) (loc' := loc) (fun _ => rfl) fun Q E k => ?_
          have X := I.K Y
          refine set_plain X IA OC.seta ?_
          refine osa_open (s := { s with toks := s.toks + 1 }) X IA OC.over (r := none) (by unfold takerIn; rw [(OC.fld x hin).1]; rfl) fun bb => ?_
          obtain ⟨cd, hcd, hdict⟩ := any_some OC.hasd
          refine wpAny_bind (wpAny_pure (wpAny_bind (wpAny_bind (wpAny_loadPart (s := { s with toks := s.toks + 1 }) g (wpAny_bind ((looks_clsIn X hcd).here (s := { s with toks := s.toks + 1 }) ?_))))))
          rw [hdict]
          refine wpAny_pure (a := some d) (wpAny_bind (wpAny_pure (wpAny_bind ?_)))
          refine wpAny_nsSet_size (s := { s with toks := s.toks + 1 }) ho' h1 h2 h3 fun h' o' es' ep' g1 g2 g3 g4 g5 hs => ?_
          refine wpAny_bind (wpAny_lookBehind (s := { s with heap := h', toks := s.toks + 1 + 1 }) g1 (by rw [g2]; exact pastItsLine_dict (by rw [sizeLine_eq]; have : es'.size ≤ es.size + 1 := by { refine Nat.le_trans g5 ?_; split <;> omega }; omega)) (wpAny_pure ?_))
          refine k ρ () { s with heap := h', toks := s.toks + 1 + 1 } (List.prefix_refl _) (I.setO (i := i) hρ (fun b' o b1 b2 e => (hs.2 b' (fun z => b2 (by rw [z]; exact e2))).trans e) ?_) trivial
          have hpd : p.1 ≠ d := by
            intro z
            rw [z, ho'] at g
            cases g
            cases h1
          refine ⟨d, e2, (hs.2 _ hpd).trans g, o', es', ep', _, g1, g2, g3, g4, ?_, fun y c q => ?_, fun y q => ?_⟩
          · rw [putS_length]
            have e0 : (m x).isSome = (lookS x fs).isSome := by
              cases q : lookS x fs with
              | none => rw [h5.2 x q]; rfl
              | some c => obtain ⟨w, hw, _⟩ := h5.1 x c q; rw [hw]; rfl
            rw [e0] at g5
            split at g5 <;> split <;> simp_all <;> omega
          · rw [lookS_put] at q
            dsimp only
            by_cases hy : y = x
            · rw [if_pos hy] at q ⊢; cases q; exact ⟨v, rfl, hb.mono pp⟩
            · rw [if_neg hy] at q ⊢; exact h5.1 y c q
          · rw [lookS_put] at q
            dsimp only
            by_cases hy : y = x
            · rw [if_pos hy] at q; cases q
            · rw [if_neg hy] at q ⊢; exact h5.2 y q
    | _ => exact At.stop
  | _ => exact Snd.stop
end
end Mine
end

section
set_option maxRecDepth 100000
set_option linter.unusedVariables false
open PySem PySem.W PySem.Calls PyProof.Rows
namespace Mine
theorem get_cut {h : Heap} {L b : Nat} {o : Obj} (e : ({ h with objs := h.objs.extract 0 L } : Heap).get? b = some o) : h.get? b = some o := by
  unfold Heap.get? at e ⊢
  have hb : b < (h.objs.extract 0 L).size := by
    by_cases hb : b < (h.objs.extract 0 L).size
    · exact hb
    · have : (h.objs.extract 0 L)[b]? = none := Array.getElem?_eq_none (Nat.le_of_not_lt hb)
      rw [this] at e; cases e
  have hb' : b < h.objs.size := by simp at hb; omega
  have : (h.objs.extract 0 L)[b]? = h.objs[b]? := by
    rw [Array.getElem?_eq_getElem hb, Array.getElem?_eq_getElem hb']
    simp
  rwa [this] at e
theorem cut_get {h : Heap} {L b : Nat} {o : Obj} (hL : b < L) (e : h.get? b = some o) : ({ h with objs := h.objs.extract 0 L } : Heap).get? b = some o := by
  have hb' : b < h.objs.size := Heap.lt_size e
  unfold Heap.get? at e ⊢
  have hb : b < (h.objs.extract 0 L).size := by simp; omega
  have : (h.objs.extract 0 L)[b]? = h.objs[b]? := by
    rw [Array.getElem?_eq_getElem hb, Array.getElem?_eq_getElem hb']
    simp
  rw [this]; exact e
theorem Stn.fr {S : Sys} {T : Tabs} {ρ : RMap} {kp : List (Addr × Obj)} {L : Addr} {loc : Loc} {outer : List (Addr × Loc)} {objs : List MO} {s : Shared} (Y : SysOk S T) (I : Stn S ρ kp ((L, loc) :: outer) objs s) : ∃ h₀ m, Fr h₀ L s.heap m ∧ S.K.In h₀ := by
  obtain ⟨m, hm, _⟩ := I.frm (L, loc) (.head _)
  refine ⟨{ s.heap with objs := s.heap.objs.extract 0 L }, m, ⟨hm, fun b o e => get_cut e, ?_⟩, fun a o e => cut_get (I.high (L, loc) (.head _) a o e) (I.K Y a o e)⟩
  show (s.heap.objs.extract 0 L).size ≤ L
  simp; omega
theorem cmpName_eq {op : CmpOp} {x : Str} (h : cmpName op = some x) : (cmpInfo op).2.1 = x ∧ ∀ a b, compareOp op a b = richCompare op a b := by
  cases op <;> first
    | (simp only [cmpName, Option.some.injEq] at h; subst h; exact ⟨by decide +kernel, fun _ _ => rfl⟩)
    | cases h
theorem vrep_ni {ρ : RMap} {a : MV} {v : Value} (h : VRep ρ a v) : v ≠ .notImplemented := by
  cases a with
  | none => obtain rfl : v = .none := h; intro q; cases q
  | bool b => obtain rfl : v = .bool b := h; intro q; cases q
  | int i => obtain ⟨t, rfl⟩ := h; intro q; cases q
  | str x => obtain ⟨t, rfl⟩ := h; intro q; cases q
  | bytes b => obtain ⟨t, rfl⟩ := h; intro q; cases q
  | obj i => obtain ⟨p, _, rfl⟩ := h; intro q; cases q
  | bi b => obtain rfl : v = biVal b := h; cases b <;> (intro q; cases q)
  | gl a => obtain rfl : v = .ref a := h; intro q; cases q
theorem isFn_of {K : Frag} {f : Addr} (h : typeIn K (.ref f) = some (.type "function")) : isFn K (.ref f) = true := by
  unfold isFn; rw [h]; decide
theorem any_in (c : Str) : ∀ ss : List Str, ss.any (· == c) = inStrs c ss
  | [] => rfl
  | s :: r => by
    rw [List.any_cons, any_in c r]
    show _ = (match strEq c s with
      | true => true
      | false => inStrs c r)
    have : (s == c) = strEq c s := by
      rw [strEq_beq]
      cases h : strEq c s with
      | true => rw [strEq_iff.mp h, strEq_iff.mpr rfl]
      | false =>
        cases q : strEq s c with
        | false => rfl
        | true => rw [strEq_iff.mp q, strEq_iff.mpr rfl] at h; cases h
    rw [this]
    cases strEq c s <;> rfl
section
variable {𝒞 : Ctx → Prop} {S : Sys} {T : Tabs} {Φ : Frm} {n : Nat} {hd : Bool} {ρ₀ : RMap} {F0 : Fns}
theorem Wp.backs {kp : List (Addr × Obj)} {ρ : RMap} {o : Out MV} {Q : Value → Shared → Prop} {E : Value → Shared → Prop} (W : Wp S kp Φ VRep ρ o Q E) : Wp S kp Φ VRep ρ o (PySem.W.CmpBack Q) E := by
  cases o with
  | ok a st ob =>
    refine ⟨W.1, fun ρ' v s' p' I' r => ?_⟩
    have h := W.2 ρ' v s' p' I' r
    have hn := vrep_ni r
    unfold PySem.W.CmpBack
    cases v <;> first | exact h | exact absurd rfl hn
  | exc C st ob => exact W
  | bad w => exact W
noncomputable def SysT (S : Sys) (T : Tabs) : Prop := ∀ t ss, lookA t T.tups = some ss → ∃ vs, IsTup S.B t (List.toArray vs) ∧ StrsAre vs ss
theorem lv_cmp (Y : SysOk S T) (YT : SysT S T) (hc : ∀ {Φ n ρ₀} op {a b u v}, VRep ρ₀ a u → VRep ρ₀ b v → Snd 𝒞 S Φ n false ρ₀ (cmpM op a b) (compareOp op u v) VRep)
    (H : FSnd AllC S T n F0) (op : CmpOp) {a b : MV} {u v : Value} (ha : VRep ρ₀ a u) (hb : VRep ρ₀ b v) : Snd 𝒞 S Φ n false ρ₀ (cmpOwn T F0 op a b) (compareOp op u v) VRep := by
  cases a with
  | str c =>
    show Snd _ _ _ _ _ _ (match op, b with
      | .In, .gl t => (match lookA t T.tups with
        | some ss => pure (.bool (inStrs c ss))
        | none => stop "in")
      | _, _ => cmpM op (.str c) b) _ _
    split
    · rename_i t
      obtain rfl : v = .ref t := hb
      obtain ⟨tk, rfl⟩ := ha
      cases ht : lookA t T.tups with
      | none => exact Snd.stop
      | some ss =>
        obtain ⟨vs, h1, h2⟩ := YT t ss ht
        refine Snd.of_at fun A kp ρ objs loc s hp hA I => At.pure I fun Q E k => ?_
        refine in_tuple_strs (h1.keeps I.base) h2 (k _ s.toks ?_)
        show _ = _
        congr 1
        exact any_in c ss
    · exact hc op ha hb
  | obj i =>
    obtain ⟨p, hp, rfl⟩ := ha
    show Snd 𝒞 S Φ n false ρ₀ (getO i >>= _) _ _
    refine Snd.of_at fun A kp ρ objs loc s pp hA I => At.getO I fun o p' ho hρ hr => ?_
    have := pre_get pp hp; rw [hρ] at this; cases this
    cases o with
    | inst C fs =>
      dsimp only
      cases hn : cmpName op with
      | none => exact At.stop
      | some nm =>
        rw [Option.bind_some]
        cases hcl : lookA C T.clss with
        | none => exact At.stop
        | some ci =>
          rw [Option.bind_some]
          cases hm : lookS nm ci.meths with
          | none => exact At.stop
          | some f =>
            cases b with
            | obj j =>
              obtain ⟨q, hq, rfl⟩ := hb
              refine At.getO I fun o' q' ho' hρ' hr' => ?_
              have := pre_get pp hq; rw [hρ'] at this; cases this
              cases o' with
              | inst D fs' =>
                dsimp only
                cases hCD : Nat.beq C D with
                | false => exact At.stop
                | true =>
                  have := Nat.eq_of_beq_eq_true hCD; subst this
                  obtain ⟨e1, e2⟩ := cmpName_eq hn
                  have OC := Y.cls C ci hcl
                  obtain ⟨m1, m2, m3⟩ := OC.meth nm f hm
                  obtain ⟨h₀, mm, F₀, X₀⟩ := I.fr Y
                  obtain ⟨d, od, es, ep, m, e3, g, ho2, IA, _⟩ := inst_at hr
                  obtain ⟨d', od', es', ep', m', e3', g', ho2', IA', _⟩ := inst_at hr'
                  intro orc Q E W
                  rw [e2]
                  refine wpC_of <| cmp_K (Nat.lt_of_le_of_lt (by have := hA.units; omega : A.units ≤ 9000) (by decide)) F₀ X₀ IA (IA'.type) (tb := .ref C) (by unfold notFirst; simp) (by rw [e1]; exact m1) (isFn_of m2) ?_
                  exact wpC_all <| H.ca (ρ₀ := ρ) f [.obj i, .obj j] [.ref p.1, .ref q.1] (.cons ⟨p, hρ, rfl⟩ (.cons ⟨q, hρ', rfl⟩ .nil)) A kp ρ ⟨objs, loc, orc⟩ s _ _ (List.prefix_refl _) hA.w I W.backs
              | _ => exact At.stop
            | _ => exact At.stop
    | _ => exact (hc op (a := .obj i) (u := .ref p.1) ⟨p, hp, rfl⟩ hb).at pp hA I
  | _ => exact hc op ha hb
theorem lv_item (Y : SysOk S T) (hc : ∀ {Φ n hd ρ₀} {a b u v} {value slice : Expr}, VRep ρ₀ a u → VRep ρ₀ b v → (∀ l r p, slice ≠ .Slice l r none p) → Snd 𝒞 S Φ n hd ρ₀ (itemM a b) (subscriptTail value slice u v) VRep)
    (H : FSnd AllC S T n F0) {a b : MV} {u v : Value} {value slice : Expr} (ha : VRep ρ₀ a u) (hb : VRep ρ₀ b v) (hs : ∀ l r p, slice ≠ .Slice l r none p) : Snd 𝒞 S Φ n false ρ₀ (itemOwn T F0 a b) (subscriptTail value slice u v) VRep := by
  cases a with
  | obj i =>
    obtain ⟨p, hp, rfl⟩ := ha
    show Snd 𝒞 S Φ n false ρ₀ (getO i >>= _) _ _
    refine Snd.of_at fun A kp ρ objs loc s pp hA I => At.getO I fun o p' ho hρ hr => ?_
    have := pre_get pp hp; rw [hρ] at this; cases this
    cases o with
    | inst C fs =>
      dsimp only
      cases hcl : lookA C T.clss with
      | none => exact At.stop
      | some ci =>
        rw [Option.bind_some]
        cases hm : lookS nGetitem ci.meths with
        | none => exact At.stop
        | some f =>
          have OC := Y.cls C ci hcl
          obtain ⟨m1, m2, m3⟩ := OC.meth nGetitem f hm
          have e1 : nGetitem = ("__getitem__" : Str) := by decide +kernel
          rw [e1] at m1
          obtain ⟨h₀, mm, F₀, X₀⟩ := I.fr Y
          obtain ⟨d, od, es, ep, m, e3, g, ho2, IA, _⟩ := inst_at hr
          intro orc Q E W
          refine wpC_of <| sub_K F₀ X₀ IA m1 m3 (isFn_of m2) ?_ ?_
          · refine wpC_all <| H.ca (ρ₀ := ρ) f [.obj i, b] [.ref p.1, v] (.cons ⟨p, hρ, rfl⟩ (.cons (hb.mono pp) .nil)) A.in1 kp ρ ⟨objs, loc, orc⟩ s _ _ (List.prefix_refl _) ⟨hA.frames, by have := hA.depth; show A.depth + 8 * n ≤ 904; omega, by show A.units + 1 + 24 * n ≤ 9012; have := hA.units; omega, hA.handled rfl, hA.envs⟩ I W
          · cases slice with
            | Slice l r st p =>
              cases st with
              | none => exact absurd rfl (hs l r p)
              | some _ => rfl
            | _ => rfl
    | _ => exact (hc (a := .obj i) (u := .ref p.1) ⟨p, hp, rfl⟩ hb hs).at pp hA I
  | _ => exact hc ha hb hs
end
end Mine
end

section
set_option maxRecDepth 100000
set_option linter.unusedVariables false
open PySem PySem.W PySem.Calls PyProof.Rows
namespace Mine
section
variable {𝒞 : Ctx → Prop} {S : Sys} {T : Tabs} {Φ : Frm} {n : Nat} {hd : Bool} {ρ₀ : RMap}
theorem leaf_pow {i j : Int} {t u : Tok} (h : i = 16 ∧ 0 ≤ j ∧ j ≤ 3) : Leaf S hd (binaryOp .Pow (.int i t) (.int j u)) (IsInt (i ^ j.toNat)) := by
  obtain ⟨rfl, h0, h1⟩ := h
  intro A s Q E _ _ _ k
  have hj : j = 0 ∨ j = 1 ∨ j = 2 ∨ j = 3 := by omega
  rcases hj with rfl | rfl | rfl | rfl
  · exact AutoIntOps.pow_0 (by decide) (by decide) (k _ _ ⟨_, rfl⟩)
  · exact AutoIntOps.pow_4 (by decide) (by decide) (by decide) (by decide) (by decide +kernel) (k _ _ ⟨_, rfl⟩)
  · exact AutoIntOps.pow_4 (by decide) (by decide) (by decide) (by decide) (by decide +kernel) (k _ _ ⟨_, rfl⟩)
  · exact AutoIntOps.pow_4 (by decide) (by decide) (by decide) (by decide) (by decide +kernel) (k _ _ ⟨_, rfl⟩)
theorem lv_bin (op : Operator) {a b : MV} {u v : Value} (ha : VRep ρ₀ a u) (hb : VRep ρ₀ b v) : Snd 𝒞 S Φ n hd ρ₀ (binM op a b) (binaryOp op u v) VRep := by
  cases op with
  | Add => 
    cases a with
    | int x => 
      cases b with
      | int y => 
        obtain ⟨t, rfl⟩ := ha; obtain ⟨t', rfl⟩ := hb
        exact Snd.leaf leaf_add fun ρ v p hv => hv
      | _ => exact Snd.stop
    | str x => 
      cases b with
      | str y => 
        obtain ⟨t, rfl⟩ := ha; obtain ⟨t', rfl⟩ := hb
        exact Snd.need fun h => Snd.leaf (leaf_adds (of_decide_eq_true h)) fun ρ v p hv => hv
      | _ => exact Snd.stop
    | bytes x => 
      cases b with
      | bytes y => 
        obtain ⟨t, rfl⟩ := ha; obtain ⟨t', rfl⟩ := hb
        exact Snd.need fun h => Snd.leaf (leaf_addb (of_decide_eq_true h)) fun ρ v p hv => hv
      | _ => exact Snd.stop
    | obj i => 
      cases b with
      | obj j => 
        obtain ⟨p, hp, rfl⟩ := ha
        obtain ⟨q, hq, rfl⟩ := hb
        refine Snd.of_at fun A kp ρ objs loc s pp hA I => At.getO I fun o p' ho hρ hr => At.getO I fun o' q' ho' hρ' hr' => ?_
        have := pre_get pp hp; rw [hρ] at this; cases this
        have := pre_get pp hq; rw [hρ'] at this; cases this
        cases o with
        | list xs =>
          cases o' with
          | list ys =>
            refine At.need fun hl => ?_
            have hl := of_decide_eq_true hl
            obtain ⟨_, vs, nn, hg, hvs⟩ := hr
            obtain ⟨_, ws, nn', hg', hws⟩ := hr'
            refine At.fin (a := .obj objs.length) (objs' := objs ++ [.list (xs ++ ys)]) (loc' := loc) (fun _ => rfl) fun Q E k => ?_
            refine concat_meets ⟨_, hg, rfl⟩ ⟨_, hg', rfl⟩ noFill_list_add seq_list_add PySem.F.slot_list_add PySem.F.entry_list_add (PySem.F.args_list_add_2 _ _)
              (list_addW p.1 q.1 vs.toArray ws.toArray nn nn' none none #[] #[] (by rw [size_line]; simp [hvs.length, hws.length]; exact hl)) ⟨hg, hg', ?_⟩
            have e : vs.toArray ++ ws.toArray = (vs ++ ws).toArray := by simp
            rw [e]
            exact k (ρ ++ [(s.heap.objs.size, none)]) _ _ (List.prefix_append _ _) (I.newO (t := s.toks) (fun b o e => Heap.get?_push_of_some _ e) (Heap.get?_none_of_le (Nat.le_refl _)) (fun d e => by cases e) ⟨rfl, vs ++ ws, 0, Heap.get?_push_size _ rfl, (hvs.append hws).mono (List.prefix_append _ _)⟩) ⟨_, by rw [← I.len]; exact List.getElem?_concat_length, rfl⟩
          | _ => exact At.stop
        | _ => exact At.stop
      | _ => exact Snd.stop
    | _ => exact Snd.stop
  | Sub => 
    cases a with
    | int x => 
      cases b with
      | int y => 
        obtain ⟨t, rfl⟩ := ha; obtain ⟨t', rfl⟩ := hb
        exact Snd.leaf leaf_sub fun ρ v p hv => hv
      | _ => exact Snd.stop
    | _ => exact Snd.stop
  | Mult => 
    cases a with
    | int x => 
      cases b with
      | int y => 
        obtain ⟨t, rfl⟩ := ha; obtain ⟨t', rfl⟩ := hb
        exact Snd.need fun h => Snd.leaf (leaf_mul (of_decide_eq_true h).1 (of_decide_eq_true h).2) fun ρ v p hv => hv
      | _ => exact Snd.stop
    | bytes x => 
      cases b with
      | int k => 
        obtain ⟨t, rfl⟩ := ha; obtain ⟨t', rfl⟩ := hb
        exact Snd.need fun h => Snd.leaf (leaf_mulb (of_decide_eq_true h).1 (of_decide_eq_true h).2.1 (of_decide_eq_true h).2.2) fun ρ v p hv => hv
      | _ => exact Snd.stop
    | _ => exact Snd.stop
  | FloorDiv => 
    cases a with
    | int x => 
      cases b with
      | int y => 
        obtain ⟨t, rfl⟩ := ha; obtain ⟨t', rfl⟩ := hb
        exact Snd.need fun h => Snd.leaf (leaf_div (of_decide_eq_true h).1 (of_decide_eq_true h).2) fun ρ v p hv => hv
      | _ => exact Snd.stop
    | _ => exact Snd.stop
  | Mod => 
    cases a with
    | int x => 
      cases b with
      | int y => 
        obtain ⟨t, rfl⟩ := ha; obtain ⟨t', rfl⟩ := hb
        exact Snd.need fun h => Snd.leaf (leaf_mod (of_decide_eq_true h)) fun ρ v p hv => hv
      | _ => exact Snd.stop
    | _ => exact Snd.stop
  | Pow => 
    cases a with
    | int x => 
      cases b with
      | int y => 
        obtain ⟨t, rfl⟩ := ha; obtain ⟨t', rfl⟩ := hb
        exact Snd.need fun h => Snd.leaf (leaf_pow (of_decide_eq_true h)) fun ρ v p hv => hv
      | _ => exact Snd.stop
    | _ => exact Snd.stop
  | _ => exact Snd.stop
end
end Mine
end

section
set_option maxRecDepth 100000
set_option linter.unusedVariables false
open PySem PySem.W PySem.Calls PyProof.Rows
namespace Mine
theorem no_dite {c : Prop} {i : Decidable c} {f : c → Bool} {g : ¬c → Bool} (h : ¬c) (k : ¬ (g h = true)) : ¬ (@dite Bool c i f g = true) := by rw [dif_neg h]; exact k
theorem exported_clean {Γ : Ctx} (h : Clean Γ) (p : Pos) (a : Addr) : (((Γ.code, p) :: Γ.below).any fun
    | (.builtin "bytearray.__contains__" ⟨v :: _, _⟩, _) | (.builtin "bytearray.__mod__" ⟨v :: _, _⟩, _)
    | (.builtin "bytearray.__rmod__" ⟨_ :: v :: _, _⟩, _) | (.builtin "_struct.pack_into.held" ⟨v :: _, _⟩, _) => Builtin.Bytes.sameRef v (.ref a)
    | (.builtin "bytearray.find.held" ⟨_ :: _ :: held, _⟩, _) => held.any (Builtin.Bytes.sameRef (.ref a))
    | (.builtin i ⟨v :: _, _⟩, _) => Builtin.Bytes.sameRef v (.ref a) && Builtin.Bytes.decodersThatHold.contains i
    | _ => false) = false := by
  rw [List.any_eq_false]
  intro x hx
  obtain ⟨c, q⟩ := x
  have hc : okC c = true := by
    rcases List.mem_cons.mp hx with e | hx
    · injection e with e1 _; rw [e1]; exact h.1
    · exact h.2 _ hx
  cases c with
  | builtin i args =>
    have hn : badIds.contains i = false := by
      unfold okC at hc
      simpa using hc
    have no : ∀ s, badIds.contains s = true → i ≠ s := fun s h1 h2 => by rw [h2, h1] at hn; cases hn
    have n1 := no "bytearray.__contains__" (by decide +kernel)
    have n2 := no "bytearray.__mod__" (by decide +kernel)
    have n3 := no "bytearray.__rmod__" (by decide +kernel)
    have n4 := no "_struct.pack_into.held" (by decide +kernel)
    have n5 := no "bytearray.find.held" (by decide +kernel)
    clear no
    delta exported_clean.match_1
    refine no_dite n1 ?_
    refine no_dite n2 ?_
    refine no_dite n3 ?_
    refine no_dite n4 ?_
    refine no_dite n5 ?_
    have hd : Builtin.Bytes.decodersThatHold.contains i = false := by
      unfold badIds at hn
      rw [List.contains_eq_any_beq, List.any_append, Bool.or_eq_false_iff, ← List.contains_eq_any_beq] at hn
      exact hn.1
    obtain ⟨pos, kw⟩ := args
    cases pos with
    | nil => exact Bool.false_ne_true
    | cons v r =>
      show ¬ ((Builtin.Bytes.sameRef v (.ref a) && Builtin.Bytes.decodersThatHold.contains i) = true)
      rw [hd, Bool.and_false]
      exact Bool.false_ne_true
  | _ => exact Bool.false_ne_true

section
variable {𝒞 : Ctx → Prop} {w : World} {A : Around} {E : Value → Shared → Prop} {s : Shared}
theorem codeC_call_builtin (K : Closed 𝒞) {id : String} {args : Args} {b : PySem.Builtin} {R : Result → Shared → Prop} (hq : plainId id = true) (hok : okC (.builtin id args) = true) (hb : entryFor table id = some b)
    (h : wpAny (model pw w) A.in1 (checkBuiltinCall id args) (fun _ s₁ => wpC 𝒞 (model pw w) A.in1 (b args) (fun fin s' => ∃ f, fin = .done f ∧ R (.ok f) s') (fun e s' => R (.error e) s') s₁) (fun e s' => R (.error e) s') s) :
    codeC 𝒞 (model pw w) A (.call (.builtin id) args) R s := by
  refine codeC_of_tree K (wpC_of ?_)
  show wpAny _ A.in1 (do checkBuiltinCall id args; again (.builtin id args)) _ _ s
  refine wpAny_bind (wpAny_mono h (fun _ s₁ h₁ => wpAny_pure ⟨plainId_quiet hq args, hok, codeC_of_tree K ?_⟩) fun _ _ h' => h')
  show wpC 𝒞 _ _ (match entryFor table id with | some b => b args | none => unsupported ((withoutEnding? id "#data").getD id)) _ _ s₁
  rw [hb, Around.under_plainId hq args]
  refine wpC_mono h₁ (fun fin s' hf => ?_) fun _ _ h => h
  obtain ⟨f, rfl, hf⟩ := hf
  exact hf
theorem wpC_call_slot (K : Closed 𝒞) {T : String} {name : Str} {id : String} {B : PySem.Builtin} {self : Value} {rest : List Value} {Q : Value → Shared → Prop} (slot : Slot T name id) (hT : s.TypeIs self T) (hok : okC (.builtin id ⟨self :: rest, []⟩) = true)
    (entry : entryFor table id = some B) (args : argsOk id ⟨self :: rest, []⟩) (h : wpC 𝒞 (model pw w) A.in1 (B ⟨self :: rest, []⟩) (fun fin s' => ∃ v, fin = .done (.ret v) ∧ Q v s') E s) :
    wpC 𝒞 (model pw w) A (call (.builtin id) (self :: rest)) Q E s := by
  refine wpC_call K (codeC_call_builtin K slot.plain hok entry (slot.check _ _ _ _ _ _ _ _ hT args (wpC_mono h (fun fin s' hf => ?_) fun _ _ h => h)))
  obtain ⟨v, rfl, hv⟩ := hf
  exact ⟨_, rfl, hv⟩
theorem wpC_exported {M : Model} {a : Addr} {Q : Bool → Shared → Prop} (h : Q false s) : wpC Clean M A (Builtin.Bytes.exported (.ref a)) Q E s := fun Γ p hΓ hC => by
  have := exported_clean hC p a
  unfold Builtin.Bytes.exported
  rw [Sem.wp_bind']
  unfold stack
  rw [Sem.wp_stack]
  show Q _ s
  generalize hg : List.any ((Γ.code, p) :: Γ.below) _ = b
  obtain rfl : b = false := hg.symm.trans this
  exact h
end
namespace FA
theorem slot_append : Slot "bytearray" "append" "bytearray.append" :=
  .of (owner := "bytearray") (n := "append") (by rw [typeLookup_type, builtinLookup_eq_fast]; kernel_rfl) (by decide +kernel) (by decide +kernel) (by decide +kernel)
    (by first | exact .inl (by decide +kernel) | exact .inr (by decide +kernel)) (by rw [isSubtype_type]; kernel_rfl)
theorem type_append : typeOf (.builtin "bytearray.append") = pure (.type "method_descriptor") := by show builtinType _ = _; rw [builtinType_eq_fast]; kernel_rfl
theorem entry_append : entryFor table "bytearray.append" = some Builtin.«bytearray.append» := entryFor_of_tree (by kernel_rfl)
theorem args_append (a b : Value) : argsOk "bytearray.append" ⟨[a, b], []⟩ := by unfold argsOk; kernel_rfl
theorem slot_iadd : Slot "bytearray" "__iadd__" "bytearray.__iadd__" :=
  .of (owner := "bytearray") (n := "__iadd__") (by rw [typeLookup_type, builtinLookup_eq_fast]; kernel_rfl) (by decide +kernel) (by decide +kernel) (by decide +kernel)
    (by first | exact .inl (by decide +kernel) | exact .inr (by decide +kernel)) (by rw [isSubtype_type]; kernel_rfl)
theorem entry_iadd : entryFor table "bytearray.__iadd__" = some Builtin.«bytearray.__iadd__» := entryFor_of_tree (by kernel_rfl)
theorem args_iadd (a b : Value) : argsOk "bytearray.__iadd__" ⟨[a, b], []⟩ := by unfold argsOk; kernel_rfl
theorem slot_len : Slot "bytearray" "__len__" "bytearray.__len__" :=
  .of (owner := "bytearray") (n := "__len__") (by rw [typeLookup_type, builtinLookup_eq_fast]; kernel_rfl) (by decide +kernel) (by decide +kernel) (by decide +kernel)
    (by first | exact .inl (by decide +kernel) | exact .inr (by decide +kernel)) (by rw [isSubtype_type]; kernel_rfl)
theorem entry_len : entryFor table "bytearray.__len__" = some Builtin.«bytearray.__len__» := entryFor_of_tree (by kernel_rfl)
theorem args_len (a : Value) : argsOk "bytearray.__len__" ⟨[a], []⟩ := by unfold argsOk; kernel_rfl
theorem plainAttrs : PlainAttrs "bytearray" :=
  ⟨⟨"bytearray.__getattribute__", by rw [typeLookup_type, builtinLookup_eq_fast]; kernel_rfl, by decide +kernel⟩, by rw [typeLookup_type, builtinLookup_eq_fast]; kernel_rfl⟩
end FA
end Mine
end

section
set_option maxRecDepth 100000
set_option linter.unusedVariables false
open PySem PySem.W PySem.Calls PyProof.Rows
namespace Mine
noncomputable abbrev barrObj (b : List UInt8) : Obj := { cls := .type "bytearray", data := .bytearray b.toArray 0 }
section
variable {w : World} {A : Around} {E : Value → Shared → Prop} {s : Shared} {a : Addr} {b : List UInt8}
theorem wpC_checkResize {M : Model} {Q : Unit → Shared → Prop} (ho : s.heap.get? a = some (barrObj b)) (h : Q () s) : wpC Clean M A (Builtin.Bytes.checkResize (.ref a)) Q E s := by
  unfold Builtin.Bytes.checkResize
  refine wpC_bind ?_
  unfold orM
  refine wpC_bind (wpC_exported ?_)
  show wpC Clean M A (Builtin.Bytes.exportsOf (.ref a) >>= fun n => pure (decide (n > 0))) _ E s
  unfold Builtin.Bytes.exportsOf
  refine wpC_bind (wpC_of (wpAny_bind (wpAny_load ho (wpAny_pure ?_))))
  refine wpC_pure ?_
  simp only [Nat.lt_irrefl, decide_false, Bool.false_eq_true, if_false]
  exact wpC_pure h
theorem wpAny_barrWrite {M : Model} {f : Array UInt8 → Array UInt8} {c : List UInt8} {Q : Unit → Shared → Prop} (ho : s.heap.get? a = some (barrObj b)) (hf : f b.toArray = c.toArray) (hz : c.length ≤ line)
    (h : ∀ h', h'.get? a = some (barrObj c) → Heap.SameBut a s.heap h' → Q () { s with heap := h' }) : wpAny M A (Builtin.Bytes.write (.ref a) f) Q E s := by
  unfold Builtin.Bytes.write updateBytearray
  refine wpAny_bind (wpAny_load ho ?_)
  refine wpAny_bind (wpAny_update ho ?_)
  have g : (s.heap.update a (Obj.mapBytearray f)).get? a = some (barrObj c) := by
    rw [Heap.get?_update_self _ ho rfl]
    show some ({ cls := .type "bytearray", data := .bytearray (f b.toArray) 0 } : Obj) = _
    rw [hf]
  refine wpAny_lookBehind (s := { s with heap := s.heap.update a (Obj.mapBytearray f) }) g ?_ (h _ g (Heap.SameBut.update ..))
  show (if c.toArray.size > sizeLine then some _ else none) = none
  rw [if_neg (by rw [size_line, List.size_toArray]; unfold line at hz; omega)]
theorem wpC_barr_append {k : Int} {t : Tok} {Q : Value → Shared → Prop} (ho : s.heap.get? a = some (barrObj b)) (h0 : 0 ≤ k) (h1 : k < 256) (hz : b.length + 1 ≤ line)
    (h : ∀ h', h'.get? a = some (barrObj (b ++ [UInt8.ofNat k.toNat])) → Heap.SameBut a s.heap h' → Q .none { s with heap := h' }) : wpC Clean (model pw w) A (call (.builtin "bytearray.append") [.ref a, .int k t]) Q E s := by
  refine wpC_call_slot clean_closed FA.slot_append ⟨_, ho, rfl⟩ (by show (!badIds.contains "bytearray.append") = true; decide +kernel) FA.entry_append (FA.args_append _ _) ?_
  have e : Builtin.«bytearray.append» ⟨[.ref a, .int k t], []⟩ = (Builtin.Bytes.byteValue (.int k t) >>= fun c => Builtin.Bytes.checkResize (.ref a) >>= fun _ => Builtin.Bytes.write (.ref a) (·.push c) >>= fun _ => ret .none) := by kernel_rfl
  rw [e]
  refine wpC_bind (wpC_of ?_)
  unfold Builtin.Bytes.byteValue
  refine wpAny_bind (wpAny_of_eq (a := k) rfl ?_)
  have hk : (decide (k < 0) || decide (k ≥ 256)) = false := by simp; omega
  rw [hk]
  refine wpAny_pure ?_
  refine wpC_bind (wpC_checkResize ho ?_)
  refine wpC_of (wpAny_bind (wpAny_barrWrite (c := b ++ [UInt8.ofNat k.toNat]) ho (by simp) (by simpa using hz) fun h' g hs => wpAny_pure ⟨_, rfl, h h' g hs⟩))
end
namespace FA
theorem look_add : typeLookup (.type "bytearray") (dunder "add") = pure (some (.builtin "bytearray.__add__")) := by rw [typeLookup_type, builtinLookup_eq_fast]; kernel_rfl
theorem noR : typeLookup (.type "bytearray") (dunderR "add") = pure none := by rw [typeLookup_type, builtinLookup_eq_fast]; kernel_rfl
theorem noRb : typeLookup (.type "bytes") (dunderR "add") = pure none := by rw [typeLookup_type, builtinLookup_eq_fast]; kernel_rfl
theorem noFill : fillsNumberSlot (.type "bytearray") "add" = pure false := PySem.fillsNumberSlot_seq (id := "bytearray.__add__") (r := none) look_add (by decide +kernel) noR rfl
theorem noFillb : fillsNumberSlot (.type "bytes") "add" = pure false := PySem.fillsNumberSlot_seq (id := "bytes.__add__") (r := none) FB.slot_bytes_add.lookup (by decide +kernel) noRb rfl
theorem lookI : typeLookup (.type "bytearray") (dunderI "add") = pure (some (.builtin "bytearray.__iadd__")) := by rw [typeLookup_type, builtinLookup_eq_fast]; kernel_rfl
theorem noFillI : fillsInplaceSlot (.type "bytearray") "add" true = pure false := by
  show (typeLookup (.type "bytearray") (dunderI "add") >>= fun fi => (pure (fi.isSome && !isSeqSlot fi) : Sem Bool)) = pure false
  rw [lookI, pure_bind]
  have : isSeqSlot (some (.builtin "bytearray.__iadd__")) = true := by decide +kernel
  rw [this]; rfl
theorem seqI : seqSlot? (.type "bytearray") (dunderI "add") = pure (some (.builtin "bytearray.__iadd__")) := PySem.seqSlot_of lookI (by decide +kernel)
end FA
section
variable {w : World} {A : Around} {E : Value → Shared → Prop} {s : Shared} {a : Addr} {b : List UInt8}
theorem wpC_inplace_barr {y : Array UInt8} {t : Tok} {Q : Value → Shared → Prop} (ho : s.heap.get? a = some (barrObj b)) (h : wpC Clean (model pw w) A (call (.builtin "bytearray.__iadd__") [.ref a, .bytes y t]) Q E s) : wpC Clean (model pw w) A (inplaceOp .Add (.ref a) (.bytes y t)) Q E s := by
  have hT : s.TypeIs (.ref a) "bytearray" := ⟨_, ho, rfl⟩
  have hb : s.TypeIs (.bytes y t) "bytes" := rfl
  unfold inplaceOp
  refine wpC_holding (wpC_bind (wpC_of (wpAny_typeOf hT ?_)))
  show wpC Clean _ _ (fillsInplaceSlot (.type "bytearray") "add" true >>= _) _ _ _
  rw [FA.noFillI]
  refine wpC_bind (wpC_pure ?_)
  rw [if_neg Bool.false_ne_true]
  have one : wpAny (model pw w) A (binaryOp1 "add" (.ref a) (.bytes y t)) (fun r s' => r = none ∧ s' = s) E s := by
    unfold binaryOp1
    refine wpAny_bind (wpAny_typeOf hT (wpAny_bind (wpAny_typeOf hb ?_)))
    rw [FA.noFill, FA.noFillb]
    refine wpAny_bind (wpAny_pure (wpAny_bind ?_))
    exact wpAny_pure (wpAny_bind (wpAny_pure (wpAny_pure ⟨rfl, rfl⟩)))
  refine wpC_bind (wpC_of (wpAny_mono one (fun r s' hr => ?_) fun _ _ h => h))
  obtain ⟨rfl, rfl⟩ := hr
  show wpC Clean _ _ (seqSlot? (.type "bytearray") (dunderI "add") >>= _) _ _ _
  rw [FA.seqI]
  refine wpC_bind (wpC_pure ?_)
  exact wpC_bind (wpC_of (wpAny_rule h))
end
end Mine
end

section
set_option maxRecDepth 100000
set_option linter.unusedVariables false
open PySem PySem.W PySem.Calls PyProof.Rows
namespace Mine
namespace FA
theorem take_eq (y : Array UInt8) (t : Tok) : Builtin.Bytes.takeBufferQuiet? "bytearray.__iadd__" (.bytes y t) 0 = pure (some (y, none)) := by kernel_rfl
end FA
section
variable {w : World} {A : Around} {E : Value → Shared → Prop} {s : Shared} {a : Addr} {b : List UInt8}
theorem wpC_barr_iadd {y : List UInt8} {t : Tok} {Q : Value → Shared → Prop} (ho : s.heap.get? a = some (barrObj b)) (hz : b.length + y.length ≤ line)
    (h : ∀ h', h'.get? a = some (barrObj (b ++ y)) → Heap.SameBut a s.heap h' → Q (.ref a) { s with heap := h' }) : wpC Clean (model pw w) A (inplaceOp .Add (.ref a) (.bytes y.toArray t)) Q E s := by
  refine wpC_inplace_barr ho ?_
  refine wpC_call_slot clean_closed FA.slot_iadd ⟨_, ho, rfl⟩ (by show (!badIds.contains "bytearray.__iadd__") = true; decide +kernel) FA.entry_iadd (FA.args_iadd _ _) ?_
  have e : Builtin.«bytearray.__iadd__» ⟨[.ref a, .bytes y.toArray t], []⟩ = (Builtin.Bytes.takeBufferQuiet? "bytearray.__iadd__" (.bytes y.toArray t) 0 >>= fun r => match r with
    | some (more, w) => Builtin.Bytes.thenGiveBack w (do
        if !more.isEmpty then
          if Builtin.Bytes.sameRef (.ref a) (.bytes y.toArray t) then
            rule "bytearray.__iadd__.itself"; raiseError "BufferError" "Existing exports of data: object cannot be re-sized"
          Builtin.Bytes.checkResize (.ref a)
        if Builtin.Bytes.tooLong ((← Builtin.Bytes.payload (.ref a)).size + more.size) then unsupported "bytearray.__iadd__:memory"
        Builtin.Bytes.write (.ref a) (· ++ more)
        ret (.ref a))
    | none => do rule "bytearray.__iadd__.not-bytes-like"; raiseError "TypeError" s!"can't concat {← typeNameOf (.bytes y.toArray t)} to {← typeNameOf (.ref a)}") := by kernel_rfl
  rw [e, FA.take_eq]
  refine wpC_bind (wpC_pure ?_)
  have tail : wpC Clean (model pw w) A.in1 (do
        if Builtin.Bytes.tooLong ((← Builtin.Bytes.payload (.ref a)).size + y.toArray.size) then unsupported "bytearray.__iadd__:memory"
        Builtin.Bytes.write (.ref a) (· ++ y.toArray)
        ret (.ref a)) (fun fin s' => ∃ v, fin = .done (.ret v) ∧ Q v s') E s := by
    refine wpC_of ?_
    unfold Builtin.Bytes.payload Builtin.Bytes.payload?
    refine wpAny_bind (wpAny_bind (wpAny_bind (wpAny_load ho (wpAny_pure ?_))))
    refine wpAny_pure ?_
    have ht : Builtin.Bytes.tooLong (b.toArray.size + y.toArray.size) = false := by
      unfold Builtin.Bytes.tooLong
      rw [size_line]
      simp only [List.size_toArray, decide_eq_false_iff_not]
      unfold line at hz; omega
    rw [ht]
    exact wpAny_bind (wpAny_barrWrite (c := b ++ y) ho (by simp) (by simpa using hz) fun h' g hs => wpAny_pure ⟨_, rfl, h h' g hs⟩)
  show wpC Clean _ _ (do
        if !y.toArray.isEmpty then
          if Builtin.Bytes.sameRef (.ref a) (.bytes y.toArray t) then
            rule "bytearray.__iadd__.itself"; raiseError "BufferError" "Existing exports of data: object cannot be re-sized"
          Builtin.Bytes.checkResize (.ref a)
        if Builtin.Bytes.tooLong ((← Builtin.Bytes.payload (.ref a)).size + y.toArray.size) then unsupported "bytearray.__iadd__:memory"
        Builtin.Bytes.write (.ref a) (· ++ y.toArray)
        ret (.ref a)) _ _ _
  have hs : Builtin.Bytes.sameRef (.ref a) (.bytes y.toArray t) = false := rfl
  cases hy : y.toArray.isEmpty with
  | true =>
    simp only [Bool.not_true, Bool.false_eq_true, if_false]
    exact tail
  | false =>
    simp only [Bool.not_false, if_true, hs, Bool.false_eq_true, if_false]
    exact wpC_bind (wpC_checkResize ho tail)
end
end Mine
end

section
set_option maxRecDepth 100000
set_option linter.unusedVariables false
open PySem PySem.W PySem.Calls PyProof.Rows
namespace Mine
namespace FA
theorem mro : mroOf (.type "bytearray") = pure [.type "bytearray", .type "object"] := by rw [mroOf_type]; kernel_rfl
theorem look_new : typeLookup (.type "bytearray") "__new__" = pure (some (.builtin "bytearray.__new__")) := by rw [typeLookup_type, builtinLookup_eq_fast]; kernel_rfl
theorem slot_init : Slot "bytearray" "__init__" "bytearray.__init__" :=
  .of (owner := "bytearray") (n := "__init__") (by rw [typeLookup_type, builtinLookup_eq_fast]; kernel_rfl) (by decide +kernel) (by decide +kernel) (by decide +kernel)
    (by first | exact .inl (by decide +kernel) | exact .inr (by decide +kernel)) (by rw [isSubtype_type]; kernel_rfl)
theorem entry_init : entryFor table "bytearray.__init__" = some Builtin.«bytearray.__init__» := by first | exact entryFor_of_tree (by kernel_rfl) | exact entryFor_of_fast (by kernel_rfl)
theorem args_init (a : Value) : argsOk "bytearray.__init__" ⟨[a], []⟩ := by unfold argsOk; kernel_rfl
theorem called : TypeCalled "bytearray" "bytearray.__new__" "bytearray.__init__" :=
  ⟨by decide +kernel, by decide +kernel, ⟨_, _, mro⟩, madeBy_type mro look_new (by decide +kernel), by decide +kernel, by rw [isSubtype_type]; kernel_rfl, slot_init⟩
theorem typeCall : checkTypeCall "bytearray" ⟨[], []⟩ = pure () := by kernel_rfl
theorem newCall : checkBuiltinCall "bytearray.__new__" ⟨[.type "bytearray"], []⟩ = pure () := by kernel_rfl
theorem entry_new : entryFor table "bytearray.__new__" = some Builtin.«list.__new__» :=
  entryFor_alias (id' := "list.__new__") (by kernel_rfl) (by first | rfl | decide +kernel) (by decide +kernel) (by kernel_rfl)
theorem plain_new : plainId "bytearray.__new__" = true := by decide +kernel
theorem look_release : typeLookup (.type "bytearray") "__release_buffer__" = pure (some (.builtin "bytearray.__release_buffer__")) := by rw [typeLookup_type, builtinLookup_eq_fast]; kernel_rfl
theorem look_buffer : typeLookup (.type "bytearray") "__buffer__" = pure (some (.builtin "bytearray.__buffer__")) := by rw [typeLookup_type, builtinLookup_eq_fast]; kernel_rfl
theorem no_bytes : typeLookup (.type "bytearray") "__bytes__" = pure none := by rw [typeLookup_type, builtinLookup_eq_fast]; kernel_rfl
theorem noIndex : typeLookup (.type "bytearray") "__index__" = pure none := by rw [typeLookup_type, builtinLookup_eq_fast]; kernel_rfl
theorem sub_self : isSubtype (.type "bytearray") (.type "bytearray") = pure true := by rw [isSubtype_type]; kernel_rfl
end FA
section
variable {w : World} {A : Around} {E : Value → Shared → Prop} {s : Shared}
theorem code_barr_new {Q₁ : Value → Shared → Prop}
    (h : Q₁ (.ref s.heap.objs.size) { s with heap := s.heap.push { cls := .type "bytearray", data := .bytearray #[] } }) :
    codeAny (model pw w) A (.call (.builtin "bytearray.__new__") ⟨[.type "bytearray"], []⟩) (wants Q₁ E) s := by
  refine codeAny_of_tree ?_
  show wpAny _ A.in1 (do checkBuiltinCall "bytearray.__new__" ⟨[.type "bytearray"], []⟩; again (.builtin "bytearray.__new__" ⟨[.type "bytearray"], []⟩)) _ _ s
  refine wpAny_bind (wpAny_of_eq FA.newCall (wpAny_pure ⟨plainId_quiet FA.plain_new _, codeAny_builtin_stack FA.entry_new rfl fun p st => ?_⟩))
  rw [Around.under_plainId FA.plain_new _]
  have hsub := FA.sub_self
  have hown : ("bytearray.__new__".splitOn ".__new__").headD "" = "bytearray" := by simp +decide [String.splitOn, String.splitOnAux]
  obtain ⟨hp, g, d, tk, os⟩ := s
  simp only [hown]
  wp_walk
  exact h
theorem wpC_barr_init {a : Addr} {Q : Shared → Prop} (ho : s.heap.get? a = some (barrObj [])) (h : ∀ h', h'.get? a = some (barrObj []) → Heap.SameBut a s.heap h' → Q { s with heap := h' }) :
    wpC Clean (model pw w) A (Builtin.«bytearray.__init__» ⟨[.ref a], []⟩) (fun fin s' => ∃ v, fin = .done (.ret v) ∧ v = .none ∧ Q s') E s := by
  have hT : s.TypeIs (.ref a) "bytearray" := ⟨_, ho, rfl⟩
  show wpC Clean _ _ (Builtin.Bytes.ownRelease (.ref a) >>= fun r => _) _ _ s
  refine wpC_bind (wpC_of ?_)
  have hown : wpAny (model pw w) A (Builtin.Bytes.ownRelease (.ref a)) (fun b s' => b = false ∧ s' = s) E s := by
    unfold Builtin.Bytes.ownRelease Builtin.Bytes.slotIsOwn
    refine wpAny_bind (wpAny_bind (wpAny_specialOf hT FA.look_release ?_))
    dsimp only
    have e1 : ("bytearray.__release_buffer__".endsWith ("." ++ "__release_buffer__")) = true := by decide +kernel
    have e2 : ("bytearray.__release_buffer__".dropRight ("__release_buffer__".length + 1)) = "bytearray" := by decide +kernel
    rw [e1, e2]
    refine wpAny_isInstance hT FA.sub_self ?_
    exact wpAny_pure ⟨rfl, rfl⟩
  refine wpAny_mono hown (fun b s' hb => ?_) fun _ _ e => e
  obtain ⟨rfl, rfl⟩ := hb
  rw [if_neg (by decide)]
  refine wpC_bind (wpC_of (wpAny_of_eq (a := [none, none, none]) (by kernel_rfl) ?_))
  dsimp only
  refine wpC_bind (wpC_of (wpAny_of_eq (a := ()) rfl ?_))
  refine wpC_bind (wpC_of (wpAny_of_eq (a := ()) rfl ?_))
  refine wpC_bind ?_
  unfold orM
  refine wpC_bind (wpC_exported ?_)
  show wpC Clean _ A (Builtin.Bytes.exportsOf (.ref a) >>= fun n => pure (decide (n > 0))) _ E s'
  unfold Builtin.Bytes.exportsOf
  refine wpC_bind (wpC_of (wpAny_bind (wpAny_load ho (wpAny_pure ?_))))
  refine wpC_pure ?_
  simp only [Nat.lt_irrefl, gt_iff_lt, decide_false, Bool.false_eq_true, if_false]
  refine wpC_bind (wpC_of (wpAny_barrWrite (c := []) ho rfl (Nat.zero_le _) fun h' g hs => ?_))
  exact wpC_bind (wpC_pure (wpC_pure ⟨_, rfl, rfl, h h' g hs⟩))
theorem codeC_builtin {𝒞 : Ctx → Prop} (K : Closed 𝒞) {id : String} {args : Args} {b : PySem.Builtin} {R : Result → Shared → Prop} (hb : entryFor table id = some b)
    (h : wpC 𝒞 (model pw w) (A.under (.builtin id args)) (b args) (fun fin s' => ∃ f, fin = .done f ∧ R (.ok f) s') (fun e s' => R (.error e) s') s) :
    codeC 𝒞 (model pw w) A (.builtin id args) R s := by
  refine codeC_of_tree K ?_
  show wpC 𝒞 _ _ (match entryFor table id with | some b => b args | none => unsupported ((withoutEnding? id "#data").getD id)) _ _ s
  rw [hb]
  refine wpC_mono h (fun fin s' hf => ?_) fun _ _ h => h
  obtain ⟨f, rfl, hf⟩ := hf
  exact hf
theorem wpC_callType {T newId initId : String} {Bi : PySem.Builtin} {args : List Value} {Q Q₁ : Value → Shared → Prop} (ft : TypeCalled T newId initId)
    (hct : checkTypeCall T ⟨args, []⟩ = pure ()) (entryI : entryFor table initId = some Bi)
    (hnew : codeAny (model pw w) A.in1 (.call (.builtin newId) ⟨.type T :: args, []⟩) (wants Q₁ E) s)
    (hnext : ∀ obj s₁, Q₁ obj s₁ → s₁.TypeIs obj T ∧ argsOk initId ⟨obj :: args, []⟩ ∧ okC (.builtin initId ⟨obj :: args, []⟩) = true ∧
      wpC Clean (model pw w) A.in1.in1 (Bi ⟨obj :: args, []⟩) (fun fin s' => ∃ v, fin = .done (.ret v) ∧ v = .none ∧ Q obj s') E s₁) :
    wpC Clean (model pw w) A (call (.type T) args) Q E s := by
  obtain ⟨c, tl, hmro⟩ := ft.mro
  refine wpC_call clean_closed (codeC_of_tree clean_closed ?_)
  show wpC Clean _ _ (callAny (.type T) _) _ _ _
  refine wpC_pure ⟨Code.quiet_builtin _ (by decide +kernel), (by show (!badIds.contains "type.__call__") = true; decide +kernel), codeC_builtin clean_closed F.entry_type_call ?_⟩
  rw [Around.under_plain (weight_type_call_type T args []) rfl]
  show wpC Clean _ _ (Builtin.«type.__call__» ⟨.type T :: args, []⟩) _ _ s
  unfold Builtin.«type.__call__»
  dsimp only
  rw [if_neg (by rw [ft.notType]; decide), if_neg (by rw [ft.canCreate]; decide)]
  refine wpC_bind (wpC_of (wpAny_of_eq hct ?_))
  refine wpC_bind (wpC_of (wpAny_of_eq hmro ?_))
  rw [if_neg (by simp)]
  refine wpC_bind (wpC_of (wpAny_of_eq ft.made ?_))
  dsimp only
  refine wpC_bind (wpC_pure ?_)
  refine wpC_bind (wpC_holding (wpC_of (wpAny_call (codeAny_mono hnew fun r s₁ hr => ?_))))
  cases r with
  | error e => exact hr
  | ok fl =>
    cases fl with
    | ret obj =>
      obtain ⟨hT, hok, hcl, hsi⟩ := hnext _ _ hr
      refine wpC_bind (wpC_of (wpAny_isInstance hT ft.sub ?_))
      rw [if_neg (by decide)]
      refine wpC_bind (wpC_holding ?_)
      unfold callSpecial?
      refine wpC_bind (wpC_of (wpAny_specialOf hT ft.init.lookup ?_))
      refine wpC_holding (wpC_bind ?_)
      have hb : ∀ P, P (Value.builtin initId, [obj]) s₁ → wpAny (model pw w) A.in1 (bindSpecial (.builtin initId) obj) P E s₁ := fun P hP => by
        have hbi := ft.init.bind obj
        refine wpAny_of_eq hbi hP
      refine wpC_of (hb _ ?_)
      refine wpC_bind (wpC_call_slot clean_closed ft.init hT hcl entryI hok (wpC_mono hsi (fun fin s' hf => ?_) fun _ _ e => e))
      obtain ⟨v, rfl, rfl, hq⟩ := hf
      refine ⟨_, rfl, wpC_pure ?_⟩
      dsimp only
      rw [if_neg (by decide)]
      exact wpC_pure ⟨_, rfl, hq⟩
    | _ => exact hr.elim
theorem wpC_barr_make {Q : Value → Shared → Prop} (h : ∀ h', (∀ b o, s.heap.get? b = some o → h'.get? b = some o) → h'.get? s.heap.objs.size = some (barrObj []) → Q (.ref s.heap.objs.size) { s with heap := h' }) :
    wpC Clean (model pw w) A (call (.type "bytearray") []) Q E s := by
  refine wpC_callType (Q₁ := fun obj s₁ => obj = .ref s.heap.objs.size ∧ s₁ = { s with heap := s.heap.push { cls := .type "bytearray", data := .bytearray #[] } }) FA.called FA.typeCall FA.entry_init (code_barr_new ⟨rfl, rfl⟩) fun obj s₁ h₁ => ?_
  obtain ⟨rfl, rfl⟩ := h₁
  have g : (s.heap.push { cls := .type "bytearray", data := .bytearray #[] }).get? s.heap.objs.size = some (barrObj []) := Heap.get?_push_size _ rfl
  refine ⟨⟨_, g, rfl⟩, FA.args_init _, by show (!badIds.contains "bytearray.__init__") = true; decide +kernel, wpC_barr_init g fun h' g' hs => ?_⟩
  exact h h' (fun b o e => hs.extBut b o (Nat.ne_of_lt (Heap.lt_size e)) (Heap.get?_push_of_some _ e)) g'
end
section
variable {w : World} {A : Around} {E : Value → Shared → Prop} {s : Shared} {a : Addr} {b : List UInt8}
theorem call_len_barr {Q : Value → Shared → Prop} (ho : s.heap.get? a = some (barrObj b)) (hl : b.length ≤ 16777216) (h : Q (.int b.length (s.toks + 1)) { s with toks := s.toks + 1 + 1 }) : wpAny (model pw w) A (call (.builtin "len") [.ref a]) Q E s := by
  have hT : s.TypeIs (.ref a) "bytearray" := ⟨_, ho, rfl⟩
  refine call_len_slot hT FA.slot_len (fun Q' hQ => wpAny_call_entry FA.slot_len hT FA.entry_len ?_ (FA.args_len _)) (by omega) (by omega) h
  show wpAny _ _ (Builtin.Bytes.payload (.ref a) >>= fun p => retInt p.size) _ _ s
  refine wpAny_bind ?_
  unfold Builtin.Bytes.payload Builtin.Bytes.payload?
  refine wpAny_bind (wpAny_bind (wpAny_load ho ?_))
  refine wpAny_pure (wpAny_pure ?_)
  have e : (b.toArray.size : Int) = b.length := by simp
  exact wpAny_bind (wpAny_mkInt (wpAny_pure ⟨_, rfl, by rw [e]; exact hQ⟩))
theorem buffer_barr {id : String} {full : Bool} {Q : Option (Array UInt8) → Shared → Prop} (ho : s.heap.get? a = some (barrObj b)) (h : Q (some b.toArray) s) : wpAny (model pw w) A (Builtin.Bytes.buffer? id (.ref a) full) Q E s := by
  have hT : s.TypeIs (.ref a) "bytearray" := ⟨_, ho, rfl⟩
  unfold Builtin.Bytes.buffer?
  refine wpAny_bind (wpAny_specialOf hT FA.look_buffer ?_)
  have own1 : ∀ {name : String} {idb : String} {P : Bool → Shared → Prop}, typeLookup (.type "bytearray") (name : Str) = pure (some (.builtin idb)) → idb.endsWith ("." ++ name) = true → idb.dropRight (name.length + 1) = "bytearray" → P true s →
      wpAny (model pw w) A (Builtin.Bytes.slotIsOwn (.ref a) name) P E s := fun hl e1 e2 hP => by
    unfold Builtin.Bytes.slotIsOwn
    refine wpAny_bind (wpAny_specialOf hT hl ?_)
    dsimp only
    rw [e1, e2]
    exact wpAny_isInstance hT FA.sub_self hP
  dsimp only
  refine wpAny_bind (own1 FA.look_buffer (by decide +kernel) (by decide +kernel) ?_)
  rw [if_neg (by decide)]
  refine wpAny_bind (wpAny_specialOf hT FA.look_buffer ?_)
  show wpAny _ _ (Builtin.Bytes.ownRelease (.ref a) >>= fun r => _) _ _ s
  refine wpAny_bind (wpAny_bind (own1 FA.look_release (by decide +kernel) (by decide +kernel) ?_))
  refine wpAny_pure ?_
  rw [if_neg (by decide)]
  refine wpAny_bind ?_
  unfold Builtin.Bytes.payload Builtin.Bytes.payload?
  refine wpAny_bind (wpAny_bind (wpAny_load ho ?_))
  exact wpAny_pure (wpAny_pure (wpAny_pure h))
theorem call_bytes_barr {Q : Value → Shared → Prop} (ho : s.heap.get? a = some (barrObj b)) (hl : b.length ≤ 16777216) (h : ∀ t k, Q (.bytes b.toArray t) { s with toks := k }) : wpAny (model pw w) A (call (.type "bytes") [.ref a]) Q E s := by
  have hT : s.TypeIs (.ref a) "bytearray" := ⟨_, ho, rfl⟩
  refine callType_codes (Q₁ := fun obj s₁ => s₁.TypeIs obj "bytes" ∧ Q obj s₁) F.bm_called (F.bm_typeCall _) F.entry_object_init ?_ fun obj s₁ h₁ => ⟨h₁.1, F.args_object_init_2 obj _, object_init_meets F.bm_called.init.lookup F.bm_called.made (by decide) pw w A.in1 _ s₁ ⟨h₁.1, rfl, h₁.2⟩⟩
  refine codeAny_of_tree ?_
  show wpAny _ _ (do checkBuiltinCall "bytes.__new__" ⟨[.type "bytes", .ref a], []⟩; again (.builtin "bytes.__new__" ⟨[.type "bytes", .ref a], []⟩)) _ _ s
  refine wpAny_bind (wpAny_of_eq (F.bm_newCall _) (wpAny_pure ⟨plainId_quiet F.bm_plain _, codeAny_builtin F.bm_entry ?_⟩))
  rw [Around.under_plainId F.bm_plain _]
  unfold Builtin.«bytes.__new__»
  refine wpAny_bind (wpAny_of_eq (a := true) rfl ?_)
  refine bm_if_false rfl ?_
  refine wpAny_bind (wpAny_of_eq F.bm_sub ?_)
  refine bm_if_false rfl ?_
  refine wpAny_bind (wpAny_of_eq (F.bm_bind _) ?_)
  refine wpAny_bind (wpAny_of_eq (a := ()) rfl ?_)
  refine wpAny_bind (wpAny_of_eq (a := ()) rfl ?_)
  refine bm_if_false rfl ?_
  refine wpAny_bind (wpAny_specialOf hT FA.no_bytes ?_)
  refine wpAny_bind (wpAny_bind ?_)
  show wpAny _ _ (load a >>= _) _ _ _
  refine wpAny_bind (wpAny_load ho ?_)
  refine wpAny_pure (wpAny_pure ?_)
  refine bm_if_false rfl ?_
  refine wpAny_bind (wpAny_specialOf hT FA.noIndex ?_)
  refine bm_if_true rfl ?_
  first
    | show wpAny _ _ (Builtin.Bytes.buffer? "bytes.__new__" (.ref a) true >>= _) _ _ _
    | (refine wpAny_bind ?_; show wpAny _ _ (Builtin.Bytes.buffer? "bytes.__new__" (.ref a) true >>= _) _ _ _)
  refine wpAny_bind (buffer_barr ho ?_)
  dsimp only
  refine wpAny_bind (wpAny_rule (wpAny_bind (wpAny_mkBytes ?_ (by rw [sizeLine_eq]; simpa using hl))))
  show wpAny _ _ (if (Value.type "bytes" == Value.type "bytes") = true then _ else _) _ _ _
  refine bm_if_true (by decide) ?_
  first
    | exact wpAny_pure ⟨typeIs_bytes _ _ _, h _ _⟩
    | exact wpAny_bind (wpAny_pure (wpAny_pure ⟨typeIs_bytes _ _ _, h _ _⟩))
end
end Mine
end

section
set_option maxRecDepth 100000
set_option linter.unusedVariables false
open PySem PySem.W PySem.Calls PyProof.Rows
namespace Mine
theorem wpC_sub {𝒞 𝒟 : Ctx → Prop} {α : Type} {M : Model} {A : Around} {t : Sem α} {Q : α → Shared → Prop} {E : Value → Shared → Prop} {s : Shared} (h : wpC 𝒟 M A t Q E s) (hs : ∀ Γ, 𝒞 Γ → 𝒟 Γ) : wpC 𝒞 M A t Q E s :=
  fun Γ p hΓ hC => h Γ p hΓ (hs Γ hC)
section
variable {𝒞 : Ctx → Prop} {S : Sys} {T : Tabs} {Φ : Frm} {n : Nat} {hd : Bool} {ρ₀ : RMap} {ba : Bool}
theorem At.finC {α β : Type} {A : Around} {kp : List (Addr × Obj)} {ρ : RMap} {objs : List MO} {loc : Loc} {s : Shared} {R : RMap → α → β → Prop} {m : EvM α} {t : Sem β} {a : α} {objs' : List MO} {loc' : Loc} (hm : ∀ orc, m ⟨objs, loc, orc⟩ = .ok a ⟨objs', loc', orc⟩ [])
    (ht : ∀ Q E, (∀ ρ' v s', ρ <+: ρ' → Stn S ρ' kp ((Φ.L, loc') :: Φ.outer) objs' s' → R ρ' a v → Q v s') → wpC 𝒞 (model pw S.w) A t Q E s) : At 𝒞 S Φ A kp ρ objs loc s m t R := by
  intro orc Q E W
  rw [hm] at W
  exact ht Q E W.2
theorem lv_inp (hC : ba = true → ∀ Γ, 𝒞 Γ → Clean Γ) (op : Operator) {a b : MV} {u v : Value} (ha : VRep ρ₀ a u) (hb : VRep ρ₀ b v) : Snd 𝒞 S Φ n hd ρ₀ (inplaceM ba op a b) (inplaceOp op u v) VRep := by
  cases op with
  | Add => 
    cases a with
    | obj i => 
      cases b with
      | bytes y => 
        obtain ⟨p, hp, rfl⟩ := ha
        obtain ⟨t, rfl⟩ := hb
        refine Snd.getO fun A kp ρ objs loc s o p' pp hA I ho hρ hr => ?_
        have := pre_get pp hp; rw [hρ] at this; cases this
        cases o with
        | barr x =>
          cases hba : ba with
          | false => exact At.stop
          | true =>
            refine At.need fun hl => ?_
            have hl := of_decide_eq_true hl
            obtain ⟨e, hg⟩ := hr
            refine At.finC (a := .obj i) (objs' := objs.set i (.barr (x ++ y))) (loc' := loc) (fun _ => rfl) fun Q E k => ?_
            refine wpC_sub (wpC_barr_iadd hg hl fun h' g hs => ?_) (hC hba)
            exact k ρ _ _ (List.prefix_refl _) (I.setO (t := s.toks) hρ (fun b' o b1 _ e => (hs.2 b' b1).trans e) ⟨e, g⟩) ⟨p, hρ, rfl⟩
        | _ => exact At.stop
      | _ => exact Snd.stop
    | int x => 
      cases b with
      | int y => 
        obtain ⟨t, rfl⟩ := ha; obtain ⟨t', rfl⟩ := hb
        exact Snd.leaf leaf_iadd fun ρ v p hv => hv
      | _ => exact Snd.stop
    | str x => 
      cases b with
      | str y => 
        obtain ⟨t, rfl⟩ := ha; obtain ⟨t', rfl⟩ := hb
        exact Snd.need fun h => Snd.leaf (leaf_iadds (of_decide_eq_true h)) fun ρ v p hv => hv
      | _ => exact Snd.stop
    | _ => exact Snd.stop
  | Sub => 
    cases a with
    | int x => 
      cases b with
      | int y => 
        obtain ⟨t, rfl⟩ := ha; obtain ⟨t', rfl⟩ := hb
        exact Snd.leaf leaf_isub fun ρ v p hv => hv
      | _ => exact Snd.stop
    | _ => exact Snd.stop
  | Mult => 
    cases a with
    | int x => 
      cases b with
      | int y => 
        obtain ⟨t, rfl⟩ := ha; obtain ⟨t', rfl⟩ := hb
        exact Snd.need fun h => Snd.leaf (leaf_imul (of_decide_eq_true h).1 (of_decide_eq_true h).2) fun ρ v p hv => hv
      | _ => exact Snd.stop
    | _ => exact Snd.stop
  | _ => exact Snd.stop
end
end Mine
end

section
set_option maxRecDepth 100000
set_option linter.unusedVariables false
open PySem PySem.W PySem.Calls PyProof.Rows
open PySem.SeqAt
namespace Mine
theorem rc_bytes {A : Around} {s : Shared} (a b : List UInt8) (t u : Tok) : RcAt A s (.bytes a.toArray t) (.bytes b.toArray u) (u8sEq a b) := fun prog w E Q h =>
  richCompare_gives (typeIs_bytes s _ t) (typeIs_bytes s _ u) FB.slot_bytes_eq FB.entry_bytes_eq (FB.args_bytes_eq_2 _ _) (gives_bytes_eq _ _ t u) (fun x => nomatch x) (by show Q (.bool (a == b)) s; rw [u8sEq_beq]; exact h)
theorem eqat_bytes {A : Around} {s : Shared} (a b : List UInt8) (t u : Tok) : EqAt A s (.bytes a.toArray t) (.bytes b.toArray u) (u8sEq a b) := fun prog w E Q h => by
  unfold eqBool
  refine wpAny_holding ?_
  refine wpAny_ite_split (fun hab => ?_) (fun _ => ?_)
  · have e : a = b := by
      have := eq_of_beq hab; injection this with h1 h2
      simpa using h1
    subst e
    exact wpAny_bind (wpAny_rule (wpAny_pure (by rw [u8sEq_iff.mpr rfl] at h; exact h)))
  · exact wpAny_bind (rc_bytes a b t u prog w E _ (wpAny_truthy_bool h))
noncomputable def eqItem : MV → MV → Bool
  | .bytes a, .bytes b => u8sEq a b
  | .str a, .str b => strEq a b
  | _, _ => false
theorem nns {α : Type} {P : Prop} {b : α} (h : none = some b) : P := nomatch h
theorem eqList_len : ∀ {xs ys : List MV} {b : Bool}, eqList xs ys = some b → (b = true → xs.length = ys.length)
  | [], [], b, h => fun _ => rfl
  | [], _ :: _, b, h => by cases h; intro q; cases q
  | x :: xs, [], b, h => by
    have h' : some false = some b := by cases x <;> exact h
    intro q; rw [q] at h'; cases h'
  | x :: xs, y :: ys, b, h => by
    cases x with
    | bytes a => 
      cases y with
      | bytes c => 
        cases q : eqList xs ys with
        | none =>
          have h' : (eqList xs ys).map _ = some b := h
          rw [q] at h'; exact nns h'
        | some r =>
          have h' : (eqList xs ys).map _ = some b := h
          rw [q] at h'
          intro hb
          have h2 : (_ && r) = b := Option.some.inj h'
          rw [hb] at h2
          have hr : r = true := (Bool.and_eq_true_iff.mp h2).2
          exact congrArg Nat.succ (eqList_len q hr)
      | _ => exact nns h
    | str a => 
      cases y with
      | str c => 
        cases q : eqList xs ys with
        | none =>
          have h' : (eqList xs ys).map _ = some b := h
          rw [q] at h'; exact nns h'
        | some r =>
          have h' : (eqList xs ys).map _ = some b := h
          rw [q] at h'
          intro hb
          have h2 : (_ && r) = b := Option.some.inj h'
          rw [hb] at h2
          have hr : r = true := (Bool.and_eq_true_iff.mp h2).2
          exact congrArg Nat.succ (eqList_len q hr)
      | _ => exact nns h
    | _ => exact nns h
theorem eqList_items {A : Around} {s : Shared} {ρ : RMap} : ∀ (xs : List MV) {ys : List MV} {vs ws : List Value} {b : Bool}, eqList xs ys = some b → xs.length = ys.length → VsRep ρ xs vs → VsRep ρ ys ws →
    (∀ j (h1 : j < vs.length) (h2 : j < ws.length), EqAt A s vs[j] ws[j] (eqItem (xs.getD j .none) (ys.getD j .none))) ∧ b = (List.range xs.length).all fun j => eqItem (xs.getD j .none) (ys.getD j .none) := by
  intro xs
  induction xs with
  | nil =>
    intro ys vs ws b h hl r1 r2
    cases ys with
    | cons _ _ => cases hl
    | nil => cases r1; cases h; exact ⟨fun j h1 => absurd h1 (Nat.not_lt_zero _), rfl⟩
  | cons x xs ih =>
    intro ys vs ws b h hl r1 r2
    cases ys with
    | nil => cases hl
    | cons y ys => cases r1 with
    | cons r rs => cases r2 with
    | cons r' rs' =>
      rename_i v vs w ws
      have key : ∀ {c : Bool}, (eqList xs ys).map (fun r => c && r) = some b → eqItem x y = c → EqAt A s v w c → _ := fun {c} q qc e => by
        cases q' : eqList xs ys with
        | none => rw [q'] at q; cases q
        | some d =>
          rw [q'] at q
          have q := Option.some.inj q
          obtain ⟨i1, i2⟩ := ih q' (Nat.succ.inj hl) rs rs'
          refine (⟨fun j h1 h2 => ?_, ?_⟩ : (∀ j (h1 : j < (v :: vs).length) (h2 : j < (w :: ws).length), EqAt A s (v :: vs)[j] (w :: ws)[j] (eqItem ((x :: xs).getD j .none) ((y :: ys).getD j .none))) ∧ b = (List.range (x :: xs).length).all fun j => eqItem ((x :: xs).getD j .none) ((y :: ys).getD j .none))
          · cases j with
            | zero => show EqAt A s v w (eqItem x y); rw [qc]; exact e
            | succ j => exact i1 j (by simpa using h1) (by simpa using h2)
          · rw [← q, i2, List.length_cons, List.range_succ_eq_map, List.all_cons, List.all_map]
            show _ = (eqItem x y && _)
            rw [qc]; rfl
      cases x with
      | bytes _ => 
        cases y with
        | bytes _ => obtain ⟨t, rfl⟩ := r; obtain ⟨u, rfl⟩ := r'; exact key h rfl (eqat_bytes _ _ t u)
        | _ => exact nns h
      | str _ => 
        cases y with
        | str _ => obtain ⟨t, rfl⟩ := r; obtain ⟨u, rfl⟩ := r'; exact key h rfl (strEq_beq ▸ EqAt.str_str _ t _ u)
        | _ => exact nns h
      | _ => exact nns h
section
variable {𝒞 : Ctx → Prop} {S : Sys} {T : Tabs} {Φ : Frm} {n : Nat} {hd : Bool} {ρ₀ : RMap}
theorem isList_rep {ρ : RMap} {h : Heap} {p : Addr × Option Addr} {xs : List MV} (hr : ORep ρ h p (.list xs)) : ∃ vs, h.IsList p.1 (List.toArray vs) ∧ VsRep ρ xs vs := by
  obtain ⟨_, vs, nn, hg, hvs⟩ := hr
  exact ⟨vs, ⟨_, hg, rfl, nn, rfl⟩, hvs⟩
theorem cLine_big {A : Around} (h : A.units + 24 * n ≤ 9000) : A.units < cLine := Nat.lt_of_le_of_lt (by omega : A.units ≤ 9000) (by decide)
theorem lv_eqList {xs ys : List MV} {A : Around} {ρ : RMap} {s : Shared} {p q : Addr × Option Addr} {b : Bool} (hA : AOk Φ A n hd) (hx : ORep ρ s.heap p (.list xs)) (hy : ORep ρ s.heap q (.list ys)) (hb : eqList xs ys = some b) {Q : Value → Shared → Prop} {E : Value → Shared → Prop} :
    (Q (.bool b) s → wpAny (model pw S.w) A (compareOp .Eq (.ref p.1) (.ref q.1)) Q E s) ∧ (Q (.bool (!b)) s → wpAny (model pw S.w) A (compareOp .NotEq (.ref p.1) (.ref q.1)) Q E s) := by
  obtain ⟨vs, h1, r1⟩ := isList_rep hx
  obtain ⟨ws, h2, r2⟩ := isList_rep hy
  have hu := cLine_big hA.units
  by_cases hl : xs.length = ys.length
  · obtain ⟨e1, e2⟩ := eqList_items (A := A.in1) (s := s) xs hb hl r1 r2
    have hsz : (List.toArray vs).size = (List.toArray ws).size := by simp [r1.length, r2.length, hl]
    refine ⟨fun h => RcAt.lists h1 h2 hsz hu (fun j a c => e1 j (by simpa using a) (by simpa using c)) pw S.w E Q ?_, fun h => RcNeAt.lists h1 h2 hsz hu (fun j a c => e1 j (by simpa using a) (by simpa using c)) pw S.w E Q ?_⟩
    · rw [List.size_toArray, r1.length, ← e2]; exact h
    · rw [List.size_toArray, r1.length, ← e2]; exact h
  · have hf : b = false := by cases b with
      | false => rfl
      | true => exact absurd (eqList_len hb rfl) hl
    subst hf
    have hsz : ((List.toArray vs).size != (List.toArray ws).size) = true := by simp [r1.length, r2.length, hl]
    exact ⟨fun h => RcAt.lists_lengths h1 h2 hsz hu pw S.w E Q h, fun h => RcNeAt.lists_lengths h1 h2 hsz hu pw S.w E Q h⟩
end
end Mine
end

section
set_option maxRecDepth 100000
set_option linter.unusedVariables false
open PySem PySem.W PySem.Calls PyProof.Rows
namespace Mine
namespace FB2
theorem slot_lt : Slot "bytes" (cmpInfo .Lt).2.1 "bytes.__lt__" :=
  .of (owner := "bytes") (n := "__lt__") (by rw [typeLookup_type, builtinLookup_eq_fast]; kernel_rfl) (by decide +kernel) (by decide +kernel) (by decide +kernel)
    (by first | exact .inl (by decide +kernel) | exact .inr (by decide +kernel)) (by rw [isSubtype_type]; kernel_rfl)
theorem entry_lt : entryFor table "bytes.__lt__" = some Builtin.«bytes.__lt__» := entryFor_of_tree (by kernel_rfl)
theorem args_lt (a b : Value) : argsOk "bytes.__lt__" ⟨[a, b], []⟩ := by unfold argsOk; kernel_rfl
theorem slot_gt : Slot "bytes" (cmpInfo .Gt).2.1 "bytes.__gt__" :=
  .of (owner := "bytes") (n := "__gt__") (by rw [typeLookup_type, builtinLookup_eq_fast]; kernel_rfl) (by decide +kernel) (by decide +kernel) (by decide +kernel)
    (by first | exact .inl (by decide +kernel) | exact .inr (by decide +kernel)) (by rw [isSubtype_type]; kernel_rfl)
theorem entry_gt : entryFor table "bytes.__gt__" = some Builtin.«bytes.__gt__» := entryFor_of_tree (by kernel_rfl)
theorem args_gt (a b : Value) : argsOk "bytes.__gt__" ⟨[a, b], []⟩ := by unfold argsOk; kernel_rfl
end FB2
theorem order_lt : ∀ a b : List UInt8, (Builtin.Bytes.order a b == .lt) = ltL a b ∧ (Builtin.Bytes.order a b == .gt) = ltL b a
  | [], [] | [], _ :: _ | _ :: _, [] => ⟨rfl, rfl⟩
  | x :: a, y :: b => by
    have ih := order_lt a b
    simp only [Builtin.Bytes.order, ltL]
    by_cases h1 : x < y
    · have h1' : x.toNat < y.toNat := h1
      have h2' : ¬ y.toNat < x.toNat := by omega
      simp [h1, h1', h2']
    · have h1' : ¬ x.toNat < y.toNat := h1
      by_cases h2 : y < x
      · have h2' : y.toNat < x.toNat := h2
        simp [h1, h2, h1', h2']
      · have h2' : ¬ y.toNat < x.toNat := h2
        simp only [h1, h2, h1', h2', if_false]
        exact ih
theorem gives_bytes_lt (b c : Array UInt8) (t u : Tok) : Gives (Builtin.«bytes.__lt__» ⟨[.bytes b t, .bytes c u], []⟩) (.val (.bool (ltL b.toList c.toList))) := by
  refine .of_wp fun M A E s Q hq => ?_
  show wpAny M A (isInstance (.bytes c u) (.type "bytes") >>= fun r => _) _ E s
  refine wpAny_bind (wpAny_isInstance (typeIs_bytes s c u) F.sub_bytes_bytes ?_)
  exact wpAny_pure ⟨_, rfl, by rw [← (order_lt _ _).1] at hq; exact hq⟩
theorem gives_bytes_gt (b c : Array UInt8) (t u : Tok) : Gives (Builtin.«bytes.__gt__» ⟨[.bytes b t, .bytes c u], []⟩) (.val (.bool (ltL c.toList b.toList))) := by
  refine .of_wp fun M A E s Q hq => ?_
  show wpAny M A (isInstance (.bytes c u) (.type "bytes") >>= fun r => _) _ E s
  refine wpAny_bind (wpAny_isInstance (typeIs_bytes s c u) F.sub_bytes_bytes ?_)
  exact wpAny_pure ⟨_, rfl, by rw [← (order_lt _ _).2] at hq; exact hq⟩
section
variable {𝒞 : Ctx → Prop} {S : Sys} {Φ : Frm} {n : Nat} {hd : Bool} {ρ₀ : RMap} {l r : List UInt8} {t u : Tok}
theorem leaf_ltb : Leaf S hd (compareOp .Lt (.bytes l.toArray t) (.bytes r.toArray u)) (IsBool (ltL l r)) := fun _ s _ _ _ _ _ h =>
  compareOp_gives (op := .Lt) (typeIs_bytes s _ t) (typeIs_bytes s _ u) FB2.slot_lt FB2.entry_lt (FB2.args_lt _ _) (gives_bytes_lt _ _ t u) (fun e => nomatch e) (h _ s.toks rfl)
theorem leaf_gtb : Leaf S hd (compareOp .Gt (.bytes l.toArray t) (.bytes r.toArray u)) (IsBool (ltL r l)) := fun _ s _ _ _ _ _ h =>
  compareOp_gives (op := .Gt) (typeIs_bytes s _ t) (typeIs_bytes s _ u) FB2.slot_gt FB2.entry_gt (FB2.args_gt _ _) (gives_bytes_gt _ _ t u) (fun e => nomatch e) (h _ s.toks rfl)
theorem vrep_none {ρ : RMap} {a : MV} {v : Value} (h : VRep ρ a v) (hn : a ≠ .none) : v ≠ .none := by
  cases a with
  | none => exact absurd rfl hn
  | bool b => obtain rfl : v = .bool b := h; intro q; cases q
  | int i => obtain ⟨t, rfl⟩ := h; intro q; cases q
  | str x => obtain ⟨t, rfl⟩ := h; intro q; cases q
  | bytes b => obtain ⟨t, rfl⟩ := h; intro q; cases q
  | obj i => obtain ⟨p, _, rfl⟩ := h; intro q; cases q
  | bi b => obtain rfl : v = biVal b := h; cases b <;> (intro q; cases q)
  | gl a => obtain rfl : v = .ref a := h; intro q; cases q
theorem lv_cmpM (hin : ∀ {Φ n ρ₀} {c : UInt8} {b : List UInt8} {t u : Tok}, Snd 𝒞 S Φ n false ρ₀ (Pure.pure (.bool (inU8s c b))) (compareOp .In (.bytes [c].toArray t) (.bytes b.toArray u)) VRep)
    (op : CmpOp) {a b : MV} {u v : Value} (ha : VRep ρ₀ a u) (hb : VRep ρ₀ b v) : Snd 𝒞 S Φ n false ρ₀ (cmpM op a b) (compareOp op u v) VRep := by
  cases op with
  | Eq => 
    show Snd 𝒞 S Φ n false ρ₀ (eqM a b >>= fun r => pure (MV.bool r)) _ _
    unfold eqM
    cases a with
    | int x => 
      cases b with
      | int y => 
        obtain ⟨t, rfl⟩ := ha; obtain ⟨t', rfl⟩ := hb
        rw [ev_pure]; exact Snd.leaf leaf_eqi fun ρ v p hv => hv
      | _ => exact Snd.stop
    | bool x => 
      cases b with
      | bool y => 
        obtain rfl : u = .bool _ := ha; obtain rfl : v = .bool _ := hb
        rw [ev_pure]; exact Snd.leaf leaf_eqo fun ρ v p hv => hv
      | _ => exact Snd.stop
    | str x => 
      cases b with
      | str y => 
        obtain ⟨t, rfl⟩ := ha; obtain ⟨t', rfl⟩ := hb
        rw [ev_pure]; exact Snd.leaf leaf_eqs fun ρ v p hv => hv
      | _ => exact Snd.stop
    | bytes x => 
      cases b with
      | bytes y => 
        obtain ⟨t, rfl⟩ := ha; obtain ⟨t', rfl⟩ := hb
        rw [ev_pure]; exact Snd.leaf leaf_eqb fun ρ v p hv => hv
      | _ => exact Snd.stop
    | obj i => 
      cases b with
      | obj j => 
        obtain ⟨p, hp, rfl⟩ := ha
        obtain ⟨q, hq, rfl⟩ := hb
        rw [ev_assoc]
        refine Snd.of_at fun A kp ρ objs loc s pp hA I => At.getO I fun o p' ho hρ hr => ?_
        rw [ev_assoc]
        refine At.getO I fun o' q' ho' hρ' hr' => ?_
        have := pre_get pp hp; rw [hρ] at this; cases this
        have := pre_get pp hq; rw [hρ'] at this; cases this
        cases o with
        | list xs =>
          cases o' with
          | list ys =>
            dsimp only
            cases hb : eqList xs ys with
            | none => exact At.stop
            | some b =>
              dsimp only
              rw [ev_assoc]
              refine At.need fun _ => ?_
              rw [ev_pure]
              exact At.pure I fun Q E k => (lv_eqList hA hr hr' hb).1 (k _ s.toks rfl)
          | _ => exact At.stop
        | _ => exact At.stop
      | _ => exact Snd.stop
    | _ => exact Snd.stop
  | NotEq => 
    show Snd 𝒞 S Φ n false ρ₀ (eqM a b >>= fun r => pure (MV.bool (!r))) _ _
    unfold eqM
    cases a with
    | int x => 
      cases b with
      | int y => 
        obtain ⟨t, rfl⟩ := ha; obtain ⟨t', rfl⟩ := hb
        rw [ev_pure]; exact Snd.leaf leaf_nei fun ρ v p hv => hv
      | _ => exact Snd.stop
    | bool x => 
      cases b with
      | bool y => 
        obtain rfl : u = .bool _ := ha; obtain rfl : v = .bool _ := hb
        rw [ev_pure]; exact Snd.leaf leaf_neo fun ρ v p hv => hv
      | _ => exact Snd.stop
    | str x => 
      cases b with
      | str y => 
        obtain ⟨t, rfl⟩ := ha; obtain ⟨t', rfl⟩ := hb
        rw [ev_pure]; exact Snd.leaf leaf_nes fun ρ v p hv => hv
      | _ => exact Snd.stop
    | bytes x => 
      cases b with
      | bytes y => 
        obtain ⟨t, rfl⟩ := ha; obtain ⟨t', rfl⟩ := hb
        rw [ev_pure]; exact Snd.leaf leaf_neb fun ρ v p hv => hv
      | _ => exact Snd.stop
    | obj i => 
      cases b with
      | obj j => 
        obtain ⟨p, hp, rfl⟩ := ha
        obtain ⟨q, hq, rfl⟩ := hb
        rw [ev_assoc]
        refine Snd.of_at fun A kp ρ objs loc s pp hA I => At.getO I fun o p' ho hρ hr => ?_
        rw [ev_assoc]
        refine At.getO I fun o' q' ho' hρ' hr' => ?_
        have := pre_get pp hp; rw [hρ] at this; cases this
        have := pre_get pp hq; rw [hρ'] at this; cases this
        cases o with
        | list xs =>
          cases o' with
          | list ys =>
            dsimp only
            cases hb : eqList xs ys with
            | none => exact At.stop
            | some b =>
              dsimp only
              rw [ev_assoc]
              refine At.need fun _ => ?_
              rw [ev_pure]
              exact At.pure I fun Q E k => (lv_eqList hA hr hr' hb).2 (k _ s.toks rfl)
          | _ => exact At.stop
        | _ => exact At.stop
      | _ => exact Snd.stop
    | _ => exact Snd.stop
  | Lt => 
    cases a with
    | int x => 
      cases b with
      | int y => 
        obtain ⟨t, rfl⟩ := ha; obtain ⟨t', rfl⟩ := hb
        exact Snd.leaf leaf_lti fun ρ v p hv => hv
      | _ => exact Snd.stop
    | bytes x => 
      cases b with
      | bytes y => 
        obtain ⟨t, rfl⟩ := ha; obtain ⟨t', rfl⟩ := hb
        exact Snd.leaf leaf_ltb fun ρ v p hv => hv
      | _ => exact Snd.stop
    | _ => exact Snd.stop
  | LtE => 
    cases a with
    | int x => 
      cases b with
      | int y => 
        obtain ⟨t, rfl⟩ := ha; obtain ⟨t', rfl⟩ := hb
        exact Snd.leaf leaf_lei fun ρ v p hv => hv
      | _ => exact Snd.stop
    | _ => exact Snd.stop
  | Gt => 
    cases a with
    | int x => 
      cases b with
      | int y => 
        obtain ⟨t, rfl⟩ := ha; obtain ⟨t', rfl⟩ := hb
        exact Snd.leaf leaf_gti fun ρ v p hv => hv
      | _ => exact Snd.stop
    | bytes x => 
      cases b with
      | bytes y => 
        obtain ⟨t, rfl⟩ := ha; obtain ⟨t', rfl⟩ := hb
        exact Snd.leaf leaf_gtb fun ρ v p hv => hv
      | _ => exact Snd.stop
    | _ => exact Snd.stop
  | GtE => 
    cases a with
    | int x => 
      cases b with
      | int y => 
        obtain ⟨t, rfl⟩ := ha; obtain ⟨t', rfl⟩ := hb
        exact Snd.leaf leaf_gei fun ρ v p hv => hv
      | _ => exact Snd.stop
    | _ => exact Snd.stop
  | Is => 
    cases b with
    | none => 
      obtain rfl : v = .none := hb
      cases a with
      | none => obtain rfl : u = .none := ha; exact Snd.leaf leaf_is0 fun ρ v p hv => hv
      | _ => exact Snd.leaf (leaf_is (vrep_none ha (fun q => nomatch q))) fun ρ v p hv => hv
    | _ => exact Snd.stop
  | IsNot => 
    cases b with
    | none => 
      obtain rfl : v = .none := hb
      cases a with
      | none => obtain rfl : u = .none := ha; exact Snd.leaf leaf_isn0 fun ρ v p hv => hv
      | _ => exact Snd.leaf (leaf_isn (vrep_none ha (fun q => nomatch q))) fun ρ v p hv => hv
    | _ => exact Snd.stop
  | In => 
    cases a with
    | bytes z1 => 
      cases z1 with
      | cons c z2 => 
        cases z2 with
        | nil => 
          cases b with
          | bytes b => 
            obtain ⟨t, rfl⟩ := ha; obtain ⟨t', rfl⟩ := hb
            exact hin
          | _ => exact Snd.stop
        | cons _ _ => exact Snd.stop
      | nil => exact Snd.stop
    | str x => 
      cases b with
      | str y => 
        obtain ⟨t, rfl⟩ := ha; obtain ⟨t', rfl⟩ := hb
        exact Snd.leaf (P := IsBool (!(Builtin.Str.occurrences y x 0 y.length 1).isEmpty)) (fun A s Q E _ _ _ h => PyProof.Rows.in_str (h _ s.toks rfl)) fun ρ v p hv => hv
      | _ => exact Snd.stop
    | _ => exact Snd.stop
  | _ => exact Snd.stop
end
end Mine
end

section
set_option maxRecDepth 100000
set_option linter.unusedVariables false
open PySem PySem.W PySem.Calls PyProof.Rows
namespace Mine
section
variable {prog : Program} {w : World} {A : Around} {E : Value → Shared → Prop} {s : Shared}
theorem subTail {value slice : Expr} {o i : Value} {T id : String} {Q : Value → Shared → Prop} (hT : s.TypeIs o T)
    (hl : typeLookup (.type T) "__getitem__" = pure (some (.builtin id))) (h : wpAny (model prog w) A (getItem o i) Q E s)
    (hs : subscripted slice false o i = operate [o, i] (getItem o i)) :
    wpAny (model prog w) A (subscriptTail value slice o i) Q E s := by
  unfold subscriptTail
  refine wpAny_bind ?_
  rw [getitemInPython_of_ne hT.not_modules]
  refine wpAny_bind (wpAny_specialOf hT hl ?_)
  have fin : wpAny (model prog w) A (subscripted slice false o i) (fun r s₃ => wpAny (model prog w) A (letTemporaryGo value o r >>= fun _ => pure r) Q E s₃) E s := by
    rw [hs]
    exact wpAny_operating (wpAny_mono h (fun r s₃ h₃ => wpAny_bind (wpAny_letTemporaryGo (wpAny_pure h₃))) fun _ _ x => x)
  first
    | exact wpAny_pure (wpAny_bind fin)
    | exact wpAny_bind (wpAny_pure (wpAny_bind fin))
    | exact wpAny_bind fin
theorem subscripted_plain {slice : Expr} (hs : ∀ l r p, slice ≠ .Slice l r none p) (o i : Value) : subscripted slice false o i = operate [o, i] (getItem o i) := by
  cases slice with
  | Slice l r st p =>
    cases st with
    | none => exact absurd rfl (hs l r p)
    | some _ => rfl
  | _ => rfl
end
section
variable {𝒞 : Ctx → Prop} {S : Sys} {Φ : Frm} {n : Nat} {hd : Bool} {ρ₀ : RMap} {A : Around} {kp : List (Addr × Obj)} {ρ : RMap} {objs : List MO} {loc : Loc} {s : Shared}
theorem at_idx {α β : Type} {k : Int} {m : Nat} {f : Nat → EvM α} {t : Sem β} {R : RMap → α → β → Prop} (h : ∀ j, seqIndex? k m = some j → j < m → -(m : Int) ≤ k → k < m → At 𝒞 S Φ A kp ρ objs loc s (f j) t R) :
    At 𝒞 S Φ A kp ρ objs loc s (idx k m >>= f) t R := by
  unfold idx
  rw [ev_assoc]
  refine At.dec ?_
  by_cases h0 : 0 ≤ k
  · rw [decide_eq_true h0]
    dsimp only
    rw [ev_assoc]
    refine At.need fun h1 => ?_
    have h1 := of_decide_eq_true h1
    rw [ev_pure]
    exact h _ (by unfold seqIndex?; simp [h0, h1, show ¬ k < 0 by omega]) (by omega) (by omega) h1
  · rw [decide_eq_false h0]
    dsimp only
    rw [ev_assoc]
    refine At.need fun h1 => ?_
    have h1 := of_decide_eq_true h1
    rw [ev_pure]
    exact h _ (seqIndex_neg (by omega) h1) (by omega) h1 (by omega)
theorem getD_some {α : Type} {xs : List α} {j : Nat} {d : α} (h : j < xs.length) : xs[j]? = some (xs.getD j d) := by
  simp [List.getD, h]
theorem lv_itemM {a b : MV} {u v : Value} {value slice : Expr} (ha : VRep ρ₀ a u) (hb : VRep ρ₀ b v) (hs : ∀ l r p, slice ≠ .Slice l r none p) : Snd 𝒞 S Φ n hd ρ₀ (itemM a b) (subscriptTail value slice u v) VRep := by
  have e63 : (2 : Int) ^ 63 = 9223372036854775808 := by decide
  unfold itemM
  split
  · rename_i x k
    obtain ⟨t, rfl⟩ := ha; obtain ⟨t', rfl⟩ := hb
    refine Snd.of_at fun A kp ρ objs loc s pp hA I => At.need fun hl => at_idx fun j h1 h2 h3 h4 => At.pure I fun Q E q => ?_
    have hl := of_decide_eq_true hl
    have hlen : x.length = x.cps.toList.length := by simp [Str.length]
    unfold line at hl
    refine subTail (typeIs_str s x t) F.slot_str_getitem.lookup (P.getItem_str (c := x.cps.toList.getD j 0) ?_ ?_ (q _ _ ⟨_, rfl⟩)) (subscripted_plain hs _ _)
    · simp only [Bool.or_eq_false_iff, decide_eq_false_iff_not, e63]; omega
    · rw [hlen, h1, Option.bind_some, ← Array.getElem?_toList]; exact getD_some h2
  · rename_i i k
    obtain ⟨p, hp, rfl⟩ := ha; obtain ⟨t', rfl⟩ := hb
    refine Snd.of_at fun A kp ρ objs loc s pp hA I => At.getO I fun o p' ho hρ hr => ?_
    have := pre_get pp hp; rw [hρ] at this; cases this
    cases o with
    | list xs =>
      refine At.need fun hl => at_idx fun j h1 h2 h3 h4 => At.pure I fun Q E q => ?_
      have hl := of_decide_eq_true hl
      unfold line at hl
      obtain ⟨vs, hL, hv⟩ := isList_rep hr
      obtain ⟨y, y1, y2⟩ := hv.get (getD_some (d := MV.none) h2)
      have hn := hv.length
      refine subTail hL.typeIs slot_list_getitem.lookup ?_ (subscripted_plain hs _ _)
      by_cases h0 : 0 ≤ k
      · refine wpAny_getItem_list hL h0 (by rw [e63]; omega) (x := y) ?_ (q _ s.toks y2)
        have : j = k.toNat := by unfold seqIndex? at h1; simp [show ¬ k < 0 by omega, h0, h4] at h1; exact h1.symm
        rw [← this]; simpa using y1
      · refine wpAny_getItem_list_neg hL (by omega) (by simp [hn]; exact h3) (by rw [e63]; omega) (x := y) ?_ (q _ s.toks y2)
        have := h1.symm.trans (seqIndex_neg (by omega) h3)
        cases this
        simpa [hn] using y1
    | tup xs =>
      refine At.need fun hl => at_idx fun j h1 h2 h3 h4 => At.pure I fun Q E q => ?_
      have hl := of_decide_eq_true hl
      unfold line at hl
      obtain ⟨_, vs, nn, hg, hv⟩ := hr
      have hT : IsTup s.heap p.1 (List.toArray vs) := ⟨_, hg, rfl, nn, rfl⟩
      obtain ⟨y, y1, y2⟩ := hv.get (getD_some (d := MV.none) h2)
      have hn := hv.length
      have e63' : (2 : Int) ^ 63 = 9223372036854775808 := e63
      refine subTail hT.typeIs slot_tuple_getitem.lookup (getItem_tuple hT (j := j) (by rw [e63]; omega) (by rw [e63]; omega) ?_ ?_ (q _ s.toks y2)) (subscripted_plain hs _ _)
      · rw [List.size_toArray, hn]; exact h1
      · simpa using y1
    | _ => exact At.stop
  · exact Snd.stop
end
end Mine
end

section
set_option maxRecDepth 100000
set_option linter.unusedVariables false
open PySem PySem.W PySem.Calls PyProof.Rows
namespace Mine
section
variable {prog : Program} {w : World} {A : Around} {E : Value → Shared → Prop} {s : Shared}
theorem subTailS {value slice : Expr} {o i : Value} {T id : String} {Q : Value → Shared → Prop} {ops : List Value} (hT : s.TypeIs o T)
    (hl : typeLookup (.type T) "__getitem__" = pure (some (.builtin id))) (h : wpAny (model prog w) A (getItem o i) Q E s)
    (hs : subscripted slice false o i = operate ops (getItem o i)) :
    wpAny (model prog w) A (subscriptTail value slice o i) Q E s := by
  unfold subscriptTail
  refine wpAny_bind ?_
  rw [getitemInPython_of_ne hT.not_modules]
  refine wpAny_bind (wpAny_specialOf hT hl ?_)
  have fin : wpAny (model prog w) A (subscripted slice false o i) (fun r s₃ => wpAny (model prog w) A (letTemporaryGo value o r >>= fun _ => pure r) Q E s₃) E s := by
    rw [hs]
    exact wpAny_operating (wpAny_mono h (fun r s₃ h₃ => wpAny_bind (wpAny_letTemporaryGo (wpAny_pure h₃))) fun _ _ x => x)
  first
    | exact wpAny_pure (wpAny_bind fin)
    | exact wpAny_bind (wpAny_pure (wpAny_bind fin))
    | exact wpAny_bind fin
end
section
variable {𝒞 : Ctx → Prop} {S : Sys} {Φ : Frm} {n : Nat} {hd : Bool} {ρ₀ : RMap} {A : Around} {kp : List (Addr × Obj)} {ρ : RMap} {objs : List MO} {loc : Loc} {s : Shared}
theorem at_clip {α β : Type} {k : Int} {m : Nat} {f : Nat → EvM α} {t : Sem β} {R : RMap → α → β → Prop} (h : At 𝒞 S Φ A kp ρ objs loc s (f (clipAt m k)) t R) :
    At 𝒞 S Φ A kp ρ objs loc s (clip k m >>= f) t R := by
  unfold clip
  rw [ev_assoc]
  refine At.dec ?_
  by_cases h0 : 0 ≤ k
  · rw [decide_eq_true h0]
    dsimp only
    rw [ev_assoc]
    refine At.dec ?_
    by_cases h1 : k ≤ m
    · rw [decide_eq_true h1]
      dsimp only
      rw [ev_pure]
      have e : clipAt m k = k.toNat := by unfold clipAt; rw [if_neg (by omega)]; omega
      rw [← e]; exact h
    · rw [decide_eq_false h1]
      dsimp only
      rw [ev_pure]
      have e : clipAt m k = m := by unfold clipAt; rw [if_neg (by omega)]; omega
      rw [e] at h; exact h
  · rw [decide_eq_false h0]
    dsimp only
    rw [ev_assoc]
    refine At.dec ?_
    by_cases h1 : -(m : Int) ≤ k
    · rw [decide_eq_true h1]
      dsimp only
      rw [ev_pure]
      have e : clipAt m k = (k + m).toNat := by unfold clipAt; rw [if_pos (by omega)]; omega
      rw [← e]; exact h
    · rw [decide_eq_false h1]
      dsimp only
      rw [ev_pure]
      have e : clipAt m k = 0 := by unfold clipAt; rw [if_pos (by omega)]; omega
      rw [e] at h; exact h
theorem at_clipO {α β : Type} {k : Option Int} {m d : Nat} {f : Nat → EvM α} {t : Sem β} {R : RMap → α → β → Prop} (h : At 𝒞 S Φ A kp ρ objs loc s (f (k.elim d (clipAt m))) t R) :
    At 𝒞 S Φ A kp ρ objs loc s (clipO k m d >>= f) t R := by
  cases k with
  | none => show At 𝒞 S Φ A kp ρ objs loc s (Pure.pure d >>= f) t R; rw [ev_pure]; exact h
  | some k => exact at_clip h
theorem at_bound {α β : Type} {l : Option MV} {v : Value} {f : Option Int → EvM α} {t : Sem β} {R : RMap → α → β → Prop} (hv : VRep ρ (l.getD .none) v) (h : ∀ o, IsPart v o → At 𝒞 S Φ A kp ρ objs loc s (f o) t R) :
    At 𝒞 S Φ A kp ρ objs loc s (bound l >>= f) t R := by
  cases l with
  | none => obtain rfl : v = .none := hv; show At 𝒞 S Φ A kp ρ objs loc s (Pure.pure none >>= f) t R; rw [ev_pure]; exact h _ .none
  | some a =>
    cases a with
    | none => obtain rfl : v = .none := hv; show At 𝒞 S Φ A kp ρ objs loc s (Pure.pure none >>= f) t R; rw [ev_pure]; exact h _ .none
    | int i => obtain ⟨t', rfl⟩ := hv; show At 𝒞 S Φ A kp ρ objs loc s (Pure.pure (some i) >>= f) t R; rw [ev_pure]; exact h _ (.int i t')
    | _ => exact fun _ _ _ W => W.elim
end
end Mine
end

section
set_option maxRecDepth 100000
set_option linter.unusedVariables false
open PySem PySem.W PySem.Calls PyProof.Rows
namespace Mine
theorem clipAt_le (n : Nat) (i : Int) : clipAt n i ≤ n := by unfold clipAt; omega
theorem strIdx (lo hi : Option Int) (n : Nat) : Builtin.Str.strSliceIndices lo hi 1 n = sliceRange ((lo.elim 0 (clipAt n) : Nat) : Int) ((hi.elim n (clipAt n) : Nat) : Int) 1 := by
  cases lo <;> cases hi <;> simp [Builtin.Str.strSliceIndices, clipAt_cast]
theorem txt_cut (x : Str) (lo hi : Option Int) : Txt.slice x lo hi = ⟨⟨cutL x.cps.toList (lo.elim 0 (clipAt x.cps.toList.length)) (hi.elim x.cps.toList.length (clipAt x.cps.toList.length))⟩⟩ := by
  have hn : x.length = x.cps.toList.length := by simp [Str.length]
  have h1 : lo.elim 0 (clipAt x.cps.toList.length) ≤ x.cps.toList.length := by cases lo <;> simp [clipAt_le] <;> exact clipAt_le _ _
  have h2 : hi.elim x.cps.toList.length (clipAt x.cps.toList.length) ≤ x.cps.toList.length := by cases hi <;> simp [clipAt_le] <;> exact clipAt_le _ _
  unfold Txt.slice
  rw [strIdx, hn, sliceRange_one, pick_run]
  split
  · rename_i h
    simp only [BEq.rfl, Bool.true_and, List.length_map, List.length_range, beq_iff_eq] at h
    have e1 : lo.elim 0 (clipAt x.cps.toList.length) = 0 := by omega
    have e2 : hi.elim x.cps.toList.length (clipAt x.cps.toList.length) - 0 = x.cps.toList.length := by omega
    unfold cutL
    rw [e1, e2, List.drop_zero, List.take_length]
  · rfl
section
variable {𝒞 : Ctx → Prop} {S : Sys} {Φ : Frm} {n : Nat} {hd : Bool} {ρ₀ : RMap}
theorem slice_front {A : Around} {s : Shared} {u v w : Value} {value : Expr} {le re p pos} {Q : Value → Shared → Prop} {E : Value → Shared → Prop} {T id : String} (hT : ∀ o, Shared.TypeIs { s with heap := s.heap.push o } u T)
    (hl : typeLookup (.type T) "__getitem__" = pure (some (.builtin id)))
    (h : wpAny (model pw S.w) A (getItem u (.ref s.heap.objs.size)) Q E { s with heap := s.heap.push { cls := .type "slice", data := .fields #[v, w, .none] } }) :
    wpAny (model pw S.w) A (newFields "slice" [v, w, .none] >>= fun i => standAt pos >>= fun _ => subscriptTail value (.Slice le re none p) u i) Q E s := by
  refine wpAny_bind (wpAny_newObj_type ?_)
  refine wpAny_bind (wpAny_standAt ?_)
  exact subTailS (hT _) hl h rfl
theorem lv_slice {a : MV} {u v w : Value} {l r : Option MV} {value : Expr} {le re p pos} (ha : VRep ρ₀ a u) (hv : VRep ρ₀ (l.getD .none) v) (hw : VRep ρ₀ (r.getD .none) w) :
    Snd 𝒞 S Φ n hd ρ₀ (sliceM a l r) (newFields "slice" [v, w, .none] >>= fun i => standAt pos >>= fun _ => subscriptTail value (.Slice le re none p) u i) VRep := by
  refine Snd.of_at fun A kp ρ objs loc s pp hA I => ?_
  unfold sliceM
  refine at_bound (hv.mono pp) fun lo pl => at_bound (hw.mono pp) fun hi pu => ?_
  cases a with
  | bytes b =>
    obtain ⟨t, rfl⟩ := ha
    dsimp only
    refine At.need fun hl => at_clipO (at_clipO ?_)
    have hl := of_decide_eq_true hl
    refine At.fin (a := .bytes _) (objs' := objs) (loc' := loc) (fun _ => rfl) fun Q E k => ?_
    refine slice_front (T := "bytes") (fun o => typeIs_bytes _ _ t) FB.slot_bytes_getitem.lookup ?_
    refine getItem_meets (typeIs_bytes _ _ _) (by decide) FB.slot_bytes_getitem FB.entry_bytes_getitem (FB.args_bytes_getitem_2 _ _) (KBc.meets_slice2 _ t _ pl pu) ⟨Heap.IsSliceOf.new _ _ _ _, ?_, fun t' c => ?_⟩
    · refine Nat.le_trans (KBc.size_picked_le _ lo hi) ?_
      rw [sizeLine_eq]; simpa [line] using hl
    · refine k ρ _ _ (List.prefix_refl _) (I.grow (t := c) fun b o e => Heap.get?_push_of_some _ e) ⟨t', ?_⟩
      rw [KBc.picked_eq]
      simp [cutL]
  | obj i =>
    obtain ⟨p, hp, rfl⟩ := ha
    dsimp only
    refine At.getO I fun o p' ho hρ hr => ?_
    have := pre_get pp hp; rw [hρ] at this; cases this
    cases o with
    | list xs =>
      refine At.need fun hl => at_clipO (at_clipO ?_)
      have hl := of_decide_eq_true hl
      obtain ⟨vs, hL, hvs⟩ := isList_rep hr
      refine At.fin (a := .obj objs.length) (objs' := objs ++ [.list _]) (loc' := loc) (fun _ => rfl) fun Q E k => ?_
      refine slice_front (T := "list") (fun o => Heap.IsList.typeIs (s := { s with heap := s.heap.push o }) (hL.push _)) slot_list_getitem.lookup ?_
      refine wpAny_getItem_list_slice (hL.push _) (Heap.IsSliceOf.new ..) pl pu .none (by simp) ?_ (by rw [sizeLine_eq]; simpa [hvs.length, line] using hl)
      rw [slicePick_plain]
      have e : (List.toArray vs).size = xs.length := by simp [hvs.length]
      rw [e]
      have I1 := I.grow (t := s.toks) (h' := s.heap.push { cls := .type "slice", data := .fields #[v, w, .none] }) (fun b o e => Heap.get?_push_of_some _ e)
      exact k (ρ ++ [((s.heap.push { cls := .type "slice", data := .fields #[v, w, .none] }).objs.size, none)]) _ _ (List.prefix_append _ _) (I1.newO (t := s.toks) (fun b o e => Heap.get?_push_of_some _ e) (Heap.get?_none_of_le (Nat.le_refl _)) (fun d e => by cases e) ⟨rfl, _, 0, Heap.get?_push_size _ rfl, ((hvs.drop _).take _).mono (List.prefix_append _ _)⟩) ⟨_, by rw [← I.len]; exact List.getElem?_concat_length, rfl⟩
    | tup xs =>
      dsimp only
      cases pl with
      | none => exact At.stop
      | int a t =>
        cases pu with
        | int _ _ => exact At.stop
        | none =>
          refine At.need fun hl => ?_
          obtain ⟨l1, l2, l3⟩ := of_decide_eq_true hl
          obtain ⟨k, rfl⟩ := Int.eq_ofNat_of_zero_le (show 0 ≤ a by omega)
          obtain ⟨_, vs, nn, hg, hvs⟩ := hr
          have hlen := hvs.length
          refine At.fin (a := .obj objs.length) (objs' := objs ++ [.tup (xs.drop (k : Int).toNat)]) (loc' := loc) (fun _ => rfl) fun Q E q => ?_
          have hT : ∀ o, IsTup (s.heap.push o) p.1 vs.toArray := fun o => ⟨_, Heap.get?_push_of_some o hg, rfl, nn, rfl⟩
          refine slice_front (T := "tuple") (fun o => IsTup.typeIs (s := { s with heap := s.heap.push o }) (hT o)) slot_tuple_getitem.lookup ?_
          refine getItem_tuple_from (hT _) (Heap.IsSliceOf.new ..) (by omega) (by simp; omega) ?_ (by rw [sizeLine_eq]; unfold line at l3; simp; omega)
          have I1 := I.grow (t := s.toks) (h' := s.heap.push { cls := .type "slice", data := .fields #[.int (k : Int) t, .none, .none] }) (fun b o e => Heap.get?_push_of_some _ e)
          exact q (ρ ++ [((s.heap.push { cls := .type "slice", data := .fields #[.int (k : Int) t, .none, .none] }).objs.size, none)]) _ _ (List.prefix_append _ _) (I1.newO (t := s.toks) (fun b o e => Heap.get?_push_of_some _ e) (Heap.get?_none_of_le (Nat.le_refl _)) (fun d e => by cases e) ⟨rfl, _, 0, Heap.get?_push_size _ rfl, (hvs.drop k).mono (List.prefix_append _ _)⟩) ⟨_, by rw [← I.len]; exact List.getElem?_concat_length, rfl⟩
    | _ => exact At.stop
  | str x =>
    obtain ⟨t, rfl⟩ := ha
    dsimp only
    refine At.need fun hl => at_clipO (at_clipO ?_)
    have hl := of_decide_eq_true hl
    have hn : x.length ≤ sizeLine := by rw [sizeLine_eq]; simpa [Str.length, line] using hl
    refine At.fin (a := .str _) (objs' := objs) (loc' := loc) (fun _ => rfl) fun Q E k => ?_
    refine slice_front (T := "str") (fun o => typeIs_str _ _ t) F.slot_str_getitem.lookup ?_
    have fin : ∀ t' c, Q (.str (Txt.slice x lo hi) t') { s with heap := s.heap.push { cls := .type "slice", data := .fields #[v, w, .none] }, toks := c } := fun t' c => by
      refine k ρ _ _ (List.prefix_refl _) (I.grow (t := c) fun b o e => Heap.get?_push_of_some _ e) ⟨t', ?_⟩
      rw [txt_cut]
    cases pl with
    | none => cases pu with
      | none => exact wpAny_getItem_str_slice (l := none) (u := none) (st := none) ⟨_, Heap.get?_push_size _ rfl, rfl, rfl⟩ rfl (post_val_or_str ⟨Nat.le_trans (Txt.slice_le x _ _) hn, fun t' c => fin t' c⟩)
      | int j tj => exact wpAny_getItem_str_slice (l := none) (u := some (j, tj)) (st := none) ⟨_, Heap.get?_push_size _ rfl, rfl, rfl⟩ rfl (post_val_or_str ⟨Nat.le_trans (Txt.slice_le x _ _) hn, fun t' c => fin t' c⟩)
    | int i ti => cases pu with
      | none => exact wpAny_getItem_str_slice (l := some (i, ti)) (u := none) (st := none) ⟨_, Heap.get?_push_size _ rfl, rfl, rfl⟩ rfl (post_val_or_str ⟨Nat.le_trans (Txt.slice_le x _ _) hn, fun t' c => fin t' c⟩)
      | int j tj => exact wpAny_getItem_str_slice (l := some (i, ti)) (u := some (j, tj)) (st := none) ⟨_, Heap.get?_push_size _ rfl, rfl, rfl⟩ rfl (post_val_or_str ⟨Nat.le_trans (Txt.slice_le x _ _) hn, fun t' c => fin t' c⟩)
  | _ => exact At.stop
end
end Mine
end

section
set_option maxRecDepth 100000
set_option linter.unusedVariables false
open PySem PySem.W PySem.Calls PyProof.Rows
namespace Mine
section
variable {𝒞 : Ctx → Prop} {S : Sys} {Φ : Frm} {n : Nat} {hd : Bool} {ρ₀ : RMap} {T : Tabs} {ba : Bool}
theorem wpC_clean {α : Type} {M : Model} {A : Around} {t : Sem α} {Q : α → Shared → Prop} {E : Value → Shared → Prop} {s : Shared} (hC : ∀ Γ, 𝒞 Γ → Clean Γ) (h : wpC Clean M A t Q E s) : wpC 𝒞 M A t Q E s :=
  fun Γ p hΓ h𝒞 => h Γ p hΓ (hC Γ h𝒞)
theorem vs1 {a : MV} {vs : List Value} {ρ : RMap} (h : VsRep ρ [a] vs) : ∃ v, vs = [v] ∧ VRep ρ a v := by
  cases h with
  | cons h t => cases t with
    | nil => exact ⟨_, rfl, h⟩
theorem vs2 {a b : MV} {vs : List Value} {ρ : RMap} (h : VsRep ρ [a, b] vs) : ∃ v u, vs = [v, u] ∧ VRep ρ a v ∧ VRep ρ b u := by
  cases h with
  | cons h t => obtain ⟨u, rfl, hu⟩ := vs1 t; exact ⟨_, _, rfl, h, hu⟩
theorem vs3 {a b c : MV} {vs : List Value} {ρ : RMap} (h : VsRep ρ [a, b, c] vs) : ∃ v u w, vs = [v, u, w] ∧ VRep ρ a v ∧ VRep ρ b u ∧ VRep ρ c w := by
  cases h with
  | cons h t => obtain ⟨u, w, rfl, hu, hw⟩ := vs2 t; exact ⟨_, _, _, rfl, h, hu, hw⟩
theorem At.clean {α β : Type} {A : Around} {kp : List (Addr × Obj)} {ρ : RMap} {objs : List MO} {loc : Loc} {s : Shared} {m : EvM α} {t : Sem β} {R : RMap → α → β → Prop} (hC : ∀ Γ, 𝒞 Γ → Clean Γ) (h : At Clean S Φ A kp ρ objs loc s m t R) : At 𝒞 S Φ A kp ρ objs loc s m t R :=
  fun orc Q E W => wpC_clean hC (h orc Q E W)
theorem fin_new {kp : List (Addr × Obj)} {ρ : RMap} {objs : List MO} {loc : Loc} {s : Shared} {o : MO} (I : Stn S ρ kp ((Φ.L, loc) :: Φ.outer) objs s) {Q : Value → Shared → Prop} {h' : Heap} {k : Nat} {D : Addr}
    (hQ : ∀ ρ' v s', ρ <+: ρ' → Stn S ρ' kp ((Φ.L, loc) :: Φ.outer) (objs ++ [o]) s' → VRep ρ' (.obj objs.length) v → Q v s') (hk : ∀ b o, s.heap.get? b = some o → h'.get? b = some o) (hD : s.heap.get? D = none)
    (hr : ORep (ρ ++ [(D, none)]) h' (D, none) o) : Q (.ref D) { s with heap := h', toks := k } :=
  hQ (ρ ++ [(D, none)]) _ _ (List.prefix_append _ _) (I.newO (t := k) hk hD (fun d e => by cases e) hr) ⟨_, by rw [← I.len]; exact List.getElem?_concat_length, rfl⟩
theorem isi_bytes_str {prog : Program} {w : World} {A : Around} {E : Value → Shared → Prop} {s : Shared} {b : Array UInt8} {u : Tok} {Q : Value → Shared → Prop} (h : Q (.bool false) { s with toks := s.toks + 1 }) : wpAny (model prog w) A (call (.builtin "isinstance") [.bytes b u, .type "str"]) Q E s :=
  call_isinstance (S := fun _ R s => R (.ok (.ret (.bool false))) { s with toks := s.toks + 1 }) (fun _ _ _ _ s hs => by
    obtain ⟨h, g, d, t, os⟩ := s
    exact isinstance_outer (isinstance_nested_false_bytes (by decide +kernel) F.isi_meta_str (by rw [isSubtype_type]; kernel_rfl) hs)) h
theorem isi_bytes_bytes {prog : Program} {w : World} {A : Around} {E : Value → Shared → Prop} {s : Shared} {b : Array UInt8} {u : Tok} {Q : Value → Shared → Prop} (h : Q (.bool true) s) : wpAny (model prog w) A (call (.builtin "isinstance") [.bytes b u, .type "bytes"]) Q E s :=
  call_isinstance (isinstance_true (Tx := "bytes") F.isi_meta_bytes F.isi_self_bytes) ⟨rfl, h⟩
theorem ints_of {ρ : RMap} : ∀ {xs : List MV} {vs : List Value} {is : List Int}, intsOf xs = some is → VsRep ρ xs vs → PyProof.Rows.IntsAre vs is
  | [], _, _, h, .nil => by cases h; exact .nil
  | x :: xs, _, _, h, .cons (v := v) hx r => by
    cases x with
    | int i =>
      obtain ⟨t, rfl⟩ := hx
      have h' : (intsOf xs).map (i :: ·) = some _ := h
      cases q : intsOf xs with
      | none => rw [q] at h'; cases h'
      | some js =>
        rw [q] at h'
        cases h'
        exact .cons i t (ints_of q r)
    | _ => cases h
theorem digit_text (k : Nat) (h : k < 10) : Str.ofString (toString (k : Int)) = ⟨⟨[48 + k]⟩⟩ := by
  have : ∀ k : Fin 10, Str.ofString (toString ((k.val : Nat) : Int)) = ⟨⟨[48 + k.val]⟩⟩ := by decide +kernel
  exact this ⟨k, h⟩
theorem text_digit (k : Nat) (h : k < 10) : PySem.intText? ⟨⟨[48 + k]⟩⟩ = some (k : Int) := by
  have : ∀ k : Fin 10, PySem.intText? ⟨⟨[48 + k.val]⟩⟩ = some ((k.val : Nat) : Int) := by decide +kernel
  exact this ⟨k, h⟩
theorem lv_blt (Y : SysOk S T) (hC : ba = true → ∀ Γ, 𝒞 Γ → Clean Γ) (f : Bi) {args : List MV} {vs : List Value} (h : VsRep ρ₀ args vs) : Snd 𝒞 S Φ n false ρ₀ (bltM ba f args) (call (biVal f) vs) VRep := by
  cases f with
  | len => cases args with
    | nil => exact Snd.stop
    | cons x r => cases x with
      | str s => cases r with
        | cons _ _ => exact Snd.stop
        | nil =>
          obtain ⟨v, rfl, t, rfl⟩ := vs1 h
          exact Snd.need fun hl => Snd.leaf (leaf_lens (of_decide_eq_true hl)) fun ρ v p hv => hv
      | bytes b => cases r with
        | cons _ _ => exact Snd.stop
        | nil =>
          obtain ⟨v, rfl, t, rfl⟩ := vs1 h
          exact Snd.need fun hl => Snd.leaf (leaf_lenb (of_decide_eq_true hl)) fun ρ v p hv => hv
      | obj i => cases r with
        | cons _ _ => exact Snd.stop
        | nil =>
          obtain ⟨v, rfl, p, hp, rfl⟩ := vs1 h
          refine Snd.getO fun A kp ρ objs loc s o p' pp hA I ho hρ hr => ?_
          have := pre_get pp hp; rw [hρ] at this; cases this
          cases o with
          | list xs =>
            obtain ⟨vs, hL, hvs⟩ := isList_rep hr
            refine At.need fun hl => At.pure I fun Q E k => ?_
            have hl := of_decide_eq_true hl
            unfold line at hl
            refine len_list hL (by rw [List.size_toArray, hvs.length]; omega) (k _ _ ⟨s.toks + 1, ?_⟩)
            rw [List.size_toArray, hvs.length]
          | tup xs =>
            obtain ⟨_, vs, nn, hg, hvs⟩ := hr
            refine At.need fun hl => At.pure I fun Q E k => ?_
            have hl := of_decide_eq_true hl
            unfold line at hl
            have hT : IsTup s.heap p.1 vs.toArray := ⟨_, hg, rfl, nn, rfl⟩
            refine PyProof.Rows.len_tuple hT (by rw [List.size_toArray, hvs.length]; omega) (k _ _ ⟨s.toks + 1, ?_⟩)
            rw [List.size_toArray, hvs.length]
          | barr b =>
            refine At.need fun hl => At.pure I fun Q E k => ?_
            exact call_len_barr hr.2 (of_decide_eq_true hl) (k _ _ ⟨_, rfl⟩)
          | _ => exact At.stop
      | _ => exact Snd.stop
  | chr => cases args with
    | nil => exact Snd.stop
    | cons x r => cases x with
      | int i => cases r with
        | cons _ _ => exact Snd.stop
        | nil =>
          obtain ⟨v, rfl, t, rfl⟩ := vs1 h
          exact Snd.need fun hl => Snd.leaf (leaf_chr (of_decide_eq_true hl).1 (of_decide_eq_true hl).2) fun ρ v p hv => hv
      | _ => exact Snd.stop
  | isinst => cases args with
    | nil => exact Snd.stop
    | cons x r => cases x with
      | str s => cases r with
        | nil => exact Snd.stop
        | cons y r => cases y with
          | bi b => cases b with
            | tstr => cases r with
              | cons _ _ => exact Snd.stop
              | nil =>
                obtain ⟨v, u, rfl, ⟨t, rfl⟩, hu⟩ := vs2 h
                obtain rfl : u = .type "str" := hu
                exact Snd.leaf (P := IsBool true) (fun A s Q E _ _ _ k => IsiPair.str_str (k _ s.toks rfl)) fun ρ v p hv => hv
            | tbytes => cases r with
              | cons _ _ => exact Snd.stop
              | nil =>
                obtain ⟨v, u, rfl, ⟨t, rfl⟩, hu⟩ := vs2 h
                obtain rfl : u = .type "bytes" := hu
                exact Snd.leaf (P := IsBool false) (fun A s Q E _ _ _ k => IsiPair.str_bytes (k _ _ rfl)) fun ρ v p hv => hv
            | _ => exact Snd.stop
          | _ => exact Snd.stop
      | bytes s => cases r with
        | nil => exact Snd.stop
        | cons y r => cases y with
          | bi b => cases b with
            | tstr => cases r with
              | cons _ _ => exact Snd.stop
              | nil =>
                obtain ⟨v, u, rfl, ⟨t, rfl⟩, hu⟩ := vs2 h
                obtain rfl : u = .type "str" := hu
                exact Snd.leaf (P := IsBool false) (fun A s Q E _ _ _ k => isi_bytes_str (k _ _ rfl)) fun ρ v p hv => hv
            | tbytes => cases r with
              | cons _ _ => exact Snd.stop
              | nil =>
                obtain ⟨v, u, rfl, ⟨t, rfl⟩, hu⟩ := vs2 h
                obtain rfl : u = .type "bytes" := hu
                exact Snd.leaf (P := IsBool true) (fun A s Q E _ _ _ k => isi_bytes_bytes (k _ s.toks rfl)) fun ρ v p hv => hv
            | _ => exact Snd.stop
          | _ => exact Snd.stop
      | obj i => cases r with
        | nil => exact Snd.stop
        | cons y r => cases y with
          | gl C => cases r with
            | cons _ _ => exact Snd.stop
            | nil =>
              obtain ⟨v, u, rfl, ⟨p, hp, rfl⟩, hu⟩ := vs2 h
              obtain rfl : u = .ref C := hu
              refine Snd.getO fun A kp ρ objs loc s o p' pp hA I ho hρ hr => ?_
              have := pre_get pp hp; rw [hρ] at this; cases this
              cases o with
              | inst D fs =>
                dsimp only
                cases hCD : Nat.beq C D with
                | false => exact At.stop
                | true =>
                  have := Nat.eq_of_beq_eq_true hCD; subst this
                  refine At.pure I fun Q E k => ?_
                  obtain ⟨d, od, es, ep, m, e3, g, ho2, IA, _⟩ := inst_at hr
                  exact isi_call (t := .ref C) (I.K Y) (fun M => (Looks.ld g).andThen .now) (by unfold isIn; simp) (by intro q; cases q) (k _ s.toks rfl)
              | _ => exact At.stop
          | _ => exact Snd.stop
      | _ => exact Snd.stop
  | tlist => cases args with
    | nil => exact Snd.stop
    | cons v0 r => cases r with
      | cons _ _ => exact Snd.stop
      | nil =>
        obtain ⟨v, rfl, hv⟩ := vs1 h
        show Snd 𝒞 S Φ n false ρ₀ (seqM v0 >>= fun xs => newO (.list xs)) _ _
        unfold seqM
        cases v0 with
        | obj i =>
          obtain ⟨p, hp, rfl⟩ := hv
          rw [ev_assoc]
          refine Snd.getO fun A kp ρ objs loc s o p' pp hA I ho hρ hr => ?_
          have := pre_get pp hp; rw [hρ] at this; cases this
          have hnone : s.heap.get? s.heap.objs.size = none := Heap.get?_none_of_le (Nat.le_refl _)
          cases o with
          | list xs =>
            obtain ⟨_, vs, nn, hg, hvs⟩ := hr
            dsimp only
            rw [ev_assoc]
            refine At.need fun hl => ?_
            rw [ev_pure]
            have hl := of_decide_eq_true hl
            refine At.fin (a := .obj objs.length) (objs' := objs ++ [.list xs]) (loc' := loc) (fun _ => rfl) fun Q E k => ?_
            refine call_list_seq p.1 (.inl rfl) hg rfl rfl (fun h' c' hk hD => ?_) (by rw [size_line, List.size_toArray, hvs.length]; exact hl)
            exact fin_new I k hk hnone ⟨rfl, vs, c', hD, (hvs.mono (List.prefix_append _ _))⟩
          | tup xs =>
            obtain ⟨_, vs, nn, hg, hvs⟩ := hr
            dsimp only
            rw [ev_assoc]
            refine At.need fun hl => ?_
            rw [ev_pure]
            have hl := of_decide_eq_true hl
            refine At.fin (a := .obj objs.length) (objs' := objs ++ [.list xs]) (loc' := loc) (fun _ => rfl) fun Q E k => ?_
            refine call_list_seq p.1 (.inr rfl) hg rfl rfl (fun h' c' hk hD => ?_) (by rw [size_line, List.size_toArray, hvs.length]; exact hl)
            exact fin_new I k hk hnone ⟨rfl, vs, c', hD, (hvs.mono (List.prefix_append _ _))⟩
          | _ => exact At.stop
        | _ => exact Snd.stop
  | ttuple => cases args with
    | nil => exact Snd.stop
    | cons v0 r => cases r with
      | cons _ _ => exact Snd.stop
      | nil =>
        obtain ⟨v, rfl, hv⟩ := vs1 h
        cases v0 with
        | obj i =>
          obtain ⟨p, hp, rfl⟩ := hv
          refine Snd.getO fun A kp ρ objs loc s o p' pp hA I ho hρ hr => ?_
          have := pre_get pp hp; rw [hρ] at this; cases this
          cases o with
          | flist xs =>
            obtain ⟨_, vs, hL, hvs⟩ := hr
            refine At.need fun hl => ?_
            have hl := of_decide_eq_true hl
            refine At.fin (a := .obj objs.length) (objs' := objs ++ [.tup xs]) (loc' := loc) (fun _ => rfl) fun Q E k => ?_
            refine call_tuple_list hL (fun h' hk => ?_) (by rw [size_line, List.size_toArray, hvs.length]; exact hl)
            have hnone : h'.get? h'.objs.size = none := Heap.get?_none_of_le (Nat.le_refl _)
            refine fin_new (I.grow (t := s.toks) hk) k (fun b o e => Heap.get?_push_of_some _ e) hnone ⟨rfl, vs, 0, Heap.get?_push_size _ rfl, (hvs.mono (List.prefix_append _ _))⟩
          | _ => exact At.stop
        | _ => exact Snd.stop
  | tbarr => cases args with
    | cons _ _ => exact Snd.stop
    | nil =>
      obtain rfl : vs = [] := by cases h; rfl
      cases hba : ba with
      | false => exact Snd.stop
      | true =>
        refine Snd.of_at fun A kp ρ objs loc s pp hA I => ?_
        refine At.finC (a := .obj objs.length) (objs' := objs ++ [.barr []]) (loc' := loc) (fun _ => rfl) fun Q E k => ?_
        refine wpC_sub (wpC_barr_make fun h' hk hD => ?_) (hC hba)
        exact fin_new I k hk (Heap.get?_none_of_le (Nat.le_refl _)) ⟨rfl, hD⟩
  | tbytes => cases args with
    | nil => exact Snd.stop
    | cons x r => cases x with
      | obj i => cases r with
        | cons _ _ => exact Snd.stop
        | nil =>
          obtain ⟨v, rfl, p, hp, rfl⟩ := vs1 h
          refine Snd.getO fun A kp ρ objs loc s o p' pp hA I ho hρ hr => ?_
          have := pre_get pp hp; rw [hρ] at this; cases this
          cases o with
          | barr b =>
            refine At.need fun hl => At.pure I fun Q E k => ?_
            exact call_bytes_barr hr.2 (of_decide_eq_true hl) fun t c => k _ _ ⟨t, rfl⟩
          | list xs =>
            obtain ⟨vs, hL, hvs⟩ := isList_rep hr
            dsimp only
            cases hi : intsOf xs with
            | none => exact At.stop
            | some is =>
              refine At.need fun hr => At.need fun hl => ?_
              have hl := of_decide_eq_true hl
              have hia := ints_of hi hvs
              refine At.fin (a := .bytes (toU8 is)) (objs' := objs) (loc' := loc) (fun _ => rfl) fun Q E k => ?_
              refine call_bytes_ints hL hia (fun n hn => by have := List.all_eq_true.mp hr n hn; exact of_decide_eq_true this) (by rw [hia.length, size_line]; exact hl) (hA.handled rfl) fun h' t c hk => ?_
              exact k ρ _ _ (List.prefix_refl _) (I.grow (t := c) hk) ⟨t, rfl⟩
          | _ => exact At.stop
      | _ => exact Snd.stop
  | tstr => cases args with
    | nil => exact Snd.stop
    | cons x r => cases x with
      | int i => cases r with
        | cons _ _ => exact Snd.stop
        | nil =>
          obtain ⟨v, rfl, t, rfl⟩ := vs1 h
          refine Snd.need fun hl => ?_
          obtain ⟨h0, h1⟩ := of_decide_eq_true hl
          obtain ⟨k, rfl⟩ := Int.eq_ofNat_of_zero_le h0
          refine Snd.leaf (P := IsStr ⟨⟨[48 + k]⟩⟩) (fun A s Q E _ _ _ q => P.str_of_int ?_ (q _ _ ⟨s.toks, ?_⟩)) fun ρ v p hv => hv
          · have : k.log2 < 1920 := by
              rcases Nat.eq_zero_or_pos k with rfl | hk
              · decide
              · exact (Nat.log2_lt (by omega)).mpr (Nat.lt_of_lt_of_le (by omega : k < 2 ^ 4) (Nat.pow_le_pow_right (by decide) (by decide)))
            exact this
          · have := digit_text k (by omega)
            show Value.str (Str.ofString (toString (k : Int))) _ = _
            rw [this]
      | _ => exact Snd.stop
  | tint => cases args with
    | nil => exact Snd.stop
    | cons x r => cases x with
      | str x => cases r with
        | cons _ _ => exact Snd.stop
        | nil =>
          obtain ⟨v, rfl, t, rfl⟩ := vs1 h
          obtain ⟨⟨l⟩⟩ := x
          cases l with
          | nil => exact Snd.stop
          | cons c l => cases l with
          | cons _ _ => exact Snd.stop
          | nil =>
            refine Snd.need fun hl => ?_
            obtain ⟨h0, h1⟩ := of_decide_eq_true hl
            have hx : (⟨⟨[c]⟩⟩ : Str) = ⟨⟨[48 + (c - 48)]⟩⟩ := by
              have : 48 + (c - 48) = c := by omega
              rw [this]
            refine Snd.leaf (P := IsInt ((c - 48 : Nat) : Int)) (fun A s Q E _ _ _ q => ?_) fun ρ v p hv => hv
            refine KIN.call_text (n := ((c - 48 : Nat) : Int)) ?_ ?_ (q _ _ ⟨_, rfl⟩)
            · rw [hx]; exact text_digit (c - 48) (by omega)
            · rw [hx]; exact (by decide : (1 : Nat) ≤ 640)
      | _ => exact Snd.stop
  | trange => cases args with
    | nil => exact Snd.stop
    | cons x r => cases x with
      | int a => cases r with
        | nil =>
          obtain ⟨v, rfl, t, rfl⟩ := vs1 h
          refine Snd.of_at fun A kp ρ objs loc s pp hA I => ?_
          refine At.fin (a := .obj objs.length) (objs' := objs ++ [.range 0 a 1]) (loc' := loc) (fun _ => rfl) fun Q E k => ?_
          exact call_range_1 (fin_new I k (fun b o e => Heap.get?_push_of_some _ e) (Heap.get?_none_of_le (Nat.le_refl _)) ⟨rfl, _, _, _, Heap.get?_push_size _ rfl⟩)
        | cons y r => cases y with
          | int b => cases r with
            | nil =>
              obtain ⟨v, u, rfl, ⟨t, rfl⟩, ⟨t', rfl⟩⟩ := vs2 h
              refine Snd.of_at fun A kp ρ objs loc s pp hA I => ?_
              refine At.fin (a := .obj objs.length) (objs' := objs ++ [.range a b 1]) (loc' := loc) (fun _ => rfl) fun Q E k => ?_
              exact call_range_2 (fin_new I k (fun b o e => Heap.get?_push_of_some _ e) (Heap.get?_none_of_le (Nat.le_refl _)) ⟨rfl, _, _, _, Heap.get?_push_size _ rfl⟩)
            | cons z r => cases z with
              | int c => cases r with
                | cons _ _ => exact Snd.stop
                | nil =>
                  obtain ⟨v, u, w, rfl, ⟨t, rfl⟩, ⟨t', rfl⟩, ⟨t'', rfl⟩⟩ := vs3 h
                  refine Snd.of_at fun A kp ρ objs loc s pp hA I => At.need fun hl => ?_
                  obtain ⟨h0, h1⟩ := of_decide_eq_true hl
                  refine At.fin (a := .obj objs.length) (objs' := objs ++ [.range a b c]) (loc' := loc) (fun _ => rfl) fun Q E k => ?_
                  exact call_range_3 h0 (fin_new I k (fun b o e => Heap.get?_push_of_some _ e) (Heap.get?_none_of_le (Nat.le_refl _)) ⟨rfl, _, _, _, Heap.get?_push_size _ rfl⟩) (.inl (small_div h1))
              | _ => exact Snd.stop
          | _ => exact Snd.stop
      | _ => exact Snd.stop
noncomputable def SysL (S : Sys) (T : Tabs) : Prop := ∀ a xs r, T.lists = (a, xs) :: r → ∃ vs n, S.B.get? a = some { cls := .type "list", data := .seq vs.toArray n } ∧ VsRep [] xs vs ∧ xs.length ≤ line
theorem lv_bltT (Y : SysOk S T) (YL : SysL S T) (hC : ba = true → ∀ Γ, 𝒞 Γ → Clean Γ) (f : Bi) {args : List MV} {vs : List Value} (h : VsRep ρ₀ args vs) : Snd 𝒞 S Φ n false ρ₀ (bltT T ba f args) (call (biVal f) vs) VRep := by
  unfold bltT
  split
  · rename_i a
    obtain ⟨v, rfl, hv⟩ := vs1 h
    obtain rfl : v = .ref a := hv
    cases hl : T.lists with
    | nil => exact Snd.stop
    | cons q r =>
      obtain ⟨b, xs⟩ := q
      refine Snd.need fun hb => ?_
      have := Nat.eq_of_beq_eq_true hb; subst this
      obtain ⟨vs, nn, hg, hvs, hll⟩ := YL a xs r hl
      refine Snd.of_at fun A kp ρ objs loc s pp hA I => ?_
      have hnone : s.heap.get? s.heap.objs.size = none := Heap.get?_none_of_le (Nat.le_refl _)
      refine At.fin (a := .obj objs.length) (objs' := objs ++ [.list xs]) (loc' := loc) (fun _ => rfl) fun Q E k => ?_
      refine call_list_seq a (.inl rfl) (I.base _ _ hg) rfl rfl (fun h' c' hk hD => ?_) (by rw [size_line, List.size_toArray, hvs.length]; exact hll)
      exact fin_new I k hk hnone ⟨rfl, vs, c', hD, (hvs.mono List.nil_prefix)⟩
  · rename_i a
    obtain ⟨v, rfl, hv⟩ := vs1 h
    obtain rfl : v = .ref a := hv
    cases hl : T.lists with
    | nil => exact Snd.stop
    | cons q r =>
      obtain ⟨b, xs⟩ := q
      refine Snd.need fun hb => ?_
      have := Nat.eq_of_beq_eq_true hb; subst this
      obtain ⟨vs, nn, hg, hvs, hll⟩ := YL a xs r hl
      refine Snd.of_at fun A kp ρ objs loc s pp hA I => At.pure I fun Q E k => ?_
      have hL : s.heap.IsList a vs.toArray := ⟨_, I.base _ _ hg, rfl, nn, rfl⟩
      unfold line at hll
      refine len_list hL (by rw [List.size_toArray, hvs.length]; omega) (k _ _ ⟨s.toks + 1, ?_⟩)
      rw [List.size_toArray, hvs.length]
  · exact lv_blt Y hC f h
end
end Mine
end

section
set_option maxRecDepth 100000
set_option linter.unusedVariables false
open PySem PySem.W PySem.Calls PyProof.Rows
namespace Mine
theorem me_mem {name : Str} {m : Me} (h : lookS name meTab = some m) : (name, m) ∈ meTab := lookS_mem h
theorem n_append : (⟨⟨[97, 112, 112, 101, 110, 100]⟩⟩ : Str) = Str.ofString "append" := by decide +kernel
theorem n_extend : (⟨⟨[101, 120, 116, 101, 110, 100]⟩⟩ : Str) = Str.ofString "extend" := by decide +kernel
theorem n_encode : (⟨⟨[101, 110, 99, 111, 100, 101]⟩⟩ : Str) = Str.ofString "encode" := by decide +kernel
theorem n_decode : (⟨⟨[100, 101, 99, 111, 100, 101]⟩⟩ : Str) = Str.ofString "decode" := by decide +kernel
theorem n_lower : (⟨⟨[108, 111, 119, 101, 114]⟩⟩ : Str) = Str.ofString "lower" := by decide +kernel
theorem n_split : (⟨⟨[115, 112, 108, 105, 116]⟩⟩ : Str) = Str.ofString "split" := by decide +kernel
theorem n_endswith : (⟨⟨[101, 110, 100, 115, 119, 105, 116, 104]⟩⟩ : Str) = Str.ofString "endswith" := by decide +kernel
theorem n_startswith : (⟨⟨[115, 116, 97, 114, 116, 115, 119, 105, 116, 104]⟩⟩ : Str) = Str.ofString "startswith" := by decide +kernel
theorem n_find : (⟨⟨[102, 105, 110, 100]⟩⟩ : Str) = Str.ofString "find" := by decide +kernel
theorem n_rfind : (⟨⟨[114, 102, 105, 110, 100]⟩⟩ : Str) = Str.ofString "rfind" := by decide +kernel
theorem n_join : (⟨⟨[106, 111, 105, 110]⟩⟩ : Str) = Str.ofString "join" := by decide +kernel
section
variable {𝒞 : Ctx → Prop} {S : Sys} {Φ : Frm} {n : Nat} {hd : Bool} {ρ₀ : RMap} {T : Tabs} {ba : Bool}
theorem at_split {α β : Type} {A : Around} {kp : List (Addr × Obj)} {ρ : RMap} {objs : List MO} {loc : Loc} {s : Shared} {t : Sem β} {R : RMap → α → β → Prop} {c : UInt8} : ∀ {b acc : List UInt8} {f : List (List UInt8) → EvM α},
    At 𝒞 S Φ A kp ρ objs loc s (f (splitL c b acc)) t R → At 𝒞 S Φ A kp ρ objs loc s (splitM c b acc >>= f) t R
  | [], acc, f, h => by
    show At 𝒞 S Φ A kp ρ objs loc s (Pure.pure [acc] >>= f) t R
    rw [ev_pure]; exact h
  | x :: r, acc, f, h => by
    show At 𝒞 S Φ A kp ρ objs loc s ((dec (Nat.beq x.toNat c.toNat) >>= fun q => match q with
      | true => splitM c r [] >>= fun l => Pure.pure (acc :: l)
      | false => splitM c r (acc ++ [x])) >>= f) t R
    rw [ev_assoc]
    refine At.dec ?_
    have e2 : splitL c (x :: r) acc = (match Nat.beq x.toNat c.toNat with | true => acc :: splitL c r [] | false => splitL c r (acc ++ [x])) := rfl
    rw [e2] at h
    cases q : Nat.beq x.toNat c.toNat with
    | true =>
      rw [q] at h
      dsimp only at h ⊢
      rw [ev_assoc]
      refine at_split ?_
      rw [ev_pure]; exact h
    | false =>
      rw [q] at h
      exact at_split h
theorem at_rfind {α β : Type} {A : Around} {kp : List (Addr × Obj)} {ρ : RMap} {objs : List MO} {loc : Loc} {s : Shared} {t : Sem β} {R : RMap → α → β → Prop} {c : UInt8} : ∀ {b : List UInt8} {k : Nat} {fnd : Int} {f : Int → EvM α},
    At 𝒞 S Φ A kp ρ objs loc s (f (rfindL c b k fnd)) t R → At 𝒞 S Φ A kp ρ objs loc s (rfindM c b k fnd >>= f) t R
  | [], k, fnd, f, h => by
    show At 𝒞 S Φ A kp ρ objs loc s (Pure.pure fnd >>= f) t R
    rw [ev_pure]; exact h
  | x :: r, k, fnd, f, h => by
    show At 𝒞 S Φ A kp ρ objs loc s ((dec (Nat.beq x.toNat c.toNat) >>= fun q => match q with
      | true => rfindM c r (k + 1) k
      | false => rfindM c r (k + 1) fnd) >>= f) t R
    rw [ev_assoc]
    refine At.dec ?_
    have e2 : rfindL c (x :: r) k fnd = (match Nat.beq x.toNat c.toNat with | true => rfindL c r (k + 1) k | false => rfindL c r (k + 1) fnd) := rfl
    rw [e2] at h
    cases q : Nat.beq x.toNat c.toNat with
    | true => rw [q] at h; exact at_rfind h
    | false => rw [q] at h; exact at_rfind h
theorem vs0 {vs : List Value} {ρ : RMap} (h : VsRep ρ [] vs) : vs = [] := by cases h; rfl
theorem byts_of {ρ : RMap} : ∀ {xs : List MV} {vs : List Value} {bs : List (List UInt8)}, bytsOf xs = some bs → VsRep ρ xs vs → VsRep [] (bs.map .bytes) vs
  | [], _, _, h, .nil => by cases h; exact .nil
  | x :: xs, _, _, h, .cons (v := v) hx r => by
    cases x with
    | bytes b =>
      have h' : (bytsOf xs).map (b :: ·) = some _ := h
      cases q : bytsOf xs with
      | none => rw [q] at h'; cases h'
      | some js =>
        rw [q] at h'
        cases h'
        exact .cons hx (byts_of q r)
    | _ => cases h
noncomputable def meId : Me → String
  | .append => "list.append" | .bappend => "bytearray.append" | .extend => "list.extend" | .encode => "str.encode" | .decode => "bytes.decode" | .lower => "bytes.lower" | .split => "bytes.split"
  | .endswith => "bytes.endswith" | .startswith => "bytes.startswith" | .find => "bytes.find" | .rfind => "bytes.rfind" | .join => "bytes.join" | .tobytes => "int.to_bytes"
noncomputable def meOk : Me → MV → Prop
  | m, .str _ => m = .encode
  | _, .int _ => False
  | _, _ => True
theorem fin_set {kp : List (Addr × Obj)} {ρ : RMap} {objs : List MO} {loc : Loc} {s : Shared} {o : MO} {i : Nat} {p : Addr × Option Addr} (I : Stn S ρ kp ((Φ.L, loc) :: Φ.outer) objs s) (hρ : ρ[i]? = some p) {Q : Value → Shared → Prop} {h' : Heap} {k : Nat} {v : Value} {a : MV}
    (hQ : ∀ ρ' v s', ρ <+: ρ' → Stn S ρ' kp ((Φ.L, loc) :: Φ.outer) (objs.set i o) s' → VRep ρ' a v → Q v s') (hs : Heap.SameBut p.1 s.heap h') (hr : ORep ρ h' p o) (hv : VRep ρ a v) : Q v { s with heap := h', toks := k } :=
  hQ ρ _ _ (List.prefix_refl _) (I.setO (t := k) hρ (fun b o hb _ e => (hs.2 b hb).trans e) hr) hv
theorem lv_me (hC : ba = true → ∀ Γ, 𝒞 Γ → Clean Γ) {m : Me} {a : MV} {u : Value} {args : List MV} {vs : List Value} (hh : hd = false ∨ m = .append) (hok : meOk m a) (hu : VRep ρ₀ a u) (hv : VsRep ρ₀ args vs) :
    Snd 𝒞 S Φ n hd ρ₀ (methM ba m a args) (call (.builtin (meId m)) (u :: vs)) VRep := by
  cases m with
  | append => 
    cases a with
    | obj i => 
      cases args with
      | cons v z1 => 
        cases z1 with
        | nil => 
          obtain ⟨p, hp, rfl⟩ := hu
          obtain ⟨v', rfl, hv1⟩ := vs1 hv
          refine Snd.getO fun A kp ρ objs loc s o p' pp hA I ho hρ hr => ?_
          have := pre_get pp hp; rw [hρ] at this; cases this
          cases o with
          | list xs =>
            obtain ⟨hp2, vs, nn, hg, hvs⟩ := hr
            refine At.need fun hl => ?_
            have hl := of_decide_eq_true hl
            refine At.fin (a := .none) (objs' := objs.set i (.list (xs ++ [v]))) (loc' := loc) (fun _ => rfl) fun Q E k => ?_
            refine wpAny_list_append_plain (l := p.1) (items := vs.toArray) ⟨nn, hg⟩ (fun h' hl' hs => ?_) (by rw [size_line, List.size_toArray, hvs.length]; unfold line at hl; omega)
            obtain ⟨n', hl'⟩ := hl'
            refine fin_set I hρ k hs ⟨hp2, vs ++ [v'], n', ?_, hvs.append (.cons (hv1.mono pp) .nil)⟩ rfl
            have e : vs.toArray.push v' = (vs ++ [v']).toArray := by simp
            rw [← e]; exact hl'
          | _ => exact At.stop
        | cons _ _ => exact Snd.stop
      | nil => exact Snd.stop
    | _ => exact Snd.stop
  | bappend => 
    cases a with
    | obj i => 
      cases args with
      | cons z2 z3 => 
        cases z2 with
        | int k => 
          cases z3 with
          | nil => 
            obtain ⟨p, hp, rfl⟩ := hu
            obtain ⟨v', rfl, t, rfl⟩ := vs1 hv
            refine Snd.getO fun A kp ρ objs loc s o p' pp hA I ho hρ hr => ?_
            have := pre_get pp hp; rw [hρ] at this; cases this
            cases o with
            | barr b =>
              cases hba : ba with
              | false => exact At.stop
              | true =>
                refine At.need fun hl => ?_
                obtain ⟨h0, h1, h2⟩ := of_decide_eq_true hl
                refine At.finC (a := .none) (objs' := objs.set i (.barr (b ++ [UInt8.ofNat k.toNat]))) (loc' := loc) (fun _ => rfl) fun Q E q => ?_
                refine wpC_sub (wpC_barr_append hr.2 h0 h1 h2 fun h' g hs => ?_) (hC hba)
                exact fin_set I hρ (k := s.toks) q hs ⟨hr.1, g⟩ rfl
            | _ => exact At.stop
          | cons _ _ => exact Snd.stop
        | _ => exact Snd.stop
      | nil => exact Snd.stop
    | _ => exact Snd.stop
  | extend => 
    cases a with
    | obj i => 
      cases args with
      | cons v z4 => 
        cases z4 with
        | nil => 
          obtain ⟨p, hp, rfl⟩ := hu
          obtain ⟨v', rfl, hv1⟩ := vs1 hv
          show Snd 𝒞 S Φ n hd ρ₀ (seqM v >>= fun ys => getO i >>= fun o => match o with
            | .list xs => need (decide (xs.length + ys.length ≤ line)) "extend" >>= fun _ => setO i (.list (xs ++ ys)) >>= fun _ => pure MV.none
            | _ => stop "extend") _ _
          unfold seqM
          cases v with
          | obj j =>
            obtain ⟨q, hq, rfl⟩ := hv1
            rw [ev_assoc]
            refine Snd.getO fun A kp ρ objs loc s o p' pp hA I ho hρ hr => ?_
            have := pre_get pp hq; rw [hρ] at this; cases this
            have hρi := pre_get pp hp
            have key : ∀ {ys : List MV} {us : List Value} {m2 : Nat} {T : String}, (T = "list" ∨ T = "tuple") → s.heap.get? q.1 = some { cls := .type T, data := .seq us.toArray m2 } → VsRep ρ ys us → At 𝒞 S Φ A kp ρ objs loc s
                (getO i >>= fun o => match o with
                  | .list xs => need (decide (xs.length + ys.length ≤ line)) "extend" >>= fun _ => setO i (.list (xs ++ ys)) >>= fun _ => pure MV.none
                  | _ => stop "extend") (call (.builtin "list.extend") [.ref p.1, .ref q.1]) VRep := by
              intro ys us m2 T hT hgq hus
              refine At.getO I fun o' p' ho' hρ' hr' => ?_
              rw [hρi] at hρ'; cases hρ'
              cases o' with
              | list xs =>
                obtain ⟨hp2, vs, nn, hg, hvs⟩ := hr'
                refine At.need fun hl => ?_
                have hl := of_decide_eq_true hl
                unfold line at hl
                have l1 := hvs.length
                have l2 := hus.length
                refine At.fin (a := .none) (objs' := objs.set i (.list (xs ++ ys))) (loc' := loc) (fun _ => rfl) fun Q E k => ?_
                have hfin : Q .none { s with heap := s.heap.update p.1 (Obj.mapSeq fun x => x ++ us.toArray), toks := s.toks } := by
                  refine fin_set I hρi k (Heap.SameBut.update ..) ⟨hp2, vs ++ us, (if (vs.toArray ++ us.toArray).size == vs.toArray.size then nn else nn + 1), ?_, hvs.append hus⟩ rfl
                  rw [Heap.get?_update_self _ hg rfl]
                  have e : (vs ++ us).toArray = vs.toArray ++ us.toArray := by simp
                  rw [e]
                  rfl
                have hT1 : s.TypeIs (.ref p.1) "list" := ⟨_, hg, rfl⟩
                have z1 : ¬(!vs.toArray.isEmpty && Builtin.List.listTooLong (vs.toArray.size + us.toArray.size)) = true := by
                  have : Builtin.List.listTooLong (vs.toArray.size + us.toArray.size) = false := by
                    unfold Builtin.List.listTooLong
                    rw [size_line]
                    simp; omega
                  rw [this]; simp
                rcases hT with rfl | rfl
                · exact call_meets PySem.F.slot_list_extend hT1 PySem.F.entry_list_extend (PySem.F.args_list_extend_2 _ _) (PySem.AutoSeq1.list_extend_list_list_0 p.1 vs.toArray nn q.1 us.toArray m2 z1 (by rw [size_line]; simp; omega) (by rw [size_line]; simp; omega)) ⟨hg, hgq, hfin⟩
                · exact call_meets PySem.F.slot_list_extend hT1 PySem.F.entry_list_extend (PySem.F.args_list_extend_2 _ _) (PySem.AutoSeq1.list_extend_list_tuple_0 p.1 vs.toArray nn q.1 us.toArray m2 z1 (by rw [size_line]; simp; omega) (by rw [size_line]; simp; omega)) ⟨hg, hgq, hfin⟩
              | _ => exact At.stop
            cases o with
            | list ys =>
              obtain ⟨_, us, m2, hgq, hus⟩ := hr
              dsimp only
              rw [ev_assoc]
              refine At.need fun _ => ?_
              rw [ev_pure]
              exact key (.inl rfl) hgq hus
            | tup ys =>
              obtain ⟨_, us, m2, hgq, hus⟩ := hr
              dsimp only
              rw [ev_assoc]
              refine At.need fun _ => ?_
              rw [ev_pure]
              exact key (.inr rfl) hgq hus
            | _ => exact At.stop
          | _ => exact Snd.stop
        | cons _ _ => exact Snd.stop
      | nil => exact Snd.stop
    | _ => exact Snd.stop
  | encode => 
    cases a with
    | str x => 
      cases args with
      | nil => 
        obtain ⟨t, rfl⟩ := hu
        obtain rfl := vs0 hv
        refine Snd.need fun hl => ?_
        rw [Bool.and_eq_true] at hl
        exact Snd.leaf (P := IsBytes (x.cps.toList.map UInt8.ofNat)) (fun A s Q E _ _ _ k => call_encode hl.1 (of_decide_eq_true hl.2) fun t' c => k _ c ⟨t', rfl⟩) fun ρ v p hv => hv
      | cons z5 z6 => 
        cases z5 with
        | str e => 
          cases z6 with
          | nil => 
            obtain ⟨t, rfl⟩ := hu
            obtain ⟨v', rfl, t', rfl⟩ := vs1 hv
            refine Snd.need fun hl => ?_
            rw [Bool.and_eq_true, Bool.and_eq_true] at hl
            obtain rfl := strEq_iff.mp hl.1.1
            exact Snd.leaf (P := IsBytes (x.cps.toList.map UInt8.ofNat)) (fun A s Q E _ _ _ k => call_encode_ascii hl.1.2 (of_decide_eq_true hl.2) fun t' c => k _ c ⟨t', rfl⟩) fun ρ v p hv => hv
          | cons _ _ => exact Snd.stop
        | _ => exact Snd.stop
    | _ => exact Snd.stop
  | decode => 
    cases a with
    | bytes b => 
      cases args with
      | nil => 
        obtain ⟨t, rfl⟩ := hu
        obtain rfl := vs0 hv
        refine Snd.need fun hl => ?_
        rw [Bool.and_eq_true] at hl
        exact Snd.leaf (P := IsStr ⟨⟨b.map fun c : UInt8 => c.toNat⟩⟩) (fun A s Q E _ _ _ k => call_decode hl.1 (of_decide_eq_true hl.2) fun t' c => k _ c ⟨t', rfl⟩) fun ρ v p hv => hv
      | cons _ _ => exact Snd.stop
    | _ => exact Snd.stop
  | lower => 
    cases a with
    | bytes b => 
      cases args with
      | nil => 
        obtain ⟨t, rfl⟩ := hu
        obtain rfl := vs0 hv
        exact Snd.need fun hl => Snd.leaf (P := IsBytes (lowerB b)) (fun A s Q E _ _ _ k => call_lower (of_decide_eq_true hl) fun t' c => k _ c ⟨t', rfl⟩) fun ρ v p hv => hv
      | cons _ _ => exact Snd.stop
    | _ => exact Snd.stop
  | split => 
    cases a with
    | bytes b => 
      cases args with
      | cons z7 z8 => 
        cases z7 with
        | bytes z9 => 
          cases z9 with
          | cons c z10 => 
            cases z10 with
            | nil => 
              cases z8 with
              | nil => 
                obtain ⟨t, rfl⟩ := hu
                obtain ⟨v', rfl, t', rfl⟩ := vs1 hv
                refine Snd.of_at fun A kp ρ objs loc s pp hA I => At.need fun hl => at_split ?_
                have hl := of_decide_eq_true hl
                refine At.fin (a := .obj objs.length) (objs' := objs ++ [.list ((splitL c b []).map .bytes)]) (loc' := loc) (fun _ => rfl) fun Q E k => ?_
                refine call_split (by unfold line at hl; omega) fun vs c' hvs => ?_
                exact fin_new I k (fun b o e => Heap.get?_push_of_some _ e) (Heap.get?_none_of_le (Nat.le_refl _)) ⟨rfl, vs, 0, Heap.get?_push_size _ rfl, hvs.mono List.nil_prefix⟩
              | cons _ _ => exact Snd.stop
            | cons _ _ => exact Snd.stop
          | nil => exact Snd.stop
        | _ => exact Snd.stop
      | nil => exact Snd.stop
    | _ => exact Snd.stop
  | endswith => 
    cases a with
    | bytes b => 
      cases args with
      | cons z11 z12 => 
        cases z11 with
        | bytes c => 
          cases z12 with
          | nil => 
            obtain ⟨t, rfl⟩ := hu
            obtain ⟨v', rfl, t', rfl⟩ := vs1 hv
            exact Snd.leaf (P := IsBool _) (fun A s Q E _ _ _ k => call_ends (k _ s.toks rfl)) fun ρ v p hv => hv
          | cons _ _ => exact Snd.stop
        | _ => exact Snd.stop
      | nil => exact Snd.stop
    | _ => exact Snd.stop
  | startswith => 
    cases a with
    | bytes b => 
      cases args with
      | cons z13 z14 => 
        cases z13 with
        | bytes c => 
          cases z14 with
          | nil => 
            obtain ⟨t, rfl⟩ := hu
            obtain ⟨v', rfl, t', rfl⟩ := vs1 hv
            exact Snd.leaf (P := IsBool _) (fun A s Q E _ _ _ k => call_starts (k _ s.toks rfl)) fun ρ v p hv => hv
          | cons _ _ => exact Snd.stop
        | _ => exact Snd.stop
      | nil => exact Snd.stop
    | _ => exact Snd.stop
  | find => 
    cases a with
    | bytes b => 
      cases args with
      | cons z15 z16 => 
        cases z15 with
        | bytes z17 => 
          cases z17 with
          | cons c z18 => 
            cases z18 with
            | nil => 
              cases z16 with
              | nil => 
                obtain ⟨t, rfl⟩ := hu
                obtain ⟨v', rfl, t', rfl⟩ := vs1 hv
                exact Snd.need fun hl => Snd.leaf (P := IsInt (findB c b 0)) (fun A s Q E _ _ _ k => call_find (of_decide_eq_true hl) fun t' c' => k _ c' ⟨t', rfl⟩) fun ρ v p hv => hv
              | cons _ _ => exact Snd.stop
            | cons _ _ => exact Snd.stop
          | nil => exact Snd.stop
        | _ => exact Snd.stop
      | nil => exact Snd.stop
    | _ => exact Snd.stop
  | rfind => 
    cases a with
    | bytes b => 
      cases args with
      | cons z19 z20 => 
        cases z19 with
        | bytes z21 => 
          cases z21 with
          | cons c z22 => 
            cases z22 with
            | nil => 
              cases z20 with
              | nil => 
                obtain ⟨t, rfl⟩ := hu
                obtain ⟨v', rfl, t', rfl⟩ := vs1 hv
                refine Snd.of_at fun A kp ρ objs loc s pp hA I => At.need fun hl => at_rfind ?_
                refine At.pure I fun Q E k => call_rfind (of_decide_eq_true hl) fun t' c' => k _ c' ⟨t', rfl⟩
              | cons _ _ => exact Snd.stop
            | cons _ _ => exact Snd.stop
          | nil => exact Snd.stop
        | _ => exact Snd.stop
      | nil => exact Snd.stop
    | _ => exact Snd.stop
  | join => 
    cases a with
    | bytes z23 => 
      cases z23 with
      | nil => 
        cases args with
        | cons z24 z25 => 
          cases z24 with
          | obj i => 
            cases z25 with
            | nil => 
              obtain ⟨t, rfl⟩ := hu
              obtain ⟨v', rfl, q, hq, rfl⟩ := vs1 hv
              refine Snd.getO fun A kp ρ objs loc s o p' pp hA I ho hρ hr => ?_
              have := pre_get pp hq; rw [hρ] at this; cases this
              cases o with
              | list ys =>
                obtain ⟨us, hL, hus⟩ := isList_rep hr
                dsimp only
                cases hb : bytsOf ys with
                | none => exact At.stop
                | some bs =>
                  refine At.need fun hl => At.pure I fun Q E k => ?_
                  exact call_join hL (byts_of hb hus) (of_decide_eq_true hl) fun t' c => k _ c ⟨t', rfl⟩
              | _ => exact At.stop
            | cons _ _ => exact Snd.stop
          | _ => exact Snd.stop
        | nil => exact Snd.stop
      | cons _ _ => exact Snd.stop
    | _ => exact Snd.stop
  | _ => exact Snd.stop
end
end Mine
end

section
set_option maxRecDepth 100000
set_option linter.unusedVariables false
open PySem PySem.W PySem.Calls PyProof.Rows
namespace Mine
noncomputable def TabM (T : Tabs) : Prop := ∀ C ci x f, lookA C T.clss = some ci → lookS x ci.meths = some f → (lookA f T.fns).isSome = true
section
variable {𝒞 : Ctx → Prop} {S : Sys} {Φ : Frm} {n : Nat} {hd : Bool} {ρ₀ : RMap} {T : Tabs} {ba : Bool}
noncomputable abbrev CalRep (𝒞 : Ctx → Prop) (S : Sys) (T : Tabs) (ba : Bool) (a : MV) (u : Value) (ρ : RMap) (c : Callee) (p : Value × List Value) : Prop := match c with
    | .own f => p = (.ref f, [u]) ∧ (lookA f T.fns).isSome = true
    | .me m => ∃ id, p = (.builtin id, [u]) ∧ ∀ {Φ n hd ρ₁ args vs}, (hd = false ∨ m = .append) → ρ <+: ρ₁ → VsRep ρ₁ args vs → Snd 𝒞 S Φ n hd ρ₁ (methM ba m a args) (call (.builtin id) (u :: vs)) VRep
theorem cal_me (hC : ba = true → ∀ Γ, 𝒞 Γ → Clean Γ) {ρ : RMap} {m : Me} {a : MV} {u : Value} (hok : meOk m a) (hu : VRep ρ a u) : CalRep 𝒞 S T ba a u ρ (.me m) (.builtin (meId m), [u]) :=
  ⟨_, rfl, fun hh p hv => lv_me hC hh hok (hu.mono p) hv⟩
theorem at_me {A : Around} {kp : List (Addr × Obj)} {ρ : RMap} {objs : List MO} {loc : Loc} {s : Shared} {name : Str} {ok : Me → Bool} {u : Value} {a : MV} {pl : Sem Bool} (hC : ba = true → ∀ Γ, 𝒞 Γ → Clean Γ) (I : Stn S ρ kp ((Φ.L, loc) :: Φ.outer) objs s)
    (hu : VRep ρ a u) (h : ∀ m, lookS name meTab = some m → ok m = true → meOk m a ∧ ∀ Q E, Q (Value.builtin (meId m), [u]) s → wpAny (model pw S.w) A (getMethod u name pl) Q E s) :
    At 𝒞 S Φ A kp ρ objs loc s (meM ok name) (getMethod u name pl) (CalRep 𝒞 S T ba a u) := by
  unfold meM
  cases hl : lookS name meTab with
  | none => exact At.stop
  | some m =>
    dsimp only
    cases hk : ok m with
    | false => exact At.stop
    | true =>
      obtain ⟨h1, h2⟩ := h m hl hk
      exact At.pure I fun Q E k => h2 Q E (k _ s.toks (cal_me hC h1 hu))
theorem name_of {name : Str} {m : Me} (h : lookS name meTab = some m) : (m = .append → name = Str.ofString "append") ∧ (m = .extend → name = Str.ofString "extend") ∧ (m = .encode → name = Str.ofString "encode") ∧ (m = .decode → name = Str.ofString "decode") ∧
    (m = .lower → name = Str.ofString "lower") ∧ (m = .split → name = Str.ofString "split") ∧ (m = .endswith → name = Str.ofString "endswith") ∧ (m = .startswith → name = Str.ofString "startswith") ∧ (m = .find → name = Str.ofString "find") ∧
    (m = .rfind → name = Str.ofString "rfind") ∧ (m = .join → name = Str.ofString "join") := by
  have hm := me_mem h
  unfold meTab at hm
  simp only [List.mem_cons, List.mem_nil_iff, or_false, Prod.mk.injEq] at hm
  rcases hm with ⟨rfl, rfl⟩ | ⟨rfl, rfl⟩ | ⟨rfl, rfl⟩ | ⟨rfl, rfl⟩ | ⟨rfl, rfl⟩ | ⟨rfl, rfl⟩ | ⟨rfl, rfl⟩ | ⟨rfl, rfl⟩ | ⟨rfl, rfl⟩ | ⟨rfl, rfl⟩ | ⟨rfl, rfl⟩ | ⟨rfl, rfl⟩ <;>
    (refine ⟨?_, ?_, ?_, ?_, ?_, ?_, ?_, ?_, ?_, ?_, ?_⟩ <;> intro q <;> first | (cases q; done) | exact n_append | exact n_extend | exact n_encode | exact n_decode | exact n_lower | exact n_split | exact n_endswith | exact n_startswith | exact n_find | exact n_rfind | exact n_join)
theorem lv_callee (Y : SysOk S T) (YT : TabM T) (hC : ba = true → ∀ Γ, 𝒞 Γ → Clean Γ) (name : Str) (pl : Sem Bool) {a : MV} {u : Value} (hu : VRep ρ₀ a u) : Snd 𝒞 S Φ n hd ρ₀ (calleeM T a name) (getMethod u name pl) (CalRep 𝒞 S T ba a u) := by
  cases a with
  | obj i =>
    obtain ⟨p, hp, rfl⟩ := hu
    refine Snd.getO fun A kp ρ objs loc s o p' pp hA I ho hρ hr => ?_
    have := pre_get pp hp; rw [hρ] at this; cases this
    have hu' : VRep ρ (.obj i) (.ref p.1) := ⟨p, hρ, rfl⟩
    cases o with
    | inst C fs =>
      dsimp only
      cases hfs : lookS name fs with
      | some _ => exact At.stop
      | none =>
        cases hcl : lookA C T.clss with
        | none => exact At.stop
        | some ci =>
          rw [Option.bind_some]
          cases hm : lookS name ci.meths with
          | none => exact At.stop
          | some f =>
            have OC := Y.cls C ci hcl
            obtain ⟨m1, m2, m3⟩ := OC.meth name f hm
            obtain ⟨d, od, es, ep, m, e3, g, ho2, IA, h1, h2, h3, h4, h5, h6⟩ := inst_at hr
            refine At.pure I fun Q E k => ?_
            refine method_fn (I.K Y) IA OC.get OC.noga m1 m2 ?_ (k _ s.toks ⟨rfl, YT C ci name f hcl hm⟩)
            show (lookIn name od).map (·.isSome) = some false
            rw [h6, h5.2 name hfs]; rfl
    | list xs =>
      obtain ⟨hp2, vs, nn, hg, hvs⟩ := hr
      refine at_me hC I hu' fun m hl hk => ?_
      have hn := name_of hl
      have hT : s.TypeIs (.ref p.1) "list" := ⟨_, hg, rfl⟩
      have hdn : ∀ a, Value.ref p.1 = .ref a → ∃ o, s.heap.get? a = some o ∧ o.dict = none := fun a e => by cases e; exact ⟨_, hg, rfl⟩
      cases m <;> first | (cases hk; done) | skip
      · refine ⟨trivial, fun Q E q => ?_⟩
        obtain rfl := hn.1 rfl
        have q : Q (.builtin "list.append", _) s := q
        with_reducible exact getMethod_builtin hT PySem.F.plainAttrs_list PySem.F.slot_list_append PySem.F.type_list_append hdn q
      · refine ⟨trivial, fun Q E q => ?_⟩
        obtain rfl := hn.2.1 rfl
        have q : Q (.builtin "list.extend", _) s := q
        with_reducible exact getMethod_builtin hT PySem.F.plainAttrs_list PySem.F.slot_list_extend PySem.F.type_list_extend hdn q
    | barr b =>
      obtain ⟨hp2, hg⟩ := hr
      dsimp only
      cases hl : lookS name meTab with
      | none => exact At.stop
      | some m =>
        cases m <;> first | exact At.stop | skip
        have hT : s.TypeIs (.ref p.1) "bytearray" := ⟨_, hg, rfl⟩
        have hdn : ∀ a, Value.ref p.1 = .ref a → ∃ o, s.heap.get? a = some o ∧ o.dict = none := fun a e => by cases e; exact ⟨_, hg, rfl⟩
        obtain rfl := (name_of hl).1 rfl
        refine At.pure I fun Q E k => ?_
        have q : Q (.builtin "bytearray.append", _) { s with toks := s.toks } := k _ s.toks (cal_me hC trivial hu')
        with_reducible exact getMethod_builtin hT FA.plainAttrs FA.slot_append FA.type_append hdn q
    | _ => exact At.stop
  | str x =>
    obtain ⟨t, rfl⟩ := hu
    refine Snd.of_at fun A kp ρ objs loc s pp hA I => ?_
    refine at_me hC I (u := _) (show VRep ρ _ _ from ⟨t, rfl⟩) fun m hl hk => ?_
    have hn := name_of hl
    cases m <;> first | (cases hk; done) | skip
    refine ⟨rfl, fun Q E q => ?_⟩
    obtain rfl := hn.2.2.1 rfl
    have q : Q (.builtin "str.encode", _) s := q
    with_reducible exact getMethod_builtin (typeIs_str s x t) PySem.F.plainAttrs_str PySem.F.slot_str_encode PySem.F.type_str_encode (fun a e => nomatch e) q
  | bytes b =>
    obtain ⟨t, rfl⟩ := hu
    refine Snd.of_at fun A kp ρ objs loc s pp hA I => ?_
    refine at_me hC I (u := _) (show VRep ρ _ _ from ⟨t, rfl⟩) fun m hl hk => ?_
    have hn := name_of hl
    have hdn : ∀ a, Value.bytes b.toArray t = .ref a → ∃ o, s.heap.get? a = some o ∧ o.dict = none := fun a e => nomatch e
    cases m <;> first | (cases hk; done) | skip
    · refine ⟨trivial, fun Q E q => ?_⟩
      obtain rfl := hn.2.2.2.1 rfl
      have q : Q (.builtin "bytes.decode", _) s := q
      with_reducible exact getMethod_builtin (typeIs_bytes s _ t) FB.plainAttrs_bytes FB.slot_bytes_decode FB.type_bytes_decode hdn q
    · refine ⟨trivial, fun Q E q => ?_⟩
      obtain rfl := hn.2.2.2.2.1 rfl
      have q : Q (.builtin "bytes.lower", _) s := q
      with_reducible exact getMethod_builtin (typeIs_bytes s _ t) FB.plainAttrs_bytes FBm.slot_lower FBm.type_lower hdn q
    · refine ⟨trivial, fun Q E q => ?_⟩
      obtain rfl := hn.2.2.2.2.2.1 rfl
      have q : Q (.builtin "bytes.split", _) s := q
      with_reducible exact getMethod_builtin (typeIs_bytes s _ t) FB.plainAttrs_bytes FBm.slot_split FBm.type_split hdn q
    · refine ⟨trivial, fun Q E q => ?_⟩
      obtain rfl := hn.2.2.2.2.2.2.1 rfl
      have q : Q (.builtin "bytes.endswith", _) s := q
      with_reducible exact getMethod_builtin (typeIs_bytes s _ t) FB.plainAttrs_bytes FB.slot_bytes_endswith FB.type_bytes_endswith hdn q
    · refine ⟨trivial, fun Q E q => ?_⟩
      obtain rfl := hn.2.2.2.2.2.2.2.1 rfl
      have q : Q (.builtin "bytes.startswith", _) s := q
      with_reducible exact getMethod_builtin (typeIs_bytes s _ t) FB.plainAttrs_bytes FB.slot_bytes_startswith FB.type_bytes_startswith hdn q
    · refine ⟨trivial, fun Q E q => ?_⟩
      obtain rfl := hn.2.2.2.2.2.2.2.2.1 rfl
      have q : Q (.builtin "bytes.find", _) s := q
      with_reducible exact getMethod_builtin (typeIs_bytes s _ t) FB.plainAttrs_bytes FBm.slot_find FBm.type_find hdn q
    · refine ⟨trivial, fun Q E q => ?_⟩
      obtain rfl := hn.2.2.2.2.2.2.2.2.2.1 rfl
      have q : Q (.builtin "bytes.rfind", _) s := q
      with_reducible exact getMethod_builtin (typeIs_bytes s _ t) FB.plainAttrs_bytes FBm.slot_rfind FBm.type_rfind hdn q
    · refine ⟨trivial, fun Q E q => ?_⟩
      obtain rfl := hn.2.2.2.2.2.2.2.2.2.2 rfl
      have q : Q (.builtin "bytes.join", _) s := q
      with_reducible exact getMethod_builtin (typeIs_bytes s _ t) FB.plainAttrs_bytes FBm.slot_join FBm.type_join hdn q
  | int i =>
    refine Snd.of_at fun A kp ρ objs loc s pp hA I => ?_
    show At 𝒞 S Φ A kp ρ objs loc s (meM intMe name) (getMethod u name pl) (CalRep 𝒞 S T ba (.int i) u)
    exact at_me hC I (hu.mono pp) fun m hl hk => by cases hk
  | _ => exact Snd.stop
end
end Mine
end

section
set_option maxRecDepth 100000
set_option linter.unusedVariables false
open PySem PySem.W PySem.Calls PyProof.Rows
namespace Mine
section
variable {𝒞 : Ctx → Prop} {S : Sys} {T : Tabs} {ba : Bool}
theorem lv_in {Φ : Frm} {n : Nat} {ρ₀ : RMap} {c : UInt8} {b : List UInt8} {t u : Tok} : Snd 𝒞 S Φ n false ρ₀ (Pure.pure (.bool (inU8s c b))) (compareOp .In (.bytes [c].toArray t) (.bytes b.toArray u)) VRep := by
  refine Snd.of_at fun A kp ρ objs loc s pp hA I => At.fin (a := .bool (inU8s c b)) (objs' := objs) (loc' := loc) (fun _ => rfl) fun Q E k => ?_
  exact in_bytes (hA.handled rfl) fun h' tk hk => k ρ _ _ (List.prefix_refl _) (I.grow (t := tk) hk) rfl
theorem leaves (Y : SysOk S T) (YT : SysT S T) (YM : TabM T) (YL : SysL S T) (hC : ba = true → ∀ Γ, 𝒞 Γ → Clean Γ) : Leaves 𝒞 ba S T where
  bin := fun {_ _ _ _} op {_ _ _ _} h1 h2 => lv_bin op h1 h2
  inp := fun {_ _ _ _} op {_ _ _ _} h1 h2 => lv_inp hC op h1 h2
  cmp := fun {_ _ _ _} op {_ _ _ _} H h1 h2 => lv_cmp Y YT (fun {_ _ _} op {_ _ _ _} h1 h2 => lv_cmpM lv_in op h1 h2) H op h1 h2
  truthy := fun h => lv_truthy h
  neg := fun h => lv_neg h
  item := fun H h1 h2 h3 => lv_item Y (fun h1 h2 h3 => lv_itemM h1 h2 h3) H h1 h2 h3
  slice := fun h1 h2 h3 => lv_slice h1 h2 h3
  blt := fun {_ _ _} f {_ _} h => lv_bltT Y YL hC f h
  callee := fun name pl h => lv_callee Y YM hC name pl h
  attr := fun name ex h => lv_attr Y name ex h
  setA := fun name h1 h2 => lv_setA Y name h1 h2
  newL := fun h1 h2 => lv_newL h1 h2
  newT := fun h1 h2 => lv_newT h1 h2
end
end Mine
end

section
set_option maxRecDepth 100000
open PySem PySem.W
namespace Mine
noncomputable def st0 (i : Nat) : Stmt := (PySem.Challenge.pw_lo0005_01.main.body[i]?).getD (.Pass default)
noncomputable def st1 (i j : Nat) : Stmt := match st0 i with
  | .ClassDef _ _ _ b _ _ _ _ _ _ _ => (b[j]?).getD (.Pass default)
  | _ => .Pass default
noncomputable def fnI (s : Stmt) (d : List MV) (c : Addr) : FnInfo := match s with
  | .FunctionDef n a b _ _ _ sc _ _ _ => ⟨n, a.args.map (·.arg), d, b, sc, .ref c⟩
  | _ => default
noncomputable def tFns : List (Nat × FnInfo) := [
  (187, fnI (st0 16) [] 186) /- _validate_labels -/,
  (194, fnI (st0 17) [] 193) /- _maybe_convert_to_binary -/,
  (206, fnI (st1 18 0) [] 205) /- Name.__init__ -/,
  (213, fnI (st1 18 1) [] 212) /- Name.is_absolute -/,
  (227, fnI (st1 18 3) [] 226) /- Name.fullcompare -/,
  (234, fnI (st1 18 4) [] 233) /- Name.is_subdomain -/,
  (255, fnI (st1 18 7) [] 254) /- Name.__eq__ -/,
  (262, fnI (st1 18 8) [] 261) /- Name.__ne__ -/,
  (269, fnI (st1 18 9) [] 268) /- Name.__lt__ -/,
  (276, fnI (st1 18 10) [] 275) /- Name.__le__ -/,
  (290, fnI (st1 18 12) [] 289) /- Name.__gt__ -/,
  (328, fnI (st1 18 17) [] 327) /- Name.__len__ -/,
  (335, fnI (st1 18 18) [] 334) /- Name.__getitem__ -/,
  (400, fnI (st1 18 27) [.bool true] 399) /- Name.predecessor -/,
  (408, fnI (st1 18 28) [.bool true] 407) /- Name.successor -/,
  (454, fnI (st0 21) [.gl 418] 453) /- from_text -/,
  (505, fnI (st0 33) [] 504) /- _absolute_successor -/,
  (512, fnI (st0 34) [] 511) /- _handle_relativity_and_call -/,
  (524, fnI (st0 40) [] 523) /- _v4_ending -/,
  (532, fnI (st0 41) [.bool false] 531) /- inet_aton -/,
  (540, fnI (st0 45) [] 539) /- is_ascii_digit -/,
  (556, fnI (st1 49 0) [] 555) /- _Text.__init__ -/,
  (563, fnI (st1 49 1) [] 562) /- _Text.read -/,
  (597, fnI (st1 58 0) [.str ⟨⟨[]⟩⟩, .bool false, .none] 596) /- Token.__init__ -/,
  (681, fnI (st1 58 12) [] 680) /- Token.unescape -/,
  (688, fnI (st1 58 13) [] 687) /- Token.unescape_to_bytes -/,
  (710, fnI (st1 59 0) [.none] 709) /- Tokenizer.__init__ -/,
  (717, fnI (st1 59 1) [] 716) /- Tokenizer._get_char -/,
  (731, fnI (st1 59 3) [] 730) /- Tokenizer._unget_char -/,
  (738, fnI (st1 59 4) [] 737) /- Tokenizer.skip_whitespace -/,
  (746, fnI (st1 59 5) [.bool false, .bool false] 745) /- Tokenizer.get -/,
  (944, fnI (st0 61) [] 943) /- _law_labels -/,
  (951, fnI (st0 62) [] 950) /- _law_word -/,
  (958, fnI (st0 63) [] 957) /- _law_escapes -/,
  (965, fnI (st0 64) [] 964) /- _law_order -/,
  (972, fnI (st0 65) [] 971) /- _law_back -/,
  (979, fnI (st0 66) [] 978) /- _law_near -/]
noncomputable def tClss : List (Nat × ClsInfo) := [
  (80, ⟨none, [],
    [],
    [(⟨⟨[78, 79, 78, 69]⟩⟩, .int 0), (⟨⟨[83, 85, 80, 69, 82, 68, 79, 77, 65, 73, 78]⟩⟩, .int 1), (⟨⟨[83, 85, 66, 68, 79, 77, 65, 73, 78]⟩⟩, .int 2), (⟨⟨[69, 81, 85, 65, 76]⟩⟩, .int 3), (⟨⟨[67, 79, 77, 77, 79, 78, 65, 78, 67, 69, 83, 84, 79, 82]⟩⟩, .int 4)]⟩) /- NameRelation -/,
  (411, ⟨some 206, [⟨⟨[108, 97, 98, 101, 108, 115]⟩⟩],
    [(⟨⟨[95, 95, 105, 110, 105, 116, 95, 95]⟩⟩, 206), (⟨⟨[105, 115, 95, 97, 98, 115, 111, 108, 117, 116, 101]⟩⟩, 213), (⟨⟨[102, 117, 108, 108, 99, 111, 109, 112, 97, 114, 101]⟩⟩, 227), (⟨⟨[105, 115, 95, 115, 117, 98, 100, 111, 109, 97, 105, 110]⟩⟩, 234), (⟨⟨[95, 95, 101, 113, 95, 95]⟩⟩, 255), (⟨⟨[95, 95, 110, 101, 95, 95]⟩⟩, 262), (⟨⟨[95, 95, 108, 116, 95, 95]⟩⟩, 269), (⟨⟨[95, 95, 108, 101, 95, 95]⟩⟩, 276), (⟨⟨[95, 95, 103, 116, 95, 95]⟩⟩, 290), (⟨⟨[95, 95, 108, 101, 110, 95, 95]⟩⟩, 328), (⟨⟨[95, 95, 103, 101, 116, 105, 116, 101, 109, 95, 95]⟩⟩, 335), (⟨⟨[112, 114, 101, 100, 101, 99, 101, 115, 115, 111, 114]⟩⟩, 400), (⟨⟨[115, 117, 99, 99, 101, 115, 115, 111, 114]⟩⟩, 408)],
    []⟩) /- Name -/,
  (566, ⟨some 556, [⟨⟨[116, 101, 120, 116]⟩⟩, ⟨⟨[97, 116]⟩⟩],
    [(⟨⟨[95, 95, 105, 110, 105, 116, 95, 95]⟩⟩, 556), (⟨⟨[114, 101, 97, 100]⟩⟩, 563)],
    []⟩) /- _Text -/,
  (691, ⟨some 597, [⟨⟨[116, 116, 121, 112, 101]⟩⟩, ⟨⟨[118, 97, 108, 117, 101]⟩⟩, ⟨⟨[104, 97, 115, 95, 101, 115, 99, 97, 112, 101]⟩⟩, ⟨⟨[99, 111, 109, 109, 101, 110, 116]⟩⟩],
    [(⟨⟨[95, 95, 105, 110, 105, 116, 95, 95]⟩⟩, 597), (⟨⟨[117, 110, 101, 115, 99, 97, 112, 101]⟩⟩, 681), (⟨⟨[117, 110, 101, 115, 99, 97, 112, 101, 95, 116, 111, 95, 98, 121, 116, 101, 115]⟩⟩, 688)],
    []⟩) /- Token -/,
  (933, ⟨some 710, [⟨⟨[102, 105, 108, 101]⟩⟩, ⟨⟨[117, 110, 103, 111, 116, 116, 101, 110, 95, 99, 104, 97, 114]⟩⟩, ⟨⟨[117, 110, 103, 111, 116, 116, 101, 110, 95, 116, 111, 107, 101, 110]⟩⟩, ⟨⟨[109, 117, 108, 116, 105, 108, 105, 110, 101]⟩⟩, ⟨⟨[113, 117, 111, 116, 105, 110, 103]⟩⟩, ⟨⟨[101, 111, 102]⟩⟩, ⟨⟨[97, 102, 116, 101, 114, 95, 99, 114]⟩⟩, ⟨⟨[100, 101, 108, 105, 109, 105, 116, 101, 114, 115]⟩⟩, ⟨⟨[108, 105, 110, 101, 95, 110, 117, 109, 98, 101, 114]⟩⟩, ⟨⟨[102, 105, 108, 101, 110, 97, 109, 101]⟩⟩],
    [(⟨⟨[95, 95, 105, 110, 105, 116, 95, 95]⟩⟩, 710), (⟨⟨[95, 103, 101, 116, 95, 99, 104, 97, 114]⟩⟩, 717), (⟨⟨[95, 117, 110, 103, 101, 116, 95, 99, 104, 97, 114]⟩⟩, 731), (⟨⟨[115, 107, 105, 112, 95, 119, 104, 105, 116, 101, 115, 112, 97, 99, 101]⟩⟩, 738), (⟨⟨[103, 101, 116]⟩⟩, 746)],
    []⟩) /- Tokenizer -/]
noncomputable def tExcs : List (Nat × List Addr) := [(31, [31]), (44, [44, 31]), (56, [56, 31]), (68, [68, 56, 31]), (106, [106, 56, 31]), (118, [118, 31]), (130, [130, 44, 31]), (178, [178, 31])]
noncomputable def tGlobs : List (Str × MV) := [
  (⟨⟨[68, 78, 83, 69, 120, 99, 101, 112, 116, 105, 111, 110]⟩⟩, .gl 31) /- DNSException -/,
  (⟨⟨[70, 111, 114, 109, 69, 114, 114, 111, 114]⟩⟩, .gl 44) /- FormError -/,
  (⟨⟨[68, 110, 115, 83, 121, 110, 116, 97, 120, 69, 114, 114, 111, 114]⟩⟩, .gl 56) /- DnsSyntaxError -/,
  (⟨⟨[85, 110, 101, 120, 112, 101, 99, 116, 101, 100, 69, 110, 100]⟩⟩, .gl 68) /- UnexpectedEnd -/,
  (⟨⟨[78, 97, 109, 101, 82, 101, 108, 97, 116, 105, 111, 110]⟩⟩, .gl 80) /- NameRelation -/,
  (⟨⟨[66, 97, 100, 69, 115, 99, 97, 112, 101]⟩⟩, .gl 106) /- BadEscape -/,
  (⟨⟨[78, 101, 101, 100, 65, 98, 115, 111, 108, 117, 116, 101, 78, 97, 109, 101, 79, 114, 79, 114, 105, 103, 105, 110]⟩⟩, .gl 118) /- NeedAbsoluteNameOrOrigin -/,
  (⟨⟨[78, 97, 109, 101, 84, 111, 111, 76, 111, 110, 103]⟩⟩, .gl 130) /- NameTooLong -/,
  (⟨⟨[78, 101, 101, 100, 83, 117, 98, 100, 111, 109, 97, 105, 110, 79, 102, 79, 114, 105, 103, 105, 110]⟩⟩, .gl 178) /- NeedSubdomainOfOrigin -/,
  (⟨⟨[95, 118, 97, 108, 105, 100, 97, 116, 101, 95, 108, 97, 98, 101, 108, 115]⟩⟩, .gl 187) /- _validate_labels -/,
  (⟨⟨[95, 109, 97, 121, 98, 101, 95, 99, 111, 110, 118, 101, 114, 116, 95, 116, 111, 95, 98, 105, 110, 97, 114, 121]⟩⟩, .gl 194) /- _maybe_convert_to_binary -/,
  (⟨⟨[78, 97, 109, 101]⟩⟩, .gl 411) /- Name -/,
  (⟨⟨[114, 111, 111, 116]⟩⟩, .gl 418) /- root -/,
  (⟨⟨[102, 114, 111, 109, 95, 116, 101, 120, 116]⟩⟩, .gl 454) /- from_text -/,
  (⟨⟨[95, 77, 73, 78, 73, 77, 65, 76, 95, 79, 67, 84, 69, 84]⟩⟩, .bytes [0]) /- _MINIMAL_OCTET -/,
  (⟨⟨[95, 77, 73, 78, 73, 77, 65, 76, 95, 79, 67, 84, 69, 84, 95, 86, 65, 76, 85, 69]⟩⟩, .int (0)) /- _MINIMAL_OCTET_VALUE -/,
  (⟨⟨[95, 77, 65, 88, 73, 77, 65, 76, 95, 79, 67, 84, 69, 84]⟩⟩, .bytes [255]) /- _MAXIMAL_OCTET -/,
  (⟨⟨[95, 77, 65, 88, 73, 77, 65, 76, 95, 79, 67, 84, 69, 84, 95, 86, 65, 76, 85, 69]⟩⟩, .int (255)) /- _MAXIMAL_OCTET_VALUE -/,
  (⟨⟨[95, 65, 84, 95, 83, 73, 71, 78, 95, 86, 65, 76, 85, 69]⟩⟩, .int (64)) /- _AT_SIGN_VALUE -/,
  (⟨⟨[95, 76, 69, 70, 84, 95, 83, 81, 85, 65, 82, 69, 95, 66, 82, 65, 67, 75, 69, 84, 95, 86, 65, 76, 85, 69]⟩⟩, .int (91)) /- _LEFT_SQUARE_BRACKET_VALUE -/,
  (⟨⟨[95, 97, 98, 115, 111, 108, 117, 116, 101, 95, 115, 117, 99, 99, 101, 115, 115, 111, 114]⟩⟩, .gl 505) /- _absolute_successor -/,
  (⟨⟨[95, 104, 97, 110, 100, 108, 101, 95, 114, 101, 108, 97, 116, 105, 118, 105, 116, 121, 95, 97, 110, 100, 95, 99, 97, 108, 108]⟩⟩, .gl 512) /- _handle_relativity_and_call -/,
  (⟨⟨[105, 110, 101, 116, 95, 97, 116, 111, 110]⟩⟩, .gl 532) /- inet_aton -/,
  (⟨⟨[95, 72, 69, 88]⟩⟩, .bytes [48, 49, 50, 51, 52, 53, 54, 55, 56, 57, 97, 98, 99, 100, 101, 102]) /- _HEX -/,
  (⟨⟨[95, 118, 52, 95, 101, 110, 100, 105, 110, 103]⟩⟩, .gl 524) /- _v4_ending -/,
  (⟨⟨[105, 110, 101, 116, 95, 97, 116, 111, 110, 95, 105, 112, 118, 54]⟩⟩, .gl 532) /- inet_aton_ipv6 -/,
  (⟨⟨[95, 65, 83, 67, 73, 73, 95, 68, 73, 71, 73, 84, 83]⟩⟩, .gl 533) /- _ASCII_DIGITS -/,
  (⟨⟨[105, 115, 95, 97, 115, 99, 105, 105, 95, 100, 105, 103, 105, 116]⟩⟩, .gl 540) /- is_ascii_digit -/,
  (⟨⟨[95, 68, 69, 76, 73, 77, 73, 84, 69, 82, 83]⟩⟩, .gl 541) /- _DELIMITERS -/,
  (⟨⟨[95, 81, 85, 79, 84, 73, 78, 71, 95, 68, 69, 76, 73, 77, 73, 84, 69, 82, 83]⟩⟩, .gl 542) /- _QUOTING_DELIMITERS -/,
  (⟨⟨[95, 84, 101, 120, 116]⟩⟩, .gl 566) /- _Text -/,
  (⟨⟨[69, 79, 70]⟩⟩, .int (0)) /- EOF -/,
  (⟨⟨[69, 79, 76]⟩⟩, .int (1)) /- EOL -/,
  (⟨⟨[87, 72, 73, 84, 69, 83, 80, 65, 67, 69]⟩⟩, .int (2)) /- WHITESPACE -/,
  (⟨⟨[73, 68, 69, 78, 84, 73, 70, 73, 69, 82]⟩⟩, .int (3)) /- IDENTIFIER -/,
  (⟨⟨[81, 85, 79, 84, 69, 68, 95, 83, 84, 82, 73, 78, 71]⟩⟩, .int (4)) /- QUOTED_STRING -/,
  (⟨⟨[67, 79, 77, 77, 69, 78, 84]⟩⟩, .int (5)) /- COMMENT -/,
  (⟨⟨[68, 69, 76, 73, 77, 73, 84, 69, 82]⟩⟩, .int (6)) /- DELIMITER -/,
  (⟨⟨[84, 111, 107, 101, 110]⟩⟩, .gl 691) /- Token -/,
  (⟨⟨[84, 111, 107, 101, 110, 105, 122, 101, 114]⟩⟩, .gl 933) /- Tokenizer -/,
  (⟨⟨[95, 108, 97, 119, 95, 108, 97, 98, 101, 108, 115]⟩⟩, .gl 944) /- _law_labels -/,
  (⟨⟨[95, 108, 97, 119, 95, 119, 111, 114, 100]⟩⟩, .gl 951) /- _law_word -/,
  (⟨⟨[95, 108, 97, 119, 95, 101, 115, 99, 97, 112, 101, 115]⟩⟩, .gl 958) /- _law_escapes -/,
  (⟨⟨[95, 108, 97, 119, 95, 111, 114, 100, 101, 114]⟩⟩, .gl 965) /- _law_order -/,
  (⟨⟨[95, 108, 97, 119, 95, 98, 97, 99, 107]⟩⟩, .gl 972) /- _law_back -/,
  (⟨⟨[95, 108, 97, 119, 95, 110, 101, 97, 114]⟩⟩, .gl 979) /- _law_near -/,
  (⟨⟨[108, 97, 119]⟩⟩, .gl 984) /- law -/]
noncomputable def tBlt : List (Str × MV) := [
  (⟨⟨[108, 101, 110]⟩⟩, .bi .len) /- len -/,
  (⟨⟨[99, 104, 114]⟩⟩, .bi .chr) /- chr -/,
  (⟨⟨[105, 115, 105, 110, 115, 116, 97, 110, 99, 101]⟩⟩, .bi .isinst) /- isinstance -/,
  (⟨⟨[108, 105, 115, 116]⟩⟩, .bi .tlist) /- list -/,
  (⟨⟨[116, 117, 112, 108, 101]⟩⟩, .bi .ttuple) /- tuple -/,
  (⟨⟨[98, 121, 116, 101, 115]⟩⟩, .bi .tbytes) /- bytes -/,
  (⟨⟨[98, 121, 116, 101, 97, 114, 114, 97, 121]⟩⟩, .bi .tbarr) /- bytearray -/,
  (⟨⟨[115, 116, 114]⟩⟩, .bi .tstr) /- str -/,
  (⟨⟨[105, 110, 116]⟩⟩, .bi .tint) /- int -/,
  (⟨⟨[114, 97, 110, 103, 101]⟩⟩, .bi .trange) /- range -/]
noncomputable def tTups : List (Nat × List Str) := [
  (533, [⟨⟨[48]⟩⟩, ⟨⟨[49]⟩⟩, ⟨⟨[50]⟩⟩, ⟨⟨[51]⟩⟩, ⟨⟨[52]⟩⟩, ⟨⟨[53]⟩⟩, ⟨⟨[54]⟩⟩, ⟨⟨[55]⟩⟩, ⟨⟨[56]⟩⟩, ⟨⟨[57]⟩⟩]),
  (541, [⟨⟨[32]⟩⟩, ⟨⟨[9]⟩⟩, ⟨⟨[10]⟩⟩, ⟨⟨[59]⟩⟩, ⟨⟨[40]⟩⟩, ⟨⟨[41]⟩⟩, ⟨⟨[34]⟩⟩]),
  (542, [⟨⟨[34]⟩⟩])]
noncomputable def tT : Tabs := ⟨tFns, tClss, tExcs, tGlobs, tBlt, tTups, [194], []⟩
end Mine
end

section
set_option maxRecDepth 1000000
set_option maxHeartbeats 0
set_option linter.unusedVariables false
open PySem PySem.W PySem.Calls PyProof.Rows
namespace Mine
noncomputable def penv : Env := { scope := pw.main.scope, locals := mainNs, globals := mainNs, cells := [], code := .ref 13, frame := some 14 }
noncomputable def o11 : Obj := { cls := Value.type "tuple", data := Data.seq #[] }
noncomputable def o12 : Obj := { cls := Value.none, data := Data.fields #[] }
noncomputable def o13 : Obj := { cls := Value.type "code", data := Data.fields #[Value.str (Str.ofString "<module>") 182, Value.str (Str.ofString "<module>") 183,
        Value.str (Str.ofString "/claim/cut.py") 184, Value.int 1 0, Value.int 0 0, Value.int 0 0, Value.int 0 0,
        Value.int 0 0, Value.ref 11, Value.bool false, Value.int 181 0, Value.ref 12, Value.none, Value.none,
        Value.none, Value.none, Value.int 185 0, Value.int 1 0, Value.str (Str.ofString "/claim/cut.py") 186] }
noncomputable def o14 : Obj := { cls := Value.type "frame", slots := #[some (Value.ref 13), some (Value.ref 3), some (Value.ref 3), none, some (Value.str (Str.ofString "__main__") 164), none, some (Value.ref 0)] }
noncomputable def bootL (P : Params) : List Obj := [boot_o_0 P, boot_o_1 P, boot_o_2 P, boot_o_3 P, boot_o_4 P, boot_o_5 P, boot_o_6 P, boot_o_7 P, boot_o_8 P, boot_o_9 P, boot_o_10 P, o11, o12, o13, o14]
noncomputable def insAll : Nat → BT → List Obj → BT
  | _, T, [] => T
  | n, T, o :: r => insAll (n + 1) (T.ins n o) r
noncomputable def T0 (P : Params) : BT := insAll 0 .nil (bootL P)
noncomputable def pos0 : Pos := default
noncomputable def cE : Code := .body (behindTheImports pw) penv
noncomputable def sT0 (P : Params) (os : OsState) : SharedT := ⟨T0 P, 15, {}, #[], boot_drawn, 187, os⟩
noncomputable abbrev pcs (l : List Stmt) (p : Pos) : Thread := piecesOf l penv cE p [topFrame pos0]
noncomputable abbrev annE : Option Value := some (.ref 6)
noncomputable def segF (w : World) (k : Nat) (s : SharedT) (t : Thread) : Option (Flow × SharedT × Code × Pos) := PySem.W.Fast.tw10110043849684766642 PySem.W.Fast.tw14364793385576792824 pw w 11 annE 1 k s t
theorem seg_fast {w : World} {k : Nat} {s : SharedT} {t : Thread} : segRunT treeTable pw w 11 annE 1 k s t = segF w k s t := by
  unfold segF
  rw [PySem.W.Fast.te10110043849684766642, PySem.W.Fast.te14364793385576792824]
noncomputable def s0 (w : World) (os : OsState) : Shared := ⟨boot_heap w.params, Array.mk [], boot_drawn, boot_toks, os⟩
theorem pre_go (w : World) (os : OsState) : topGo treeTable pw w 11 annE 12 (s0 w os) (topStub pw) = some ((sT0 w.params os).abs, ⟨denote treeTable cE, cE, pos0, [topFrame pos0]⟩) := by kernel_rfl
theorem block_go (w : World) (os : OsState) : segRun treeTable pw w 11 annE 1 1 (sT0 w.params os).abs (blockOf (behindTheImports pw) penv cE pos0 [topFrame pos0]) = some (.next, (sT0 w.params os).abs, cE, pos0) := by kernel_rfl
theorem fin_go (w : World) (s : Shared) (p : Pos) : topRun treeTable pw w 11 annE 3 s ⟨doneF .next, cE, p, [topFrame pos0]⟩ = some s := by
  obtain ⟨h, g, d, k, os⟩ := s
  kernel_rfl
theorem boot_o (w : World) : (fencedOpening treeTable pw w 20000).map (fun s => (s.heap, s.gens, s.drawn, s.toks)) = some (boot_heap w.params, Array.mk [], boot_drawn, boot_toks) :=
  boot_open (by kernel_rfl) (by kernel_rfl) (fun s => by kernel_rfl) w
end Mine
end

section
set_option maxRecDepth 100000
set_option linter.unusedVariables false
open PySem PySem.W PySem.Calls PyProof.Rows
namespace Mine
structure PosP (p : Arguments) (ps : List Str) : Prop where
  po : p.posonlyargs = []
  ko : p.kwonlyargs = []
  va : p.vararg = none
  kw : p.kwarg = none
  ar : p.args.map (·.arg) = ps
theorem zip_isNone {n : Str} : ∀ {ps : List Str} {vs : List Value}, n ∈ ps.take vs.length → (List.lookup n (ps.zip vs)).isNone = false
  | [], _, h => by simp at h
  | p :: ps, [], h => by simp at h
  | p :: ps, v :: vs, h => by
    rw [List.zip_cons_cons, List.lookup_cons]
    by_cases e : n = p
    · subst e; simp
    · rw [beq_eq_false_iff_ne.mpr e]
      refine zip_isNone ?_
      rw [List.length_cons, List.take_succ_cons] at h
      rcases List.mem_cons.mp h with h | h
      · exact absurd h e
      · exact h
theorem lookup_notin {n : Str} : ∀ {l : List (Str × Value)}, n ∉ l.map (·.1) → List.lookup n l = none
  | [], _ => rfl
  | (k, v) :: r, h => by
    rw [List.lookup_cons]
    have h1 : n ≠ k := fun e => h (by simp [e])
    rw [beq_eq_false_iff_ne.mpr h1]
    exact lookup_notin fun q => h (by simp at q ⊢; exact .inr q)
theorem fill_loop (f : Str × Value → List (Str × Value) → Sem (ForInStep (List (Str × Value)))) (hf : ∀ x sl, f x sl = if (List.lookup x.1 sl).isNone = true then pure (.yield (sl ++ [(x.1, x.2)])) else pure (.yield sl)) :
    ∀ (l : List (Str × Value)) (sl : List (Str × Value)), forIn l sl f = (pure (l.foldl (fun sl x => if (List.lookup x.1 sl).isNone then sl ++ [x] else sl) sl) : Sem _)
  | [], sl => rfl
  | x :: l, sl => by
    rw [List.forIn_cons, hf, List.foldl_cons]
    split
    · exact fill_loop f hf l _
    · exact fill_loop f hf l _
theorem fill_old : ∀ (l sl : List (Str × Value)), (∀ x ∈ l, (List.lookup x.1 sl).isNone = false) → l.foldl (fun sl x => if (List.lookup x.1 sl).isNone then sl ++ [x] else sl) sl = sl
  | [], _, _ => rfl
  | x :: l, sl, h => by
    rw [List.foldl_cons, h x (.head _), if_neg (by simp)]
    exact fill_old l sl fun y hy => h y (.tail _ hy)
theorem fill_new : ∀ (l sl : List (Str × Value)), (sl.map (·.1) ++ l.map (·.1)).Nodup → l.foldl (fun sl x => if (List.lookup x.1 sl).isNone then sl ++ [x] else sl) sl = sl ++ l
  | [], sl, _ => by simp
  | x :: l, sl, h => by
    rw [List.foldl_cons, lookup_notin (n := x.1) (l := sl) ?_, if_pos (by rfl), fill_new l (sl ++ [x]) ?_, List.append_assoc]
    · rfl
    · simp only [List.map_append, List.map_cons, List.map_nil, List.append_assoc, List.cons_append, List.nil_append] at h ⊢
      exact h
    · intro hm
      rw [List.nodup_append] at h
      exact h.2.2 _ hm _ (by simp) rfl
theorem pick_all : ∀ {ps : List Str} {l : List (Str × Value)}, l.map (·.1) = ps → ps.Nodup → ps.filterMap (fun n => (List.lookup n l).map (Prod.mk n)) = l := by
  intro ps l e hn
  have key : ∀ (pre l : List (Str × Value)), (pre.map (·.1) ++ l.map (·.1)).Nodup → (l.map (·.1)).filterMap (fun n => (List.lookup n (pre ++ l)).map (Prod.mk n)) = l := by
    intro pre l
    induction l generalizing pre with
    | nil => intro _; rfl
    | cons x l ih =>
      intro h
      have hx : x.1 ∉ pre.map (·.1) := by
        intro hm
        rw [List.nodup_append] at h
        exact h.2.2 _ hm _ (by simp) rfl
      have e1 : List.lookup x.1 (pre ++ x :: l) = some x.2 := by
        rw [List.lookup_append, lookup_notin hx, Option.none_or, List.lookup_cons]
        simp
      rw [List.map_cons, List.filterMap_cons, e1]
      have := ih (pre ++ [x]) (by simpa using h)
      simp only [List.append_assoc, List.cons_append, List.nil_append] at this
      simp only [Option.map_some]
      rw [this]
  subst e
  exact key [] l (by simpa using hn)
theorem fill_eq {ps : List Str} {dv vs : List Value} (hn : ps.Nodup) (hdl : dv.length ≤ ps.length) (h1 : ps.length - dv.length ≤ vs.length) (h2 : vs.length ≤ ps.length) :
    List.foldl (fun sl x => if (List.lookup x.1 sl).isNone then sl ++ [x] else sl) (ps.zip vs) ((List.drop (ps.length - dv.length) ps).zip dv) = ps.zip (vs ++ dv.drop (vs.length - (ps.length - dv.length))) := by
  generalize hf : ps.length - dv.length = f at *
  have hk : (ps.zip vs).map (·.1) = ps.take vs.length := zip_fst_sub
  have hs1 : (List.drop f ps).zip dv = ((ps.drop f).take (vs.length - f)).zip (dv.take (vs.length - f)) ++ (ps.drop vs.length).zip (dv.drop (vs.length - f)) := by
    rw [← List.zip_append (by simp only [List.length_take, List.length_drop]; omega), List.take_append_drop]
    congr 1
    conv => lhs; rw [← List.take_append_drop (vs.length - f) (List.drop f ps)]
    rw [List.drop_drop, show f + (vs.length - f) = vs.length by omega]
  rw [hs1, List.foldl_append, fill_old (((ps.drop f).take (vs.length - f)).zip (dv.take (vs.length - f))) (ps.zip vs) ?_, fill_new]
  · have : ps.zip vs = (ps.take vs.length).zip vs := by
      conv => lhs; rw [← List.take_append_drop vs.length ps, ← List.append_nil vs]
      rw [List.zip_append (by rw [List.length_take, List.append_nil]; omega)]
      simp
    rw [this, ← List.zip_append (by rw [List.length_take]; omega), List.take_append_drop]
  · rw [hk, show ((ps.drop vs.length).zip (dv.drop (vs.length - f))).map (·.1) = ps.drop vs.length from by rw [List.map_fst_zip]; simp only [List.length_drop]; omega, List.take_append_drop]
    exact hn
  · intro x hx
    refine zip_isNone ?_
    have := (List.of_mem_zip (a := x.1) (b := x.2) hx).1
    rw [List.take_drop, show f + (vs.length - f) = vs.length by omega] at this
    exact List.mem_of_mem_drop this
theorem bind_any {fd : FuncData} {ps : List Str} {dv : List Value} (h : PosP fd.params ps) (hn : ps.Nodup) (hdl : dv.length ≤ ps.length) {vs : List Value} (h1 : ps.length - dv.length ≤ vs.length) (h2 : vs.length ≤ ps.length)
    {M : Model} {A : Around} {E : Value → Shared → Prop} {s : Shared} {Q : List (Str × Value) → Shared → Prop} (hs : ∀ (Q : Option (Array Value) → Shared → Prop), (∀ o, (o.getD #[]).toList = dv → Q o s) → wpAny M A (seqItems? fd.defaults) Q E s)
    (hQ : Q (ps.zip (vs ++ dv.drop (vs.length - (ps.length - dv.length)))) s) : wpAny M A (bindArgs fd ⟨vs, []⟩) Q E s := by
  obtain ⟨k1, k2, k3, k4, k5⟩ := h
  obtain ⟨_, _, ⟨po, ar, va, ko, kd, kw, df⟩, _, _, _, _, dfl⟩ := fd
  subst k1 k2 k3 k4
  have em : (List.filter (fun n => (List.lookup n (ps.zip vs)).isNone) (ps.take (ps.length - dv.length))) = [] := by
    rw [List.filter_eq_nil_iff]
    intro n hm
    rw [zip_isNone (n := n) (ps := ps) (vs := vs) ((List.take_subset_take_left (l := ps) h1) hm)]
    exact Bool.false_ne_true
  unfold bindArgs
  refine wpAny_bind (wpAny_pure ?_)
  dsimp only [List.map, List.nil_append]
  have k5' : ar.map (·.arg) = ps := k5
  rw [k5']
  refine wpAny_bind (hs _ fun o ho => ?_)
  rw [ho, if_neg (by rw [Bool.and_eq_true, decide_eq_true_eq]; omega)]
  rw [show dv.drop (dv.length - ps.length) = dv by rw [show dv.length - ps.length = 0 by omega]; rfl]
  rw [em, if_neg (by exact Bool.false_ne_true)]
  refine wpAny_bind ?_
  rw [fill_loop _ (fun _ _ => rfl), fill_eq hn hdl h1 h2]
  refine wpAny_pure (wpAny_bind (wpAny_pure ?_))
  refine wpAny_pure ?_
  rw [List.append_nil, pick_all ?_ hn]
  · exact hQ
  · rw [List.map_fst_zip]
    rw [List.length_append, List.length_drop]; omega
end Mine
end

section
set_option maxRecDepth 100000
set_option linter.unusedVariables false
open PySem PySem.W PySem.Calls PyProof.Rows
namespace Mine
noncomputable abbrev Get := Addr → Option Obj
noncomputable def vB : MV → Value → Bool
  | .none, .none => true
  | .bool b, .bool c => b == c
  | .int i, .int j _ => decide (i = j)
  | .str x, .str y _ => strEq x y
  | .bytes b, .bytes c _ => u8sEq b c.toList
  | .gl a, .ref b => Nat.beq a b
  | .bi b, v => v == biVal b
  | _, _ => false
theorem ff {P : Prop} (h : false = true) : P := nomatch h
theorem vB_of {a : MV} {v : Value} (h : vB a v = true) : VRep [] a v := by
  cases a with
  | none => cases v with
    | none => rfl
    | _ => exact ff h
  | bool b => cases v with
    | bool c => exact congrArg Value.bool (eq_of_beq (show (b == c) = true from h)).symm
    | _ => exact ff h
  | int i => cases v with
    | int j t => exact ⟨t, congrArg (Value.int · t) (of_decide_eq_true (show decide (i = j) = true from h)).symm⟩
    | _ => exact ff h
  | str x => cases v with
    | str y t => exact ⟨t, congrArg (Value.str · t) (strEq_iff.mp h).symm⟩
    | _ => exact ff h
  | bytes b => cases v with
    | bytes c t =>
      obtain ⟨c⟩ := c
      exact ⟨t, congrArg (fun z : List UInt8 => Value.bytes ⟨z⟩ t) (u8sEq_iff.mp h).symm⟩
    | _ => exact ff h
  | gl a => cases v with
    | ref b => exact congrArg Value.ref (Nat.eq_of_beq_eq_true h).symm
    | _ => exact ff h
  | bi b => exact eq_of_beq (show (v == biVal b) = true by cases v <;> exact h)
  | obj i => cases v <;> exact ff h
noncomputable def vsB : List MV → List Value → Bool
  | [], [] => true
  | a :: as, v :: vs => vB a v && vsB as vs
  | _, _ => false
theorem vsB_of : ∀ {as : List MV} {vs : List Value}, vsB as vs = true → VsRep [] as vs
  | [], [], _ => .nil
  | [], _ :: _, h => ff h
  | _ :: _, [], h => ff h
  | a :: as, v :: vs, h =>
    have h := Bool.and_eq_true_iff.mp (show (vB a v && vsB as vs) = true from h)
    .cons (vB_of h.1) (vsB_of h.2)
noncomputable def strsB : List Str → List Str → Bool
  | [], [] => true
  | a :: as, v :: vs => strEq a v && strsB as vs
  | _, _ => false
theorem strsB_of : ∀ {as vs : List Str}, strsB as vs = true → as = vs
  | [], [], _ => rfl
  | [], _ :: _, h => ff h
  | _ :: _, [], h => ff h
  | a :: as, v :: vs, h => by
    have h := Bool.and_eq_true_iff.mp (show (strEq a v && strsB as vs) = true from h)
    rw [strEq_iff.mp h.1, strsB_of h.2]
noncomputable def strVals : List Value → List Str → Bool
  | [], [] => true
  | .str x _ :: vs, y :: ys => strEq x y && strVals vs ys
  | _, _ => false
theorem strVals_of : ∀ {vs : List Value} {ys : List Str}, strVals vs ys = true → StrsAre vs ys
  | [], [], _ => .nil
  | [], _ :: _, h => ff h
  | v :: vs, [], h => by cases v <;> exact ff h
  | v :: vs, y :: ys, h => by
    cases v with
    | str x t =>
      have h := Bool.and_eq_true_iff.mp (show (strEq x y && strVals vs ys) = true from h)
      have := strEq_iff.mp h.1; subst this
      exact .cons _ _ (strVals_of h.2)
    | _ => exact ff h

noncomputable def posB (p : Arguments) (ps : List Str) : Bool := p.posonlyargs.isEmpty && p.kwonlyargs.isEmpty && p.vararg.isNone && p.kwarg.isNone && strsB (p.args.map (·.arg)) ps
theorem posB_of {p : Arguments} {ps : List Str} (h : posB p ps = true) : PosP p ps := by
  simp only [posB, Bool.and_eq_true, List.isEmpty_iff, Option.isNone_iff_eq_none] at h
  obtain ⟨⟨⟨⟨h1, h2⟩, h3⟩, h4⟩, h5⟩ := h
  exact ⟨h1, h2, h3, h4, strsB_of h5⟩
noncomputable def codeB (g : Get) (cd : Value) (q : Str) : Bool := match cd with
  | .ref c => (match g c with
    | some ⟨_, _, .fields vs, _⟩ => (match (vs[1]? : Option Value) with
      | some (.str x _) => strEq x q
      | _ => false)
    | _ => false)
  | _ => false
noncomputable def dflB (g : Get) (d : Value) (l : List MV) : Bool := match d with
  | .none => l.isEmpty
  | .ref t => (match g t with
    | some ⟨_, _, .seq vs _, _⟩ => vsB l vs.toList
    | _ => false)
  | _ => false
noncomputable def fnB (g : Get) (a : Addr) (fi : FnInfo) : Bool := match g a with
  | some ⟨_, _, .func fd, _⟩ => Nat.beq fd.globals mainGlobals && fd.closure.isEmpty && Nat.beq fd.builtins builtinsNs && posB fd.params fi.params && dflB g fd.defaults fi.dflts && codeB g fd.code fd.qualname
  | _ => false
noncomputable def fnV (g : Get) (a : Addr) : Option (FuncBody × Scope) := match g a with
  | some ⟨_, _, .func fd, _⟩ => some (fd.body, fd.scope)
  | _ => none
noncomputable def fiB (fi : FnInfo) : Bool := !fi.scope.isCoroutine && !fi.scope.isGenerator && (fi.scope.kind == .function) && fi.scope.names.all (fun x => x.2 != .cell) && fi.params.all (fun x => fi.scope.names.lookup x == some .local) && decide fi.params.Nodup && Nat.ble fi.dflts.length fi.params.length
section
variable {S : Sys} {g : Get}
theorem code_of (hg : ∀ a o, g a = some o → S.B.get? a = some o) {cd : Value} {q : Str} (h : codeB g cd q = true) : S.B.CodeRec cd q := by
  cases cd with
  | ref c =>
    unfold codeB at h
    dsimp only at h
    cases hgc : g c with
    | none => rw [hgc] at h; exact ff h
    | some o =>
      obtain ⟨c', d', dt', sl'⟩ := o
      rw [hgc] at h
      cases dt' with
      | fields vs =>
        dsimp only at h
        cases hv : vs[1]? with
        | none => rw [hv] at h; exact ff h
        | some v =>
          rw [hv] at h
          cases v with
          | str x t => have := strEq_iff.mp h; subst this; exact ⟨c, _, vs, t, rfl, hg _ _ hgc, rfl, hv⟩
          | _ => exact ff h
      | _ => exact ff h
  | _ => exact ff h
theorem dfl_of (hg : ∀ a o, g a = some o → S.B.get? a = some o) {d : Value} {l : List MV} (h : dflB g d l = true) :
    ∃ dv, VsRep [] l dv ∧ ∀ (M : Model) (A : Around) (E : Value → Shared → Prop) (s : Shared) (Q : Option (Array Value) → Shared → Prop), (∀ b o, S.B.get? b = some o → s.heap.get? b = some o) → (∀ o, (o.getD #[]).toList = dv → Q o s) → wpAny M A (seqItems? d) Q E s := by
  cases d with
  | none =>
    obtain rfl := List.isEmpty_iff.mp (show l.isEmpty = true from h)
    exact ⟨[], .nil, fun M A E s Q hk q => (wpAny_pure (q none rfl) : wpAny M A (pure none) Q E s)⟩
  | ref t =>
    unfold dflB at h
    dsimp only at h
    cases hgt : g t with
    | none => rw [hgt] at h; exact ff h
    | some o =>
      obtain ⟨c', d', dt', sl'⟩ := o
      rw [hgt] at h
      cases dt' with
      | seq vs n => exact ⟨vs.toList, vsB_of h, fun M A E s Q hk q => wpAny_seqItems (hk _ _ (hg _ _ hgt)) rfl (q _ rfl)⟩
      | _ => exact ff h
  | _ => exact ff h
theorem fi_of {fi : FnInfo} (h : fiB fi = true) : fi.scope.isCoroutine = false ∧ fi.scope.isGenerator = false ∧ fi.scope.kind = .function ∧ (∀ x ∈ fi.scope.names, x.2 ≠ .cell) ∧ (∀ x ∈ fi.params, fi.scope.names.lookup x = some .local) ∧ fi.params.Nodup ∧ fi.dflts.length ≤ fi.params.length := by
  simp only [fiB, Bool.and_eq_true, Bool.not_eq_true', beq_iff_eq, List.all_eq_true, decide_eq_true_eq, bne_iff_ne, Nat.ble_eq] at h
  obtain ⟨⟨⟨⟨⟨⟨s1, s2⟩, s3⟩, s4⟩, s5⟩, s6⟩, s7⟩ := h
  exact ⟨s1, s2, s3, s4, s5, s6, s7⟩
theorem fn_of {a : Addr} {fi : FnInfo} (hg : ∀ a o, g a = some o → S.B.get? a = some o) (h1 : fnB g a fi = true) (h2 : fnV g a = some (FuncBody.stmts fi.body, fi.scope)) (h3 : fiB fi = true) : FnOk S a fi := by
  obtain ⟨s1, s2, s3, s4, s5, s6, s7⟩ := fi_of h3
  refine ⟨?_, s1, s2, s3, fun x hx => s4 x hx, fun x hx => s5 x hx, s6⟩
  unfold fnB at h1
  unfold fnV at h2
  cases hga : g a with
  | none => rw [hga] at h1; exact ff h1
  | some o =>
    obtain ⟨c, d, dt, sl⟩ := o
    rw [hga] at h1 h2
    cases dt with
    | func fd =>
      have hb : fd.body = FuncBody.stmts fi.body ∧ fd.scope = fi.scope := Prod.mk.inj (Option.some.inj h2)
      obtain ⟨h1, g6⟩ := Bool.and_eq_true_iff.mp h1
      obtain ⟨h1, g5⟩ := Bool.and_eq_true_iff.mp h1
      obtain ⟨h1, g4⟩ := Bool.and_eq_true_iff.mp h1
      obtain ⟨h1, g3⟩ := Bool.and_eq_true_iff.mp h1
      obtain ⟨g1, g2⟩ := Bool.and_eq_true_iff.mp h1
      obtain ⟨dv, hdv, hds⟩ := dfl_of hg g5
      have hl := hdv.length
      refine ⟨_, fd, dv, hg _ _ hga, rfl, hb.1, hb.2, Nat.eq_of_beq_eq_true g1, List.isEmpty_iff.mp g2, Nat.eq_of_beq_eq_true g3, code_of hg g6, hdv, fun vs l1 l2 M A E s Q hk hQ => ?_⟩
      refine bind_any (posB_of g4) s6 (by omega) (by omega) l2 (fun Q' q => hds M A E s Q' hk q) ?_
      rw [hl]; exact hQ
    | _ => exact ff h1
end
end Mine
end

section
set_option maxRecDepth 100000
set_option linter.unusedVariables false
open PySem PySem.W PySem.Calls PyProof.Rows
namespace Mine
noncomputable def isO (o : Option (Option Value)) (v : Option Value) : Bool := o == some v
theorem isO_of {o : Option (Option Value)} {v : Option Value} (h : isO o v = true) : o = some v := eq_of_beq h
noncomputable def clsB (K : Frag) (C : Addr) (ci : ClsInfo) : Bool :=
  isO (findIn K (.ref C) "__getattribute__") (some (.builtin "object.__getattribute__")) && isO (findIn K (.ref C) "__getattr__") none && isO (findIn K (.ref C) "__setattr__") (some (.builtin "object.__setattr__")) &&
  plainOver K C && (clsIn K C).any (·.hasDict) && noSeq K C && ci.fields.all (fun x => isO (findIn K (.ref C) x) none && !copiedNames.contains x) &&
  ci.meths.all (fun p => isO (findIn K (.ref C) p.1) (some (.ref p.2)) && (typeIn K (.ref p.2) == some (.type "function")) && fnIn K p.2) &&
  ci.attrs.all (fun p => readsIn K C (.type "type") && match findCls K (.ref C) (.type "type") p.1 with
    | some (.val v) => handedIn v && vB p.2 v
    | _ => false)
theorem inStrs_mem {x : Str} : ∀ {l : List Str}, inStrs x l = true → x ∈ l
  | [], h => by cases h
  | y :: l, h => by
    unfold inStrs at h
    cases q : strEq x y with
    | true => rw [strEq_iff.mp q]; exact .head _
    | false => rw [q] at h; exact .tail _ (inStrs_mem h)
theorem lookA_mem {α : Type} {x : Nat} {a : α} : ∀ {l : List (Nat × α)}, lookA x l = some a → (x, a) ∈ l
  | [], h => by cases h
  | (y, b) :: l, h => by
    unfold lookA at h
    cases q : Nat.beq x y with
    | true => rw [q] at h; cases h; rw [Nat.eq_of_beq_eq_true q]; exact .head _
    | false => rw [q] at h; exact .tail _ (lookA_mem h)
theorem cls_of {K : Frag} {C : Addr} {ci : ClsInfo} (h : clsB K C ci = true) : ClsOk K C ci := by
  simp only [clsB, Bool.and_eq_true, List.all_eq_true, Bool.not_eq_true', beq_iff_eq] at h
  obtain ⟨⟨⟨⟨⟨⟨⟨⟨h1, h2⟩, h3⟩, h4⟩, h5⟩, h6⟩, h7⟩, h8⟩, h9⟩ := h
  refine ⟨isO_of h1, isO_of h2, isO_of h3, h4, h5, h6, fun x hx => ?_, fun x f hf => ?_, fun x a ha => ?_⟩
  · obtain ⟨a, b⟩ := h7 x (inStrs_mem hx)
    exact ⟨isO_of a, b⟩
  · obtain ⟨⟨a, b⟩, c⟩ := h8 (x, f) (lookS_mem hf)
    exact ⟨isO_of a, b, c⟩
  · obtain ⟨r, q⟩ := h9 (x, a) (lookS_mem ha)
    dsimp only at q
    cases hc : findCls K (.ref C) (.type "type") x with
    | none => rw [hc] at q; cases q
    | some f =>
      rw [hc] at q
      cases f with
      | val v =>
        simp only [Bool.and_eq_true] at q
        exact ⟨v, r, rfl, q.1, vB_of q.2⟩
      | _ => cases q
noncomputable def excB (K : Frag) (T : Tabs) (C : Addr) (mro : List Addr) : Bool :=
  (typeIn K (.ref C) == some (.type "type")) && (subIn K (.ref C) (.type "BaseException") == some true) && (instIn K (.ref C) (.type "tuple") == some false) && excIn K C excBm "Exception.__new__" &&
  (subIn K (.ref C) (.ref C) == some true) && T.excs.all fun p => subIn K (.ref C) (.ref p.1) == some (mro.any (Nat.beq p.1))
theorem exc_of {K : Frag} {T : Tabs} {C : Addr} {mro : List Addr} (h : excB K T C mro = true) : ExcOk K C T mro := by
  simp only [excB, Bool.and_eq_true, List.all_eq_true, beq_iff_eq] at h
  obtain ⟨⟨⟨⟨⟨h1, h2⟩, h3⟩, h4⟩, h5⟩, h6⟩ := h
  exact ⟨h1, h2, h3, h4, h5, fun D m hm => h6 (D, m) (lookA_mem hm)⟩
noncomputable def tupB (g : Get) (t : Addr) (ss : List Str) : Bool := match g t with
  | some ⟨c, _, .seq vs _, _⟩ => c == .type "tuple" && strVals vs.toList ss
  | _ => false
noncomputable def tabMB (T : Tabs) : Bool := T.clss.all fun p => p.2.meths.all fun q => (lookA q.2 T.fns).isSome
theorem tabM_of {T : Tabs} (h : tabMB T = true) : TabM T := fun C ci x f h1 h2 => by
  unfold tabMB at h
  rw [List.all_eq_true] at h
  have := h _ (lookA_mem h1)
  rw [List.all_eq_true] at this
  exact this _ (lookS_mem h2)
noncomputable def nsG (g : Get) (a : Addr) (x : Str) : Option Value := match g a with
  | some ⟨_, _, .dict es _, _⟩ => nsFind es x
  | _ => none
noncomputable def isNsG (g : Get) (a : Addr) : Bool := match g a with
  | some ⟨_, _, .dict es _, _⟩ => es.toList.all (fun e => match e.key with | .str _ _ => true | _ => false)
  | _ => false
theorem ns_of {h : Heap} {g : Get} (hg : ∀ a o, g a = some o → h.get? a = some o) {a : Addr} (q : isNsG g a = true) : h.Ns a (nsG g a) := by
  unfold isNsG at q
  cases ho : g a with
  | none => rw [ho] at q; cases q
  | some o =>
    obtain ⟨c, d, dt, sl⟩ := o
    rw [ho] at q
    cases dt with
    | dict es n =>
      dsimp only at q
      refine ⟨_, es, n, hg _ _ ho, rfl, fun e he => ?_, fun x => ?_⟩
      · have hx := List.all_eq_true.mp q e (Array.mem_toList_iff.mpr he)
        cases hk : e.key <;> rw [hk] at hx <;> first | exact ⟨_, _, rfl⟩ | cases hx
      · unfold nsG; rw [ho]
    | _ => cases q
noncomputable def globB (g : Get) (T : Tabs) : Bool := isNsG g mainGlobals && isNsG g builtinsNs &&
  T.globs.all (fun p => (nsG g mainGlobals p.1).any (vB p.2)) && T.bltins.all (fun p => (nsG g mainGlobals p.1).isNone && (nsG g builtinsNs p.1).any (vB p.2))
noncomputable def limB (g : Get) : Bool := isNsG g cStatics && (nsG g cStatics "sys.recursionlimit").isNone
noncomputable def mkB (K : Frag) (C : Addr) (ci : ClsInfo) : Bool := match ci.init with
  | none => true
  | some i => makesIn K C && isO (findIn K (.ref C) "__init__") (some (.ref i)) && typeIn K (.ref i) == some (.type "function")
noncomputable def kOf (g : Get) : List Addr → Frag
  | [] => []
  | a :: l => match g a with
    | some o => (a, o) :: kOf g l
    | none => kOf g l
theorem kOf_in {g : Get} {h : Heap} (hg : ∀ a o, g a = some o → h.get? a = some o) : ∀ l, (kOf g l).In h
  | [], _, _, e => by cases e
  | a :: l, b, o, e => by
    unfold kOf at e
    cases ha : g a with
    | none => rw [ha] at e; exact kOf_in hg l b o e
    | some o' =>
      rw [ha] at e
      dsimp only at e
      rw [List.lookup_cons] at e
      cases q : b == a with
      | true => rw [q] at e; cases e; rw [beq_iff_eq.mp q]; exact hg _ _ ha
      | false => rw [q] at e; exact kOf_in hg l b o e
noncomputable def sysB (g : Get) (K : Frag) (T : Tabs) : Bool := limB g && globB g T && T.fns.all (fun p => keepIn K (.ref p.1) && fnIn K p.1 && fnB g p.1 p.2) && T.clss.all (fun p => keepIn K (.ref p.1) && clsB K p.1 p.2 && mkB K p.1 p.2) &&
  T.excs.all (fun p => excB K T p.1 p.2) && T.tups.all (fun p => tupB g p.1 p.2) && T.ids.all (fun a => keepIn K (.ref a))
noncomputable def sysV (g : Get) (T : Tabs) : List (Option (FuncBody × Scope)) := T.fns.map fun p => fnV g p.1
noncomputable def sysG (T : Tabs) : List (Option (FuncBody × Scope)) := T.fns.map fun p => some (FuncBody.stmts p.2.body, p.2.scope)
structure SysAll (S : Sys) (T : Tabs) : Prop where
  ok : SysOk S T
  e : SysE S T
  f : SysF S T
  m : SysM S T
  t : SysT S T
  ids : ∀ a, T.ids.any (Nat.beq a) = true → keepIn S.K (.ref a) = true
theorem map_eq_at {α β : Type} {f g : α → β} : ∀ {l : List α}, l.map f = l.map g → ∀ x ∈ l, f x = g x
  | [], _, _, h => by cases h
  | a :: l, e, x, h => by
    simp only [List.map_cons, List.cons.injEq] at e
    rcases List.mem_cons.mp h with rfl | h
    · exact e.1
    · exact map_eq_at e.2 x h
theorem sys_of {S : Sys} {T : Tabs} {g : Get} (hg : ∀ a o, g a = some o → S.B.get? a = some o) {KA : List Addr} (hK : S.K = kOf g KA) (h : sysB g (kOf g KA) T = true) (hv : sysV g T = sysG T) (hT : T.fns.all (fun p => fiB p.2) = true) : SysAll S T := by
  rw [← hK] at h
  simp only [sysB, Bool.and_eq_true, List.all_eq_true] at h hT
  obtain ⟨⟨⟨⟨⟨⟨h1, h2⟩, h3⟩, h4⟩, h5⟩, h6⟩, h7⟩ := h
  simp only [limB, Bool.and_eq_true, Option.isNone_iff_eq_none] at h1
  simp only [globB, Bool.and_eq_true, List.all_eq_true] at h2
  obtain ⟨⟨⟨g1, g2⟩, g3⟩, g4⟩ := h2
  have hfv := map_eq_at hv
  refine ⟨⟨?_, ⟨_, ns_of hg h1.1, h1.2⟩, fun C ci hc => cls_of (h4 _ (lookA_mem hc)).1.2, fun a ha => ?_, fun a ha => ?_, ⟨_, _, ns_of hg g1, ns_of hg g2, fun x a ha => ?_, fun x a _ ha => ?_⟩⟩, fun C m hm => exc_of (h5 _ (lookA_mem hm)), fun a fi hf => ?_, fun C ci i hc hi => ?_, fun t ss ht => ?_, fun a ha => ?_⟩
  · rw [hK]; exact kOf_in hg KA
  · rcases ha with ha | ha
    · obtain ⟨fi, hf⟩ := Option.isSome_iff_exists.mp ha
      exact (h3 _ (lookA_mem hf)).1.1
    · obtain ⟨fi, hf⟩ := Option.isSome_iff_exists.mp ha
      exact (h4 _ (lookA_mem hf)).1.1
  · obtain ⟨fi, hf⟩ := Option.isSome_iff_exists.mp ha
    exact (h3 _ (lookA_mem hf)).1.2
  · obtain ⟨v, hv, q⟩ := Option.any_eq_true _ _ |>.mp (g3 _ (lookS_mem ha))
    exact ⟨v, hv, vB_of q⟩
  · have q := g4 _ (lookS_mem ha)
    simp only [Bool.and_eq_true, Option.isNone_iff_eq_none] at q
    obtain ⟨v, hv, q2⟩ := Option.any_eq_true _ _ |>.mp q.2
    exact ⟨q.1, v, hv, vB_of q2⟩
  · exact fn_of hg (h3 _ (lookA_mem hf)).2 (hfv _ (lookA_mem hf)) (hT _ (lookA_mem hf))
  · have q := (h4 _ (lookA_mem hc)).2
    unfold mkB at q
    dsimp only at q
    rw [hi] at q
    simp only [Bool.and_eq_true, beq_iff_eq] at q
    exact ⟨q.1.1, isO_of q.1.2, q.2⟩
  · have q := h6 _ (lookA_mem ht)
    unfold tupB at q
    dsimp only at q
    cases ho : g t with
    | none => rw [ho] at q; cases q
    | some o =>
      obtain ⟨c, d, dt, sl⟩ := o
      rw [ho] at q
      cases dt with
      | seq vs n =>
        simp only [Bool.and_eq_true, beq_iff_eq] at q
        exact ⟨vs.toList, ⟨_, hg _ _ ho, q.1, n, rfl⟩, strVals_of q.2⟩
      | _ => cases q
  · obtain ⟨b, hb, q⟩ := List.any_eq_true.mp ha
    have := Nat.eq_of_beq_eq_true q; subst this
    exact h7 _ hb
end Mine
end

section
set_option maxRecDepth 1000000
set_option maxHeartbeats 0
set_option linter.unusedVariables false
open PySem PySem.W PySem.Calls PyProof.Rows
namespace Mine.H
noncomputable def s (x : String) (t : Nat) : Value := .str (Str.ofString x) t
noncomputable def i (n : Int) (t : Nat) : Value := .int n t
noncomputable def z (n : Int) : Value := .int n 0
noncomputable def o (c : String) (d : Data) : Obj := { cls := .type c, data := d }
noncomputable def q (l : List Value) : Obj := o "tuple" (.seq ⟨l⟩ 0)
noncomputable def e0 : Obj := q []
noncomputable def F0 (l : List Value) : Obj := { cls := .none, data := .fields ⟨l⟩ }
noncomputable def f0 : Obj := F0 []
noncomputable def numb : Nat → List String → List Value
  | _, [] => []
  | t, x :: r => s x t :: numb (t + 1) r
noncomputable def nt (t : Nat) (l : List String) : Obj := q (numb t l)
noncomputable def mp : Obj := o "builtin_function_or_method" (.fields ⟨[.builtin "type.__prepare__", .type "type"]⟩)
noncomputable def isu (a : Nat) : Obj := o "builtin_function_or_method" (.fields ⟨[.builtin "object.__init_subclass__", .ref a]⟩)
noncomputable def su (a : Nat) : Obj := o "super" (.fields ⟨[.ref a, .ref a, .ref a]⟩)
noncomputable def fileS : String := "/claim/cut.py"
noncomputable def co (n q : String) (t : Nat) (ln a p k f : Int) (c : Nat) (b : Bool) (v1 v2 v3 : Value) (u : Nat) : Obj := o "code" (.fields ⟨[s n t, s q (t + 1), s fileS (t + 2), z ln, z a, z p, z k, z f, .ref c, .bool b, z 181, .ref (c + 1), .none, v1, v2, v3, z u, z ln, s fileS (u + 1)]⟩)
noncomputable def fr (c l : Nat) (nm : Value) : Obj := { cls := .type "frame", slots := ⟨[some (.ref c), some (.ref 3), some (.ref l), none, some nm, none, some (.ref 0)]⟩ }
noncomputable def en (P : Params) (x : String) (t : Nat) (v : Value) : DictEntry := ⟨PyData.keyHash P (Str.ofString x), s x t, v⟩
noncomputable def dk (l : List DictEntry) (n : Nat) : Obj := o "dict" (.dict ⟨l⟩ n)
noncomputable def ls (c : String) (l : List Value) (n : Nat) : Obj := o c (.seq ⟨l⟩ n)
noncomputable def d0 (l : List DictEntry) (n : Nat) : Obj := { cls := .none, data := .dict ⟨l⟩ n }
noncomputable def fdata (st : Stmt) (q : String) (g : Nat) (d pm c : Value) : FuncData := match st with
  | .FunctionDef n a b _ _ _ sc _ _ _ => { name := n, qualname := Str.ofString q, params := a, body := .stmts b, scope := sc, globals := g, closure := [], defaults := d, kwdefaults := .none, pyModule := pm, code := c }
  | _ => default
noncomputable def tf (st : Stmt) (q : String) : Obj := { cls := .none, data := .func (fdata st q 0 .none .none .none) }
noncomputable def fn (st : Stmt) (q : String) (d pm c : Value) : Obj := o "function" (.func (fdata st q 3 d pm c))
noncomputable def kl (n : String) (bs mro : List Value) (ns : Nat) (subs : List Value) (sl : List (Option Value)) : Obj := { cls := .type "type", data := .cls { name := Str.ofString n, bases := bs, mro := mro, ns := ns, qualname := Str.ofString n, subclasses := subs }, slots := ⟨sl⟩ }
noncomputable def m3 (P : Params) : List DictEntry := [en P "__name__" 165 (s "dns.name" 264), en P "__doc__" 166 .none, en P "__package__" 167 .none, en P "__loader__" 168 (.builtin "__main__.__loader__#\x6fpaque"), en P "__spec__" 169 .none, en P "__annotations__" 170 (.ref 6), en P "__builtins__" 171 (.ref 4), en P "__file__" 173 (s "/claim/cut.py" 172), en P "__cached__" 174 .none, en P "_wall" 193 (.ref 21), en P "DNSException" 215 (.ref 31), en P "FormError" 231 (.ref 44), en P "DnsSyntaxError" 247 (.ref 56), en P "UnexpectedEnd" 263 (.ref 68), en P "NameRelation" 295 (.ref 80), en P "EmptyLabel" 311 (.ref 94), en P "BadEscape" 327 (.ref 106), en P "NeedAbsoluteNameOrOrigin" 343 (.ref 118), en P "NameTooLong" 359 (.ref 130), en P "LabelTooLong" 375 (.ref 142), en P "AbsoluteConcatenation" 391 (.ref 154), en P "NoParent" 407 (.ref 166), en P "NeedSubdomainOfOrigin" 423 (.ref 178), en P "_validate_labels" 436 (.ref 187), en P "_maybe_convert_to_binary" 443 (.ref 194), en P "Name" 712 (.ref 411)]
noncomputable def m12 : List Value := [(z 1), (z 0), (.ref 20), (z 5), (z 0), (.ref 27), (z 7), (z 0), (.ref 40), (z 9), (z 0), (.ref 52), (z 11), (z 0), (.ref 64), (z 14), (z 0), (.ref 76), (z 20), (z 0), (.ref 90), (z 22), (z 0), (.ref 102), (z 24), (z 0), (.ref 114), (z 26), (z 0), (.ref 126), (z 28), (z 0), (.ref 138), (z 30), (z 0), (.ref 150), (z 32), (z 0), (.ref 162), (z 34), (z 0), (.ref 174), (z 36), (z 0), (.ref 186), (z 53), (z 0), (.ref 193), (z 58), (z 0), (.ref 200)]
noncomputable def c0 (P : Params) : List Obj := [boot_o_0 P,
  boot_o_1 P,
  d0 [en P "type.__subclasses__.Exception.0" 212 (z 31), en P "type.__subclasses__.Exception.n" 213 (z 1)] 2,
  dk (m3 P) 26,
  boot_o_4 P,
  boot_o_5 P,
  boot_o_6 P,
  boot_o_7 P,
  boot_o_8 P,
  boot_o_9 P,
  boot_o_10 P,
  o11,
  F0 m12,
  o13,
  o14,
  e0,
  f0,
  nt 190 ["k"],
  e0,
  tf (st0 0) "_wall",
  co "_wall" "_wall" 187 1 1 0 0 3 15 true (.ref 17) (.ref 18) (.ref 19) 191,
  fn (st0 0) "_wall" .none (s "__main__" 164) (.ref 20),
  q [(.type "Exception")],
  mp,
  dk [en P "__module__" 203 (s "dns.exception" 194), en P "__qualname__" 205 (s "DNSException" 204), en P "__firstlineno__" 207 (i 5 206), en P "__static_attributes__" 208 (.ref 29)] 4,
  e0,
  f0,
  co "DNSException" "DNSException" 198 5 0 0 0 0 25 false .none .none .none 201,
  fr 27 24 (s "dns.exception" 194),
  e0,
  dk [en P "__module__" 203 (s "dns.exception" 194), en P "__firstlineno__" 207 (i 5 206), en P "__static_attributes__" 208 (.ref 29), en P "__weakref__" 210 (.ref 32), en P "__doc__" 211 .none] 3,
  kl "DNSException" [(.type "Exception")] [(.ref 31), (.type "Exception"), (.type "BaseException"), (.type "object")] 30 [(.ref 44), (.ref 56), (.ref 118), (.ref 154), (.ref 166), (.ref 178)] [some (.ref 22), none, some (s "DNSException" 196), some (s "DNSException" 204), some (.builtin "Exception.__new__"), some (.bool true)],
  o "getset_descriptor" (.fields ⟨[(s "__weakref__" 209), (.ref 31), (.builtin "ExceptionGroup.__weakref__"), .none]⟩),
  su 31,
  isu 31,
  q [(.ref 31)],
  mp,
  dk [en P "__module__" 223 (s "dns.exception" 194), en P "__qualname__" 225 (s "FormError" 224), en P "__firstlineno__" 227 (i 7 226), en P "__static_attributes__" 228 (.ref 42)] 4,
  e0,
  f0]
noncomputable def c1 (P : Params) : List Obj := [co "FormError" "FormError" 218 7 0 0 0 0 38 false .none .none .none 221,
  fr 40 37 (s "dns.exception" 194),
  e0,
  dk [en P "__module__" 223 (s "dns.exception" 194), en P "__firstlineno__" 227 (i 7 226), en P "__static_attributes__" 228 (.ref 42), en P "__doc__" 229 .none] 2,
  kl "FormError" [(.ref 31)] [(.ref 44), (.ref 31), (.type "Exception"), (.type "BaseException"), (.type "object")] 43 [(.ref 130)] [some (.ref 35), none, some (s "FormError" 216), some (s "FormError" 224), some (.builtin "Exception.__new__"), some (.bool true)],
  su 44,
  isu 44,
  q [(.ref 31)],
  mp,
  dk [en P "__module__" 239 (s "dns.exception" 194), en P "__qualname__" 241 (s "DnsSyntaxError" 240), en P "__firstlineno__" 243 (i 9 242), en P "__static_attributes__" 244 (.ref 54)] 4,
  e0,
  f0,
  co "DnsSyntaxError" "DnsSyntaxError" 234 9 0 0 0 0 50 false .none .none .none 237,
  fr 52 49 (s "dns.exception" 194),
  e0,
  dk [en P "__module__" 239 (s "dns.exception" 194), en P "__firstlineno__" 243 (i 9 242), en P "__static_attributes__" 244 (.ref 54), en P "__doc__" 245 .none] 2,
  kl "DnsSyntaxError" [(.ref 31)] [(.ref 56), (.ref 31), (.type "Exception"), (.type "BaseException"), (.type "object")] 55 [(.ref 68), (.ref 94), (.ref 106), (.ref 142)] [some (.ref 47), none, some (s "DnsSyntaxError" 232), some (s "DnsSyntaxError" 240), some (.builtin "Exception.__new__"), some (.bool true)],
  su 56,
  isu 56,
  q [(.ref 56)],
  mp,
  dk [en P "__module__" 255 (s "dns.exception" 194), en P "__qualname__" 257 (s "UnexpectedEnd" 256), en P "__firstlineno__" 259 (i 11 258), en P "__static_attributes__" 260 (.ref 66)] 4,
  e0,
  f0,
  co "UnexpectedEnd" "UnexpectedEnd" 250 11 0 0 0 0 62 false .none .none .none 253,
  fr 64 61 (s "dns.exception" 194),
  e0,
  dk [en P "__module__" 255 (s "dns.exception" 194), en P "__firstlineno__" 259 (i 11 258), en P "__static_attributes__" 260 (.ref 66), en P "__doc__" 261 .none] 2,
  kl "UnexpectedEnd" [(.ref 56)] [(.ref 68), (.ref 56), (.ref 31), (.type "Exception"), (.type "BaseException"), (.type "object")] 67 [] [some (.ref 59), none, some (s "UnexpectedEnd" 248), some (s "UnexpectedEnd" 256), some (.builtin "Exception.__new__"), some (.bool true)],
  su 68,
  isu 68,
  e0,
  mp,
  dk [en P "__module__" 273 (s "dns.name" 264), en P "__qualname__" 275 (s "NameRelation" 274), en P "__firstlineno__" 277 (i 14 276), en P "NONE" 279 (i 0 278), en P "SUPERDOMAIN" 281 (i 1 280), en P "SUBDOMAIN" 283 (i 2 282), en P "EQUAL" 285 (i 3 284), en P "COMMONANCESTOR" 287 (i 4 286), en P "__static_attributes__" 288 (.ref 78)] 9,
  e0,
  f0,
  co "NameRelation" "NameRelation" 268 14 0 0 0 0 74 false .none .none .none 271,
  fr 76 73 (s "dns.name" 264),
  e0,
  dk [en P "__module__" 273 (s "dns.name" 264), en P "__firstlineno__" 277 (i 14 276), en P "NONE" 279 (i 0 278), en P "SUPERDOMAIN" 281 (i 1 280), en P "SUBDOMAIN" 283 (i 2 282), en P "EQUAL" 285 (i 3 284), en P "COMMONANCESTOR" 287 (i 4 286), en P "__static_attributes__" 288 (.ref 78), en P "__dict__" 290 (.ref 81), en P "__weakref__" 292 (.ref 82), en P "__doc__" 293 .none] 4]
noncomputable def c2 (P : Params) : List Obj := [kl "NameRelation" [(.type "object")] [(.ref 80), (.type "object")] 79 [] [none, none, some (s "NameRelation" 266), some (s "NameRelation" 274), some (.builtin "object.__new__"), some (.bool true)],
  o "getset_descriptor" (.fields ⟨[(s "__dict__" 289), (.ref 80), (.builtin "function.__dict__"), (.builtin "function.__dict__#set")]⟩),
  o "getset_descriptor" (.fields ⟨[(s "__weakref__" 291), (.ref 80), (.builtin "ExceptionGroup.__weakref__"), .none]⟩),
  su 80,
  isu 80,
  q [(.ref 56)],
  mp,
  dk [en P "__module__" 303 (s "dns.name" 264), en P "__qualname__" 305 (s "EmptyLabel" 304), en P "__firstlineno__" 307 (i 20 306), en P "__static_attributes__" 308 (.ref 92)] 4,
  e0,
  f0,
  co "EmptyLabel" "EmptyLabel" 298 20 0 0 0 0 88 false .none .none .none 301,
  fr 90 87 (s "dns.name" 264),
  e0,
  dk [en P "__module__" 303 (s "dns.name" 264), en P "__firstlineno__" 307 (i 20 306), en P "__static_attributes__" 308 (.ref 92), en P "__doc__" 309 .none] 2,
  kl "EmptyLabel" [(.ref 56)] [(.ref 94), (.ref 56), (.ref 31), (.type "Exception"), (.type "BaseException"), (.type "object")] 93 [] [some (.ref 85), none, some (s "EmptyLabel" 296), some (s "EmptyLabel" 304), some (.builtin "Exception.__new__"), some (.bool true)],
  su 94,
  isu 94,
  q [(.ref 56)],
  mp,
  dk [en P "__module__" 319 (s "dns.name" 264), en P "__qualname__" 321 (s "BadEscape" 320), en P "__firstlineno__" 323 (i 22 322), en P "__static_attributes__" 324 (.ref 104)] 4,
  e0,
  f0,
  co "BadEscape" "BadEscape" 314 22 0 0 0 0 100 false .none .none .none 317,
  fr 102 99 (s "dns.name" 264),
  e0,
  dk [en P "__module__" 319 (s "dns.name" 264), en P "__firstlineno__" 323 (i 22 322), en P "__static_attributes__" 324 (.ref 104), en P "__doc__" 325 .none] 2,
  kl "BadEscape" [(.ref 56)] [(.ref 106), (.ref 56), (.ref 31), (.type "Exception"), (.type "BaseException"), (.type "object")] 105 [] [some (.ref 97), none, some (s "BadEscape" 312), some (s "BadEscape" 320), some (.builtin "Exception.__new__"), some (.bool true)],
  su 106,
  isu 106,
  q [(.ref 31)],
  mp,
  dk [en P "__module__" 335 (s "dns.name" 264), en P "__qualname__" 337 (s "NeedAbsoluteNameOrOrigin" 336), en P "__firstlineno__" 339 (i 24 338), en P "__static_attributes__" 340 (.ref 116)] 4,
  e0,
  f0,
  co "NeedAbsoluteNameOrOrigin" "NeedAbsoluteNameOrOrigin" 330 24 0 0 0 0 112 false .none .none .none 333,
  fr 114 111 (s "dns.name" 264),
  e0,
  dk [en P "__module__" 335 (s "dns.name" 264), en P "__firstlineno__" 339 (i 24 338), en P "__static_attributes__" 340 (.ref 116), en P "__doc__" 341 .none] 2,
  kl "NeedAbsoluteNameOrOrigin" [(.ref 31)] [(.ref 118), (.ref 31), (.type "Exception"), (.type "BaseException"), (.type "object")] 117 [] [some (.ref 109), none, some (s "NeedAbsoluteNameOrOrigin" 328), some (s "NeedAbsoluteNameOrOrigin" 336), some (.builtin "Exception.__new__"), some (.bool true)],
  su 118]
noncomputable def c3 (P : Params) : List Obj := [isu 118,
  q [(.ref 44)],
  mp,
  dk [en P "__module__" 351 (s "dns.name" 264), en P "__qualname__" 353 (s "NameTooLong" 352), en P "__firstlineno__" 355 (i 26 354), en P "__static_attributes__" 356 (.ref 128)] 4,
  e0,
  f0,
  co "NameTooLong" "NameTooLong" 346 26 0 0 0 0 124 false .none .none .none 349,
  fr 126 123 (s "dns.name" 264),
  e0,
  dk [en P "__module__" 351 (s "dns.name" 264), en P "__firstlineno__" 355 (i 26 354), en P "__static_attributes__" 356 (.ref 128), en P "__doc__" 357 .none] 2,
  kl "NameTooLong" [(.ref 44)] [(.ref 130), (.ref 44), (.ref 31), (.type "Exception"), (.type "BaseException"), (.type "object")] 129 [] [some (.ref 121), none, some (s "NameTooLong" 344), some (s "NameTooLong" 352), some (.builtin "Exception.__new__"), some (.bool true)],
  su 130,
  isu 130,
  q [(.ref 56)],
  mp,
  dk [en P "__module__" 367 (s "dns.name" 264), en P "__qualname__" 369 (s "LabelTooLong" 368), en P "__firstlineno__" 371 (i 28 370), en P "__static_attributes__" 372 (.ref 140)] 4,
  e0,
  f0,
  co "LabelTooLong" "LabelTooLong" 362 28 0 0 0 0 136 false .none .none .none 365,
  fr 138 135 (s "dns.name" 264),
  e0,
  dk [en P "__module__" 367 (s "dns.name" 264), en P "__firstlineno__" 371 (i 28 370), en P "__static_attributes__" 372 (.ref 140), en P "__doc__" 373 .none] 2,
  kl "LabelTooLong" [(.ref 56)] [(.ref 142), (.ref 56), (.ref 31), (.type "Exception"), (.type "BaseException"), (.type "object")] 141 [] [some (.ref 133), none, some (s "LabelTooLong" 360), some (s "LabelTooLong" 368), some (.builtin "Exception.__new__"), some (.bool true)],
  su 142,
  isu 142,
  q [(.ref 31)],
  mp,
  dk [en P "__module__" 383 (s "dns.name" 264), en P "__qualname__" 385 (s "AbsoluteConcatenation" 384), en P "__firstlineno__" 387 (i 30 386), en P "__static_attributes__" 388 (.ref 152)] 4,
  e0,
  f0,
  co "AbsoluteConcatenation" "AbsoluteConcatenation" 378 30 0 0 0 0 148 false .none .none .none 381,
  fr 150 147 (s "dns.name" 264),
  e0,
  dk [en P "__module__" 383 (s "dns.name" 264), en P "__firstlineno__" 387 (i 30 386), en P "__static_attributes__" 388 (.ref 152), en P "__doc__" 389 .none] 2,
  kl "AbsoluteConcatenation" [(.ref 31)] [(.ref 154), (.ref 31), (.type "Exception"), (.type "BaseException"), (.type "object")] 153 [] [some (.ref 145), none, some (s "AbsoluteConcatenation" 376), some (s "AbsoluteConcatenation" 384), some (.builtin "Exception.__new__"), some (.bool true)],
  su 154,
  isu 154,
  q [(.ref 31)],
  mp,
  dk [en P "__module__" 399 (s "dns.name" 264), en P "__qualname__" 401 (s "NoParent" 400), en P "__firstlineno__" 403 (i 32 402), en P "__static_attributes__" 404 (.ref 164)] 4]
noncomputable def c4 (P : Params) : List Obj := [e0,
  f0,
  co "NoParent" "NoParent" 394 32 0 0 0 0 160 false .none .none .none 397,
  fr 162 159 (s "dns.name" 264),
  e0,
  dk [en P "__module__" 399 (s "dns.name" 264), en P "__firstlineno__" 403 (i 32 402), en P "__static_attributes__" 404 (.ref 164), en P "__doc__" 405 .none] 2,
  kl "NoParent" [(.ref 31)] [(.ref 166), (.ref 31), (.type "Exception"), (.type "BaseException"), (.type "object")] 165 [] [some (.ref 157), none, some (s "NoParent" 392), some (s "NoParent" 400), some (.builtin "Exception.__new__"), some (.bool true)],
  su 166,
  isu 166,
  q [(.ref 31)],
  mp,
  dk [en P "__module__" 415 (s "dns.name" 264), en P "__qualname__" 417 (s "NeedSubdomainOfOrigin" 416), en P "__firstlineno__" 419 (i 34 418), en P "__static_attributes__" 420 (.ref 176)] 4,
  e0,
  f0,
  co "NeedSubdomainOfOrigin" "NeedSubdomainOfOrigin" 410 34 0 0 0 0 172 false .none .none .none 413,
  fr 174 171 (s "dns.name" 264),
  e0,
  dk [en P "__module__" 415 (s "dns.name" 264), en P "__firstlineno__" 419 (i 34 418), en P "__static_attributes__" 420 (.ref 176), en P "__doc__" 421 .none] 2,
  kl "NeedSubdomainOfOrigin" [(.ref 31)] [(.ref 178), (.ref 31), (.type "Exception"), (.type "BaseException"), (.type "object")] 177 [] [some (.ref 169), none, some (s "NeedSubdomainOfOrigin" 408), some (s "NeedSubdomainOfOrigin" 416), some (.builtin "Exception.__new__"), some (.bool true)],
  su 178,
  isu 178,
  e0,
  f0,
  nt 427 ["labels", "l", "total", "i", "j", "label", "ll"],
  e0,
  tf (st0 16) "_validate_labels",
  co "_validate_labels" "_validate_labels" 424 36 1 0 0 3 181 true (.ref 183) (.ref 184) (.ref 185) 434,
  fn (st0 16) "_validate_labels" .none (s "dns.name" 264) (.ref 186),
  e0,
  f0,
  nt 440 ["label"],
  e0,
  tf (st0 17) "_maybe_convert_to_binary",
  co "_maybe_convert_to_binary" "_maybe_convert_to_binary" 437 53 1 0 0 3 188 true (.ref 190) (.ref 191) (.ref 192) 441,
  fn (st0 17) "_maybe_convert_to_binary" .none (s "dns.name" 264) (.ref 193),
  e0,
  mp,
  dk [en P "__module__" 451 (s "dns.name" 264), en P "__qualname__" 453 (s "Name" 452), en P "__firstlineno__" 455 (i 58 454), en P "__init__" 461 (.ref 206), en P "is_absolute" 468 (.ref 213), en P "is_wild" 475 (.ref 220), en P "fullcompare" 494 (.ref 227), en P "is_subdomain" 504 (.ref 234), en P "is_superdomain" 512 (.ref 241), en P "canonicalize" 519 (.ref 248), en P "__eq__" 527 (.ref 255), en P "__ne__" 535 (.ref 262), en P "__lt__" 543 (.ref 269), en P "__le__" 551 (.ref 276), en P "__ge__" 559 (.ref 283), en P "__gt__" 567 (.ref 290), en P "to_text" 576 (.ref 298), en P "to_styled_text" 584 (.ref 305), en P "to_digestable" 592 (.ref 313), en P "to_wire" 603 (.ref 321), en P "__len__" 610 (.ref 328), en P "__getitem__" 618 (.ref 335), en P "__add__" 626 (.ref 342), en P "__sub__" 634 (.ref 349), en P "split" 643 (.ref 356), en P "concatenate" 652 (.ref 363), en P "relativize" 660 (.ref 370), en P "derelativize" 668 (.ref 377), en P "choose_relativity" 677 (.ref 385), en P "parent" 684 (.ref 392), en P "predecessor" 693 (.ref 400), en P "successor" 702 (.ref 408), en P "__static_attributes__" 704 (.ref 409)] 33,
  e0,
  F0 [(z 60), (z 4), (.ref 205), (z 65), (z 4), (.ref 212), (z 68), (z 4), (.ref 219), (z 71), (z 4), (.ref 226), (z 115), (z 4), (.ref 233), (z 121), (z 4), (.ref 240), (z 124), (z 4), (.ref 247), (z 127), (z 4), (.ref 254), (z 133), (z 4), (.ref 261), (z 139), (z 4), (.ref 268), (z 145), (z 4), (.ref 275), (z 151), (z 4), (.ref 282), (z 157), (z 4), (.ref 289), (z 163), (z 4), (.ref 297), (z 166), (z 4), (.ref 304), (z 169), (z 4), (.ref 312), (z 172), (z 4), (.ref 320), (z 175), (z 4), (.ref 327), (z 178), (z 4), (.ref 334), (z 181), (z 4), (.ref 341), (z 184), (z 4), (.ref 348), (z 187), (z 4), (.ref 355), (z 197), (z 4), (.ref 362), (z 204), (z 4), (.ref 369), (z 210), (z 4), (.ref 376), (z 216), (z 4), (.ref 384), (z 219), (z 4), (.ref 391), (z 224), (z 4), (.ref 399), (z 227), (z 4), (.ref 407)]]
noncomputable def c5 (P : Params) : List Obj := [co "Name" "Name" 446 58 0 0 0 0 198 false .none .none .none 449,
  fr 200 197 (s "dns.name" 264),
  e0,
  f0,
  tf (st1 18 0) "Name.__init__",
  co "__init__" "Name.__init__" 456 60 2 0 0 3 202 true .none .none (.ref 204) 459,
  fn (st1 18 0) "Name.__init__" .none (s "dns.name" 264) (.ref 205),
  e0,
  f0,
  nt 465 ["self"],
  e0,
  tf (st1 18 1) "Name.is_absolute",
  co "is_absolute" "Name.is_absolute" 462 65 1 0 0 3 207 true (.ref 209) (.ref 210) (.ref 211) 466,
  fn (st1 18 1) "Name.is_absolute" .none (s "dns.name" 264) (.ref 212),
  e0,
  f0,
  nt 472 ["self"],
  e0,
  tf (st1 18 2) "Name.is_wild",
  co "is_wild" "Name.is_wild" 469 68 1 0 0 3 214 true (.ref 216) (.ref 217) (.ref 218) 473,
  fn (st1 18 2) "Name.is_wild" .none (s "dns.name" 264) (.ref 219),
  e0,
  f0,
  nt 479 ["self", "other", "sabs", "oabs", "l1", "l2", "ldiff", "l", "order", "nlabels", "namereln", "label1", "label2"],
  e0,
  tf (st1 18 3) "Name.fullcompare",
  co "fullcompare" "Name.fullcompare" 476 71 2 0 0 3 221 true (.ref 223) (.ref 224) (.ref 225) 492,
  fn (st1 18 3) "Name.fullcompare" .none (s "dns.name" 264) (.ref 226),
  e0,
  f0,
  nt 498 ["self", "other", "nr", "_"],
  e0,
  tf (st1 18 4) "Name.is_subdomain",
  co "is_subdomain" "Name.is_subdomain" 495 115 2 0 0 3 228 true (.ref 230) (.ref 231) (.ref 232) 502,
  fn (st1 18 4) "Name.is_subdomain" .none (s "dns.name" 264) (.ref 233),
  e0,
  f0,
  nt 508 ["self", "other"],
  e0,
  tf (st1 18 5) "Name.is_superdomain"]
noncomputable def c6 (P : Params) : List Obj := [co "is_superdomain" "Name.is_superdomain" 505 121 2 0 0 3 235 true (.ref 237) (.ref 238) (.ref 239) 510,
  fn (st1 18 5) "Name.is_superdomain" .none (s "dns.name" 264) (.ref 240),
  e0,
  f0,
  nt 516 ["self"],
  e0,
  tf (st1 18 6) "Name.canonicalize",
  co "canonicalize" "Name.canonicalize" 513 124 1 0 0 3 242 true (.ref 244) (.ref 245) (.ref 246) 517,
  fn (st1 18 6) "Name.canonicalize" .none (s "dns.name" 264) (.ref 247),
  e0,
  f0,
  nt 523 ["self", "other"],
  e0,
  tf (st1 18 7) "Name.__eq__",
  co "__eq__" "Name.__eq__" 520 127 2 0 0 3 249 true (.ref 251) (.ref 252) (.ref 253) 525,
  fn (st1 18 7) "Name.__eq__" .none (s "dns.name" 264) (.ref 254),
  e0,
  f0,
  nt 531 ["self", "other"],
  e0,
  tf (st1 18 8) "Name.__ne__",
  co "__ne__" "Name.__ne__" 528 133 2 0 0 3 256 true (.ref 258) (.ref 259) (.ref 260) 533,
  fn (st1 18 8) "Name.__ne__" .none (s "dns.name" 264) (.ref 261),
  e0,
  f0,
  nt 539 ["self", "other"],
  e0,
  tf (st1 18 9) "Name.__lt__",
  co "__lt__" "Name.__lt__" 536 139 2 0 0 3 263 true (.ref 265) (.ref 266) (.ref 267) 541,
  fn (st1 18 9) "Name.__lt__" .none (s "dns.name" 264) (.ref 268),
  e0,
  f0,
  nt 547 ["self", "other"],
  e0,
  tf (st1 18 10) "Name.__le__",
  co "__le__" "Name.__le__" 544 145 2 0 0 3 270 true (.ref 272) (.ref 273) (.ref 274) 549,
  fn (st1 18 10) "Name.__le__" .none (s "dns.name" 264) (.ref 275),
  e0,
  f0,
  nt 555 ["self", "other"]]
noncomputable def c7 (P : Params) : List Obj := [e0,
  tf (st1 18 11) "Name.__ge__",
  co "__ge__" "Name.__ge__" 552 151 2 0 0 3 277 true (.ref 279) (.ref 280) (.ref 281) 557,
  fn (st1 18 11) "Name.__ge__" .none (s "dns.name" 264) (.ref 282),
  e0,
  f0,
  nt 563 ["self", "other"],
  e0,
  tf (st1 18 12) "Name.__gt__",
  co "__gt__" "Name.__gt__" 560 157 2 0 0 3 284 true (.ref 286) (.ref 287) (.ref 288) 565,
  fn (st1 18 12) "Name.__gt__" .none (s "dns.name" 264) (.ref 289),
  q [(.bool false), .none],
  e0,
  f0,
  nt 571 ["self", "omit_final_dot", "style"],
  e0,
  tf (st1 18 13) "Name.to_text",
  co "to_text" "Name.to_text" 568 163 3 0 0 3 292 true (.ref 294) (.ref 295) (.ref 296) 574,
  fn (st1 18 13) "Name.to_text" (.ref 291) (s "dns.name" 264) (.ref 297),
  e0,
  f0,
  nt 580 ["self", "style"],
  e0,
  tf (st1 18 14) "Name.to_styled_text",
  co "to_styled_text" "Name.to_styled_text" 577 166 2 0 0 3 299 true (.ref 301) (.ref 302) (.ref 303) 582,
  fn (st1 18 14) "Name.to_styled_text" .none (s "dns.name" 264) (.ref 304),
  q [.none],
  e0,
  f0,
  nt 588 ["self", "origin"],
  e0,
  tf (st1 18 15) "Name.to_digestable",
  co "to_digestable" "Name.to_digestable" 585 169 2 0 0 3 307 true (.ref 309) (.ref 310) (.ref 311) 590,
  fn (st1 18 15) "Name.to_digestable" (.ref 306) (s "dns.name" 264) (.ref 312),
  q [.none, .none, .none, (.bool false)],
  e0,
  f0,
  nt 596 ["self", "file", "compress", "origin", "canonicalize"],
  e0,
  tf (st1 18 16) "Name.to_wire"]
noncomputable def c8 (P : Params) : List Obj := [co "to_wire" "Name.to_wire" 593 172 5 0 0 3 315 true (.ref 317) (.ref 318) (.ref 319) 601,
  fn (st1 18 16) "Name.to_wire" (.ref 314) (s "dns.name" 264) (.ref 320),
  e0,
  f0,
  nt 607 ["self"],
  e0,
  tf (st1 18 17) "Name.__len__",
  co "__len__" "Name.__len__" 604 175 1 0 0 3 322 true (.ref 324) (.ref 325) (.ref 326) 608,
  fn (st1 18 17) "Name.__len__" .none (s "dns.name" 264) (.ref 327),
  e0,
  f0,
  nt 614 ["self", "index"],
  e0,
  tf (st1 18 18) "Name.__getitem__",
  co "__getitem__" "Name.__getitem__" 611 178 2 0 0 3 329 true (.ref 331) (.ref 332) (.ref 333) 616,
  fn (st1 18 18) "Name.__getitem__" .none (s "dns.name" 264) (.ref 334),
  e0,
  f0,
  nt 622 ["self", "other"],
  e0,
  tf (st1 18 19) "Name.__add__",
  co "__add__" "Name.__add__" 619 181 2 0 0 3 336 true (.ref 338) (.ref 339) (.ref 340) 624,
  fn (st1 18 19) "Name.__add__" .none (s "dns.name" 264) (.ref 341),
  e0,
  f0,
  nt 630 ["self", "other"],
  e0,
  tf (st1 18 20) "Name.__sub__",
  co "__sub__" "Name.__sub__" 627 184 2 0 0 3 343 true (.ref 345) (.ref 346) (.ref 347) 632,
  fn (st1 18 20) "Name.__sub__" .none (s "dns.name" 264) (.ref 348),
  e0,
  f0,
  nt 638 ["self", "depth", "l"],
  e0,
  tf (st1 18 21) "Name.split",
  co "split" "Name.split" 635 187 2 0 0 3 350 true (.ref 352) (.ref 353) (.ref 354) 641,
  fn (st1 18 21) "Name.split" .none (s "dns.name" 264) (.ref 355),
  e0,
  f0,
  nt 647 ["self", "other", "labels"]]
noncomputable def c9 (P : Params) : List Obj := [e0,
  tf (st1 18 22) "Name.concatenate",
  co "concatenate" "Name.concatenate" 644 197 2 0 0 3 357 true (.ref 359) (.ref 360) (.ref 361) 650,
  fn (st1 18 22) "Name.concatenate" .none (s "dns.name" 264) (.ref 362),
  e0,
  f0,
  nt 656 ["self", "origin"],
  e0,
  tf (st1 18 23) "Name.relativize",
  co "relativize" "Name.relativize" 653 204 2 0 0 3 364 true (.ref 366) (.ref 367) (.ref 368) 658,
  fn (st1 18 23) "Name.relativize" .none (s "dns.name" 264) (.ref 369),
  e0,
  f0,
  nt 664 ["self", "origin"],
  e0,
  tf (st1 18 24) "Name.derelativize",
  co "derelativize" "Name.derelativize" 661 210 2 0 0 3 371 true (.ref 373) (.ref 374) (.ref 375) 666,
  fn (st1 18 24) "Name.derelativize" .none (s "dns.name" 264) (.ref 376),
  q [.none, (.bool true)],
  e0,
  f0,
  nt 672 ["self", "origin", "relativize"],
  e0,
  tf (st1 18 25) "Name.choose_relativity",
  co "choose_relativity" "Name.choose_relativity" 669 216 3 0 0 3 379 true (.ref 381) (.ref 382) (.ref 383) 675,
  fn (st1 18 25) "Name.choose_relativity" (.ref 378) (s "dns.name" 264) (.ref 384),
  e0,
  f0,
  nt 681 ["self"],
  e0,
  tf (st1 18 26) "Name.parent",
  co "parent" "Name.parent" 678 219 1 0 0 3 386 true (.ref 388) (.ref 389) (.ref 390) 682,
  fn (st1 18 26) "Name.parent" .none (s "dns.name" 264) (.ref 391),
  q [(.bool true)],
  e0,
  f0,
  nt 688 ["self", "origin", "prefix_ok"],
  e0,
  tf (st1 18 27) "Name.predecessor",
  co "predecessor" "Name.predecessor" 685 224 3 0 0 3 394 true (.ref 396) (.ref 397) (.ref 398) 691]
noncomputable def c10 (P : Params) : List Obj := [fn (st1 18 27) "Name.predecessor" (.ref 393) (s "dns.name" 264) (.ref 399),
  q [(.bool true)],
  e0,
  f0,
  nt 697 ["self", "origin", "prefix_ok"],
  e0,
  tf (st1 18 28) "Name.successor",
  co "successor" "Name.successor" 694 227 3 0 0 3 402 true (.ref 404) (.ref 405) (.ref 406) 700,
  fn (st1 18 28) "Name.successor" (.ref 401) (s "dns.name" 264) (.ref 407),
  nt 703 ["labels"],
  dk [en P "__module__" 451 (s "dns.name" 264), en P "__firstlineno__" 455 (i 58 454), en P "__init__" 461 (.ref 206), en P "is_absolute" 468 (.ref 213), en P "is_wild" 475 (.ref 220), en P "fullcompare" 494 (.ref 227), en P "is_subdomain" 504 (.ref 234), en P "is_superdomain" 512 (.ref 241), en P "canonicalize" 519 (.ref 248), en P "__eq__" 527 (.ref 255), en P "__ne__" 535 (.ref 262), en P "__lt__" 543 (.ref 269), en P "__le__" 551 (.ref 276), en P "__ge__" 559 (.ref 283), en P "__gt__" 567 (.ref 290), en P "to_text" 576 (.ref 298), en P "to_styled_text" 584 (.ref 305), en P "to_digestable" 592 (.ref 313), en P "to_wire" 603 (.ref 321), en P "__len__" 610 (.ref 328), en P "__getitem__" 618 (.ref 335), en P "__add__" 626 (.ref 342), en P "__sub__" 634 (.ref 349), en P "split" 643 (.ref 356), en P "concatenate" 652 (.ref 363), en P "relativize" 660 (.ref 370), en P "derelativize" 668 (.ref 377), en P "choose_relativity" 677 (.ref 385), en P "parent" 684 (.ref 392), en P "predecessor" 693 (.ref 400), en P "successor" 702 (.ref 408), en P "__static_attributes__" 704 (.ref 409), en P "__dict__" 706 (.ref 412), en P "__weakref__" 708 (.ref 413), en P "__doc__" 709 .none, en P "__hash__" 710 .none] 5,
  kl "Name" [(.type "object")] [(.ref 411), (.type "object")] 410 [] [none, none, some (s "Name" 444), some (s "Name" 452), some (.builtin "object.__new__"), some (.bool true)],
  o "getset_descriptor" (.fields ⟨[(s "__dict__" 705), (.ref 411), (.builtin "function.__dict__"), (.builtin "function.__dict__#set")]⟩),
  o "getset_descriptor" (.fields ⟨[(s "__weakref__" 707), (.ref 411), (.builtin "ExceptionGroup.__weakref__"), .none]⟩),
  su 411,
  isu 411]
noncomputable def all (P : Params) : List Obj := c0 P ++ (c1 P ++ (c2 P ++ (c3 P ++ (c4 P ++ (c5 P ++ (c6 P ++ (c7 P ++ (c8 P ++ (c9 P ++ (c10 P))))))))))
noncomputable def x3 (P : Params) : Obj := dk (m3 P ++ [en P "root" 752 (.ref 418), en P "empty" 772 (.ref 434), en P "from_text" 787 (.ref 454), en P "_MINIMAL_OCTET" 789 (.bytes ⟨[0]⟩ 788), en P "_MINIMAL_OCTET_VALUE" 791 (i 0 790), en P "_SUCCESSOR_PREFIX" 827 (.ref 457)]) 32
noncomputable def x12 : Obj := F0 (m12 ++ [(z 231), (z 0), (.ref 453)])
noncomputable def new (P : Params) : List Obj := [ls "list" [(.bytes ⟨[]⟩ 713)] 0,
  dk [en P "labels" 720 (.ref 427)] 1,
  { cls := .ref 411, dict := some 417 },
  o "frame" (.dict ⟨[en P "self" 714 (.ref 418), en P "labels" 715 (.ref 416), en P "blabels" 718 (.ref 421)]⟩ 3),
  o "list_iterator" (.fields ⟨[.none, (z 1)]⟩),
  ls "list" [(.bytes ⟨[]⟩ 713)] 1,
  dk [] 2,
  o "frame" (.dict ⟨[en P "label" 717 (.bytes ⟨[]⟩ 713)]⟩ 1),
  e0,
  o "StopIteration" (.fields ⟨[(.ref 424), .none, .none, .none, (.bool false), .none]⟩),
  ls "list" [(.bytes ⟨[]⟩ 713)] 1,
  q [(.bytes ⟨[]⟩ 713)],
  o "frame" (.dict ⟨[en P "labels" 722 (.ref 427), en P "l" 725 (i 1 724), en P "total" 727 (i 1 739), en P "i" 730 (i 0 731), en P "j" 732 (i 1 746), en P "label" 733 (.bytes ⟨[]⟩ 713), en P "ll" 736 (i 0 735)]⟩ 7),
  o "tuple_iterator" (.fields ⟨[.none, (z 1)]⟩),
  e0,
  o "StopIteration" (.fields ⟨[(.ref 430), .none, .none, .none, (.bool false), .none]⟩),
  ls "list" [] 0,
  dk [en P "labels" 757 (.ref 442)] 1,
  { cls := .ref 411, dict := some 433 },
  o "frame" (.dict ⟨[en P "self" 753 (.ref 434), en P "labels" 754 (.ref 432), en P "blabels" 755 (.ref 437)]⟩ 3),
  o "list_iterator" (.fields ⟨[.none, (z 0)]⟩),
  ls "list" [] 0,
  dk [] 0,
  e0,
  o "StopIteration" (.fields ⟨[(.ref 439), .none, .none, .none, (.bool false), .none]⟩),
  ls "list" [] 0,
  e0,
  o "frame" (.dict ⟨[en P "labels" 759 (.ref 442), en P "l" 762 (i 0 761), en P "total" 764 (i 0 763), en P "i" 767 (i (-1) 766), en P "j" 769 (i 0 768)]⟩ 5),
  o "tuple_iterator" (.fields ⟨[.none, (z 0)]⟩),
  e0,
  o "StopIteration" (.fields ⟨[(.ref 445), .none, .none, .none, (.bool false), .none]⟩),
  q [(.ref 418)],
  e0,
  f0,
  nt 776 ["text", "origin", "labels", "label", "escaping", "edigits", "total", "c", "byte_"],
  e0,
  tf (st0 21) "from_text",
  co "from_text" "from_text" 773 231 2 0 0 3 448 true (.ref 450) (.ref 451) (.ref 452) 785,
  fn (st0 21) "from_text" (.ref 447) (s "dns.name" 264) (.ref 453),
  ls "list" [(.bytes ⟨[0]⟩ 788)] 0,
  dk [en P "labels" 798 (.ref 466)] 1,
  { cls := .ref 411, dict := some 456 },
  o "frame" (.dict ⟨[en P "self" 792 (.ref 457), en P "labels" 793 (.ref 455), en P "blabels" 796 (.ref 460)]⟩ 3),
  o "list_iterator" (.fields ⟨[.none, (z 1)]⟩),
  ls "list" [(.bytes ⟨[0]⟩ 788)] 1,
  dk [] 2,
  o "frame" (.dict ⟨[en P "label" 795 (.bytes ⟨[0]⟩ 788)]⟩ 1),
  e0,
  o "StopIteration" (.fields ⟨[(.ref 463), .none, .none, .none, (.bool false), .none]⟩),
  ls "list" [(.bytes ⟨[0]⟩ 788)] 1,
  q [(.bytes ⟨[0]⟩ 788)],
  o "frame" (.dict ⟨[en P "labels" 800 (.ref 466), en P "l" 803 (i 1 802), en P "total" 805 (i 2 817), en P "i" 808 (i (-1) 807), en P "j" 810 (i 1 823), en P "label" 811 (.bytes ⟨[0]⟩ 788), en P "ll" 814 (i 1 813)]⟩ 7),
  o "tuple_iterator" (.fields ⟨[.none, (z 1)]⟩),
  e0,
  o "StopIteration" (.fields ⟨[(.ref 469), .none, .none, .none, (.bool false), .none]⟩)]
end Mine.H
namespace Mine
noncomputable def T19 (P : Params) : BT := insAll 0 .nil (H.all P)
noncomputable def S19 (P : Params) (os : OsState) : SharedT := ⟨T19 P, 416, {}, #[], boot_drawn, 713, os⟩
noncomputable def T25 (P : Params) : BT := insAll 416 (((T19 P).ins 3 (H.x3 P)).ins 12 H.x12) (H.new P)
noncomputable def S25 (P : Params) (os : OsState) : SharedT := ⟨T25 P, 471, {}, #[], boot_drawn, 828, os⟩
noncomputable def p19 : Pos := ⟨58, 0, 228, 73⟩
noncomputable def p25 : Pos := ⟨287, 0, 287, 17⟩
noncomputable def b1 : List Stmt := (behindTheImports pw).take 19
noncomputable def b2 : List Stmt := ((behindTheImports pw).drop 19).take 6
noncomputable def b3 : List Stmt := (behindTheImports pw).drop 25
theorem top_run {w : World} {os : OsState} {sT : SharedT} {p : Pos} (hA : segF w 4200 (sT0 w.params os) (pcs b1 pos0) = some (.next, S19 w.params os, cE, p19)) (hB : segF w 2500 (S19 w.params os) (pcs b2 p19) = some (.next, S25 w.params os, cE, p25))
    (hC : segF w 3300 (S25 w.params os) (pcs b3 p25) = some (.next, sT, cE, p)) : topRun treeTable pw w 11 annE 20000 (s0 w os) (topStub pw) = some sT.abs := by
  rw [← seg_fast] at hA hB hC
  have e := piece_app (rest := []) (segRun_of hC) (piece_nil (fin_go w sT.abs p))
  rw [List.append_nil] at e
  have e := piece_app (segRun_of hA) (piece_app (segRun_of hB) e)
  rw [show b1 ++ (b2 ++ b3) = behindTheImports pw from by
    show List.take 19 (behindTheImports pw) ++ (List.take 6 (List.drop 19 (behindTheImports pw)) ++ List.drop 25 (behindTheImports pw)) = behindTheImports pw
    have e : List.drop 25 (behindTheImports pw) = List.drop 6 (List.drop 19 (behindTheImports pw)) := by rw [List.drop_drop]
    rw [e, List.take_append_drop, List.take_append_drop]] at e
  have e2 := go_top (pre_go w os) (piece_block (block_go w os) e)
  have := topRun_mono (20000 - (12 + (1 + (4200 + (2500 + (3300 + 3)))))) _ _ _ _ e2
  exact this
end Mine
end

section
set_option maxRecDepth 1000000
set_option maxHeartbeats 0
set_option linter.unusedVariables false
open PySem PySem.W PySem.Calls PyProof.Rows
namespace Mine
noncomputable def getT (t : BT) (n : Nat) (a : Addr) : Option Obj := match Nat.blt a n with
  | true => (match t.get a with
    | some o => alive o
    | none => none)
  | false => none
theorem alive_eq {o o' : Obj} (h : alive o = some o') : o' = o := by
  obtain ⟨c, d, dt, sl⟩ := o
  cases dt <;> cases h <;> rfl
theorem getT_abs {t : BT} {n : Nat} {life : Life} {a : Addr} {o : Obj} (h : getT t n a = some o) : (absHeap t n life).get? a = some o := by
  unfold getT at h
  cases q : Nat.blt a n with
  | false => rw [q] at h; cases h
  | true =>
    rw [q] at h
    have lt : a < n := Nat.le_of_ble_eq_true q
    dsimp only at h
    cases g : t.get a with
    | none => rw [g] at h; cases h
    | some o' => rw [g] at h; exact (abs_get lt g).trans h
noncomputable def KA : List Addr := [2, 4, 3, 6, 80, 79, 411, 410, 566, 565, 691, 690, 933, 932, 31, 30, 44, 43, 56, 55, 68, 67, 106, 105, 118, 117, 130, 129, 178, 177, 187, 194, 206, 213, 227, 234, 255, 262, 269, 276, 290, 328, 335, 400, 408, 454, 505, 512, 524, 532, 540, 556, 563, 597, 681, 688, 710, 717, 731, 738, 746, 944, 951, 958, 965, 972, 979]
noncomputable def fiL : FnInfo := fnI (st0 67) [] 983
noncomputable def sysT (t : BT) (n : Nat) : Bool := sysB (getT t n) (kOf (getT t n) KA) tT
noncomputable def lawA : Arguments := match st0 67 with
  | .FunctionDef _ a _ _ _ _ _ _ _ _ => a
  | _ => { posonlyargs := [], args := [], vararg := none, kwonlyargs := [], kw_defaults := [], kwarg := none, defaults := [] }
noncomputable abbrev LawV := Option (((Str × Str × Arguments) × FuncBody × Scope) × (Value × Value) × Bool)
noncomputable def lawV (g : Get) : LawV := match g 984 with
  | some ⟨_, _, .func fd, _⟩ => some (((fd.name, fd.qualname, fd.params), fd.body, fd.scope), (fd.defaults, fd.kwdefaults), Nat.beq fd.globals mainGlobals && fd.closure.isEmpty && Nat.beq fd.builtins builtinsNs && codeB g fd.code fd.qualname)
  | _ => none
noncomputable def lawG : LawV := some (((fiL.name, fiL.name, lawA), FuncBody.stmts fiL.body, fiL.scope), (.none, .none), true)
noncomputable def looksB (h₀ : Heap) (s : Shared) : Bool := staticsOk (importedModules pw.main.body) h₀ s.heap && namesBound pw s.heap && gensDone s && laidKept h₀ s.heap && s.heap.accountedOkI (importedModules pw.main.body) &&
  s.heap.isNs mainGlobals && s.gens.size == 0 && s.heap.bmainOk
noncomputable def headV (w : World) (os : OsState) : Option (Code × Bool × Bool × LawV × List (Option (FuncBody × Scope))) := match segF w 3300 (S25 w.params os) (pcs b3 p25) with
  | some (.next, sT, c, _) => some (c, looksB (boot_heap w.params) sT.abs, sysT sT.tree sT.n, lawV (getT sT.tree sT.n), sysV (getT sT.tree sT.n) tT)
  | _ => none
noncomputable def headG : Option (Code × Bool × Bool × LawV × List (Option (FuncBody × Scope))) := some (cE, true, true, lawG, sysG tT)
end Mine
end

section
set_option maxRecDepth 1000000
set_option maxHeartbeats 0
open PySem PySem.W PySem.Calls PyProof.Rows
namespace Mine
theorem run19 (w : World) (os : OsState) : segF w 4200 (sT0 w.params os) (pcs b1 pos0) = some (.next, S19 w.params os, cE, p19) := by kernel_rfl
end Mine
end

section
set_option maxRecDepth 1000000
set_option maxHeartbeats 0
open PySem PySem.W PySem.Calls PyProof.Rows
namespace Mine
noncomputable abbrev wff (w : World) (a b : Bool) : World := (w.withFollow "comprehension-iter-twice" a).withFollow "special-get-raises" b
theorem run25_0 (w : World) (os : OsState) : segF (wff w false false) 2500 (S19 (wff w false false).params os) (pcs b2 p19) = some (.next, S25 (wff w false false).params os, cE, p25) := by kernel_rfl
theorem run25_1 (w : World) (os : OsState) : segF (wff w false true) 2500 (S19 (wff w false true).params os) (pcs b2 p19) = some (.next, S25 (wff w false true).params os, cE, p25) := by kernel_rfl
theorem run25_2 (w : World) (os : OsState) : segF (wff w true false) 2500 (S19 (wff w true false).params os) (pcs b2 p19) = some (.next, S25 (wff w true false).params os, cE, p25) := by kernel_rfl
theorem run25_3 (w : World) (os : OsState) : segF (wff w true true) 2500 (S19 (wff w true true).params os) (pcs b2 p19) = some (.next, S25 (wff w true true).params os, cE, p25) := by kernel_rfl
theorem run25 (w : World) (os : OsState) : segF w 2500 (S19 w.params os) (pcs b2 p19) = some (.next, S25 w.params os, cE, p25) := by
  have e1 : w.withFollow "comprehension-iter-twice" (w.params.followText "comprehension-iter-twice") = w := World.withFollow_self w _
  have e2 : w.withFollow "special-get-raises" (w.params.followText "special-get-raises") = w := World.withFollow_self w _
  have e : wff w (w.params.followText "comprehension-iter-twice") (w.params.followText "special-get-raises") = w := by
    unfold wff; rw [e1, e2]
  rw [← e]
  generalize w.params.followText "comprehension-iter-twice" = a
  generalize w.params.followText "special-get-raises" = b
  cases a <;> cases b
  · exact run25_0 w os
  · exact run25_1 w os
  · exact run25_2 w os
  · exact run25_3 w os
end Mine
end

section
set_option maxRecDepth 1000000
set_option maxHeartbeats 0
open PySem PySem.W PySem.Calls PyProof.Rows
namespace Mine
theorem head_all (w : World) (os : OsState) : headV w os = headG := by kernel_rfl
end Mine
end

section
set_option maxRecDepth 1000000
set_option maxHeartbeats 0
open PySem PySem.W PySem.Calls PyProof.Rows
namespace Mine
theorem said_ok : PySem.Challenge.rw_lo0005_01.wellSaid = true := by
  unfold OpenLaw.wellSaid OpenRow.wellSaid OpenRow.partSaid looksOpen
  rw [PySem.W.Fast.te17119622794617984870, PySem.W.Fast.te16286561074155671207, PySem.W.Fast.te10501279942588096481, PySem.W.Fast.te8179353310426384613, PySem.W.Fast.te9558739934217749035, PySem.W.Fast.te8377067652309620493, PySem.W.Fast.te8326940854005059898]
  repeat' (with_reducible refine look_both ?_ ?_)
  all_goals decide +kernel
end Mine
end

section
set_option maxRecDepth 1000000
set_option maxHeartbeats 0
set_option linter.unusedVariables false
open PySem PySem.W PySem.Calls PyProof.Rows
namespace Mine
theorem fi_ok : tT.fns.all (fun p => fiB p.2) = true := by kernel_rfl
theorem tab_ok : tabMB tT = true := by kernel_rfl
theorem law_def : pw.theDef fiL.name = some (lawA, fiL.body, fiL.scope) := by kernel_rfl
theorem law_dflt : lawA.defaults = [] ∧ kwWritten? lawA.kwonlyargs lawA.kw_defaults = some [] := by constructor <;> kernel_rfl
structure Left (w : World) (s₀ s₁ : Shared) : Prop where
  ran : TopRan pw w s₀ s₁
  asleep : s₁.asleep
  gens : s₁.gens = #[]
  main : s₁.heap.isNs mainGlobals = true
  pin : isTheDefsW pw s₁.heap fiL.name
  look : ∃ g : Get, (∀ a o, g a = some o → s₁.heap.get? a = some o) ∧ sysB g (kOf g KA) tT = true ∧ lawV g = lawG ∧ sysV g tT = sysG tT
theorem bmain_of {h : Heap} (hg : h.isNs mainGlobals = true) (b : h.bmainOk = true) : builtinsGlobalAsBooted h := by
  unfold Heap.bmainOk at b
  cases hv : h.nsMap mainGlobals "__builtins__" with
  | none => rw [hv] at b; cases b
  | some v =>
    rw [hv] at b
    cases v with
    | ref bm =>
      simp only [Bool.and_eq_true] at b
      obtain ⟨_, b⟩ := b
      cases ho : h.get? bm with
      | none => rw [ho] at b; cases b
      | some o =>
        rw [ho] at b
        obtain ⟨c, d, dt, sl⟩ := o
        cases c with
        | type n =>
          cases d with
          | none => cases b
          | some d =>
            cases dt with
            | plain =>
              simp only [Bool.and_eq_true, beq_iff_eq] at b
              obtain ⟨rfl, rfl⟩ := b
              exact ⟨bm, _, (Pin.globalOf_eq hg _).trans hv, ho, rfl, rfl⟩
            | _ => cases b
        | _ => cases b
    | _ => cases b
theorem law_pin {h : Heap} {g : Get} (hg : ∀ a o, g a = some o → h.get? a = some o) (hm : h.isNs mainGlobals = true) (hl : lawV g = lawG) (hs : globB g tT = true) : isTheDefsW pw h fiL.name := by
  unfold lawV lawG at hl
  cases ho : g 984 with
  | none => rw [ho] at hl; cases hl
  | some o =>
    rw [ho] at hl
    obtain ⟨c, d, dt, sl⟩ := o
    cases dt with
    | func fd =>
      simp only [Option.some.injEq, Prod.mk.injEq, Bool.and_eq_true, List.isEmpty_iff] at hl
      obtain ⟨⟨⟨h1, h2, h3⟩, h4, h5⟩, ⟨h6, h7⟩, ⟨⟨h8, h9⟩, h10⟩, h11⟩ := hl
      have hglob : h.nsMap mainGlobals fiL.name = some (.ref 984) := by
        simp only [globB, Bool.and_eq_true, List.all_eq_true] at hs
        obtain ⟨⟨⟨g1, g2⟩, g3⟩, g4⟩ := hs
        have q := g3 (fiL.name, .gl 984) (by
          have : (tT.globs.getLast?) = some (fiL.name, .gl 984) := by kernel_rfl
          exact List.mem_of_getLast? this)
        obtain ⟨v, hv, q⟩ := Option.any_eq_true _ _ |>.mp q
        have : v = .ref 984 := vB_of q
        subst this
        obtain ⟨o, es, n, ho, hd, hk, hf⟩ := ns_of hg g1
        obtain ⟨o', es', n', ho', hd', hk', hf'⟩ := Heap.Ns.of_isNs hm
        rw [ho] at ho'; cases ho'
        rw [hd] at hd'; cases hd'
        rw [← hf', hf]; exact hv
      exact ⟨984, _, fd, lawA, fiL.body, fiL.scope, (Pin.globalOf_eq hm _).trans hglob, hg _ _ ho, rfl, law_def, h1, h2, h3, h4, h5, Nat.eq_of_beq_eq_true h8, h9, Nat.eq_of_beq_eq_true h10,
        .inl ⟨law_dflt.1, h6⟩, [], law_dflt.2, .inl ⟨rfl, h7⟩⟩
    | _ => cases hl
theorem boot_blt (P : Params) : (boot_heap P).bltView = bltViewBooted := by kernel_rfl
theorem boot_ns (P : Params) : (boot_heap P).isNs builtinsNs = true := by kernel_rfl
theorem boot_main (P : Params) : ((boot_heap P).isNs mainGlobals, (boot_heap P).objs.size, (boot_heap P).nsMap mainGlobals "__annotations__") = (true, 11, annE) := by kernel_rfl
theorem boot_life (P : Params) : (boot_heap P).life = {} := by kernel_rfl
theorem head_behind (w : World) : (∃ s, AfterRun (opening pw) w s) ∧ ∀ s, AfterRun (opening pw) w s → ∃ s₀, fenceModules? pw s = some s₀ ∧ s₀.gens = #[] ∧ ∃ s₁, Left w s₀ s₁ := by
  obtain ⟨s₀, hf, hv⟩ := Option.map_eq_some_iff.mp (boot_o w)
  unfold fencedOpening at hf
  rw [← table_eq_tree] at hf
  obtain ⟨s, h4, h5⟩ := Option.bind_eq_some_iff.mp hf
  have A := AfterImport.of_importEnds h4
  refine ⟨⟨s, A⟩, fun s' hs' => ?_⟩
  obtain rfl : s' = s := AfterImport.unique hs' A
  have z : s₀.asleep := Shared.asleep_of_life (fence_lifeW h5) A.life
  obtain ⟨h, gs, d, k, os⟩ := s₀
  simp only [Prod.mk.injEq] at hv
  obtain ⟨rfl, rfl, rfl, rfl⟩ := hv
  have H := head_all w os
  unfold headV at H
  cases hr : segF w 3300 (S25 w.params os) (pcs b3 p25) with
  | none => rw [hr] at H; cases H
  | some r =>
    obtain ⟨f, sT, c, p⟩ := r
    rw [hr] at H
    cases f with
    | next =>
      simp only [headG, Option.some.injEq, Prod.mk.injEq] at H
      obtain ⟨rfl, hl, hsys, hlaw, hV⟩ := H
      have ht := top_run (run19 w os) (run25 w os) hr
      rw [← table_eq_tree] at ht
      obtain ⟨a, l, os', fr⟩ := topRun_spec _ _ _ _ z ht
      simp only [looksB, Bool.and_eq_true] at hl
      obtain ⟨⟨⟨⟨⟨⟨⟨l1, l2⟩, l3⟩, l4⟩, l5⟩, l6⟩, l7⟩, l8⟩ := hl
      have hglob : globB (getT sT.tree sT.n) tT = true := by
        unfold sysT sysB at hsys
        simp only [Bool.and_eq_true] at hsys
        exact hsys.1.1.1.1.1.2
      have hbk : ∀ x, builtinOf sT.abs.heap x = builtinOf (boot_heap w.params) x := by
        intro x
        obtain ⟨o, es, n, ho, _⟩ := Heap.Ns.of_isNs (boot_ns w.params)
        have := fr builtinsNs o (by decide) (by decide) (by decide) (by decide) ho
        unfold builtinOf
        rw [this, ho]
      refine ⟨_, h5, rfl, sT.abs, ⟨a, l, Shared.rest_eq os', fun b o hb hn => fr b o ?_ (fun q => hn (.inl q)) (fun q => hn (.inr (.inl q))) (fun q => hn (.inr (.inr ?_))) hb,
        Heap.accountedI_of_ok l5, statics_of_ok l1, Pin.keysAreStrs_of l6, fun x hx => (hbk x).trans ((Pin.builtinOf_eq (boot_ns w.params) x).trans (Heap.of_bltView (boot_ns w.params) (boot_blt w.params) x hx)), bmain_of l6 l8,
        gens_of_done l3, names_of_bound l2, laid_of_kept l4⟩, Shared.asleep_of_life l z, Array.eq_empty_of_size_eq_zero (beq_iff_eq.mp l7), l6, law_pin (fun a o h => getT_abs h) l6 hlaw hglob, getT sT.tree sT.n, fun a o h => getT_abs h, hsys, hlaw, hV⟩
      · have := Heap.lt_size hb
        have e := congrArg (fun x => x.2.1) (boot_main w.params)
        exact Nat.lt_of_lt_of_eq this e
      · have e := congrArg (fun x => x.2.2) (boot_main w.params)
        exact (Pin.globalOf_eq (congrArg Prod.fst (boot_main w.params)) _).trans (e.trans q)
    | _ => cases H
end Mine
end

section
set_option maxRecDepth 1000000
set_option maxHeartbeats 0
set_option linter.unusedVariables false
open PySem PySem.W PySem.Calls PyProof.Rows
namespace Mine
noncomputable abbrev callerCtx : Ctx := ⟨.builtin "claim.caller" {}, none, none, [], none⟩
theorem caller_clean : Clean callerCtx := ⟨by kernel_rfl, fun x hx => by cases hx⟩
theorem ends_C {w : World} {t : Sem Fin} {s : Shared} {R : Result → Shared → Prop} (hreg : s.asleep)
    (h : wpC Clean (model pw w) callerA t (fun fin s' => ∃ f, fin = .done f ∧ (R (.ok f) s' ∧ leftWithCleanup s'.gens = false)) (fun e s' => R (.error e) s' ∧ leftWithCleanup s'.gens = false) s) :
    ∃ n r s' s'', runN (denote table) pw w n s ⟨t, .builtin "claim.caller" {}, default, []⟩ = .halted (outcomeOf r) s' ∧
      schedN (denote table) pw w n (.single s ⟨t, .builtin "claim.caller" {}, default, []⟩) = .halted (outcomeOf r) s' ∧ s'.forget = s''.forget ∧ R r s'' := by
  have hw : Sem.wp (model pw w) callerCtx t (Sem.finPost (model pw w) callerCtx (fun r s' => R r s' ∧ leftWithCleanup s'.gens = false)) (fun e _ s' => R (.error e) s' ∧ leftWithCleanup s'.gens = false) default s := by
    refine Sem.wp_mono (model pw w) callerCtx t (fun fin p' s' h' => ?_) (fun _ _ _ h' => h') default s (h callerCtx default caller_in caller_clean)
    obtain ⟨f, rfl, hf⟩ := h'
    exact hf
  obtain ⟨n, r, s₁, s₂, hs, hn, hfo, hR⟩ := wp_halts_full (M := model pw w) (R := R) hreg hw
  exact ⟨n, r, s₂, s₁, hn, hs, hfo, hR⟩
theorem lay_ints {R : WRecords} {cl : Str → Option Addr} {P : Params} {ord : List DictEntry → List DictEntry} : ∀ (is : List Int) (s : Shared), ∃ vals, layAllW R cl P ord (is.map WData.int) s = some (vals, { s with toks := s.toks + is.length }) ∧ VsRep [] (is.map MV.int) vals
  | [], s => ⟨[], rfl, .nil⟩
  | i :: is, s => by
    obtain ⟨vals, h1, h2⟩ := lay_ints is { s with toks := s.toks + 1 }
    refine ⟨.int i s.toks :: vals, ?_, .cons ⟨_, rfl⟩ h2⟩
    rw [List.map_cons]
    unfold layAllW
    rw [show layW R cl P ord (.int i) s = some (.int i s.toks, { s with toks := s.toks + 1 }) from by unfold layW; rfl]
    dsimp only
    rw [h1]
    simp only [List.length_cons, Nat.add_assoc, Nat.add_comm 1]
noncomputable abbrev lrow : OpenRow := PySem.Challenge.rw_lo0005_01.row
theorem row_opens : opensWell pw = true := by kernel_rfl
theorem row_bare : pw.bare := ⟨rfl, rfl, rfl, rfl, rfl, by kernel_rfl⟩
theorem row_prom : lrow.toRowW.promised := ⟨[.list []], by kernel_rfl, by kernel_rfl⟩
theorem row_free : (frees lrow.toRowW && lrow.toRowW.within.isEmpty) = true := by kernel_rfl
noncomputable abbrev scriptObj (vals : List Value) : Obj := { cls := .type "list", data := .seq vals.toArray }
noncomputable abbrev LawWalk : Prop := ∀ (w : World) (s₀ s : Shared), Left w s₀ s → ∀ (is : List Int) (vals : List Value) (s₁ : Shared), is.length ≤ 63 → VsRep [] (is.map MV.int) vals → s₁.heap = s.heap.push (scriptObj vals) →
  s₁.gens = #[] → s₁.os = s.os → wpC Clean (model pw w) callerA (call (.ref 984) [.ref s.heap.objs.size]) (fun v s' => v = .bool true ∧ (∀ b o, s₁.heap.get? b = some o → s'.heap.get? b = some o) ∧ s'.os = s₁.os ∧ s'.gens = #[]) (fun _ _ => False) s₁
theorem items_int : ∀ {xs : List WData}, WShape.hasItems [] xs .int = true → ∃ is : List Int, xs = is.map .int
  | [], _ => ⟨[], rfl⟩
  | x :: xs, h => by
    unfold WShape.hasItems at h
    obtain ⟨h1, h2⟩ := Bool.and_eq_true_iff.mp h
    obtain ⟨is, rfl⟩ := items_int h2
    cases x with
    | int i => exact ⟨i :: is, rfl⟩
    | _ => unfold WShape.has at h1; first | cases h1 | (simp [WShape.arms] at h1)
theorem pre_args {args : List WData} (h : lrow.toRowW.claim.pre args = true) : ∃ is : List Int, args = [.list (is.map .int)] ∧ is.length ≤ 63 := by
  obtain ⟨h1, h2⟩ := Bool.and_eq_true_iff.mp (show (WShape.hasAll [] args [.list .int] && lrow.pre.holds [] { args := args }) = true from h)
  have ha : ∃ is : List Int, args = [.list (is.map .int)] := by
    cases args with
    | nil => cases h1
    | cons x r =>
      unfold WShape.hasAll at h1
      obtain ⟨a, b⟩ := Bool.and_eq_true_iff.mp h1
      cases r with
      | cons _ _ => cases b
      | nil =>
        cases x with
        | list xs =>
          unfold WShape.has at a
          have a' : WShape.hasItems [] xs .int = true := by simpa [WShape.arms] using a
          obtain ⟨is, rfl⟩ := items_int a'
          exact ⟨is, rfl⟩
        | _ => unfold WShape.has at a; first | cases a | (simp [WShape.arms] at a)
  obtain ⟨is, rfl⟩ := ha
  refine ⟨is, rfl, ?_⟩
  have e : lrow.pre = .and (.not (.lt (.lit (.int 63)) (.len (.arg 0)))) (.lit (.bool true)) := rfl
  rw [e] at h2
  simp [WTm.holds, WTm.value] at h2
  have e2 : less? (WData.int 63) (WData.int (is.length : Int)) = some (decide ((63 : Int) < is.length)) := rfl
  rw [e2] at h2
  by_cases q : (63 : Int) < is.length
  · simp [q] at h2
  · omega
theorem law_at {w : World} {s₀ s : Shared} (L : Left w s₀ s) : ∃ f, s.heap.Ns mainGlobals f ∧ f fiL.name = some (.ref 984) := by
  obtain ⟨g, hg, hs, hl, hv⟩ := L.look
  have hm := L.main
  refine ⟨_, Heap.Ns.of_isNs hm, ?_⟩
  have hglob : globB g tT = true := by
    unfold sysB at hs
    simp only [Bool.and_eq_true] at hs
    exact hs.1.1.1.1.1.2
  simp only [globB, Bool.and_eq_true, List.all_eq_true] at hglob
  obtain ⟨⟨⟨g1, g2⟩, g3⟩, g4⟩ := hglob
  have q := g3 (fiL.name, .gl 984) (by
    have : (tT.globs.getLast?) = some (fiL.name, .gl 984) := by kernel_rfl
    exact List.mem_of_getLast? this)
  obtain ⟨v, hv, q⟩ := Option.any_eq_true _ _ |>.mp q
  have : v = .ref 984 := vB_of q
  subst this
  obtain ⟨o, es, n, ho, hd, hk, hf⟩ := ns_of hg g1
  obtain ⟨o', es', n', ho', hd', hk', hf'⟩ := Heap.Ns.of_isNs hm
  rw [ho] at ho'; cases ho'
  rw [hd] at hd'; cases hd'
  rw [← hf', hf]; exact hv
theorem holds_row (said : lrow.wellSaid = true) (H : LawWalk) : lrow.Holds := by
  refine ⟨said, row_prom, ⟨row_bare, row_opens, by kernel_rfl⟩, row_prom.witness, fun w => ⟨(head_behind w).1, fun s' hs' => ?_⟩⟩
  obtain ⟨s₀, hf, hg0, s, L⟩ := (head_behind w).2 s' hs'
  refine ⟨s₀, hf, hg0, s, L.ran, fun n hn => ?_, fun x hx => (List.not_mem_nil (show x ∈ ([] : List (Str × List (Str × WShape))) from hx)).elim, fun x hx => (List.not_mem_nil (show x ∈ ([] : List (Str × List (Str × WShape))) from hx)).elim, ?_⟩
  · have : n ∈ [fiL.name] := by
      have e : (if lrow.pinned then [lrow.name] else []) = [fiL.name] := by kernel_rfl
      rw [← e]; exact hn
    rw [List.mem_singleton] at this
    subst this; exact L.pin
  intro args hpre hlay ord hord
  obtain ⟨is, rfl, hlen⟩ := pre_args hpre
  obtain ⟨vals, e1, e2⟩ := lay_ints (R := lrow.toRowW.claim.records) (cl := classAt s.heap) (P := w.params) (ord := ord) is s
  have hlaid : layAllW lrow.toRowW.claim.records (classAt s.heap) w.params ord [.list (is.map .int)] s = some ([.ref s.heap.objs.size], { s with heap := s.heap.push (scriptObj vals), toks := s.toks + is.length }) := by
    unfold layAllW
    rw [show layW lrow.toRowW.claim.records (classAt s.heap) w.params ord (.list (is.map .int)) s = some (.ref s.heap.objs.size, { s with heap := s.heap.push (scriptObj vals), toks := s.toks + is.length }) from by unfold layW; rw [e1]]
    dsimp only
    rw [show ∀ s', layAllW lrow.toRowW.claim.records (classAt s.heap) w.params ord [] s' = some ([], s') from fun s' => by unfold layAllW; rfl]
  generalize hs₁ : ({ s with heap := s.heap.push (scriptObj vals), toks := s.toks + is.length } : Shared) = s₁ at hlaid
  have hh : s₁.heap = s.heap.push (scriptObj vals) := by rw [← hs₁]
  have keeps := layAllW_keeps _ _ _ hlaid
  have hal := layAllW_rest _ _ _ hlaid
  obtain ⟨as, hrd, hin, hold⟩ := reads_layAllW hord _ _ _ hlaid hlay s₁.heap (fun _ _ e => e)
  have LL : Laid lrow.toRowW.claim.records w s s₁ [.list (is.map .int)] [.ref s.heap.objs.size] as := ⟨⟨ord, hord, hlaid⟩, hrd, hin, hold, keeps, hal.1.trans L.gens, hal.2.2.1⟩
  have h := H w s₀ s L is vals s₁ hlen e2 hh (hal.1.trans L.gens) hal.2.2.1
  obtain ⟨mg, hmg, hlaw⟩ := law_at L
  have ht : wpC Clean (model pw w) callerA (callStub lrow.name [.ref s.heap.objs.size]).cur (fun fin s' => ∃ f, fin = .done f ∧ ((f = .ret (.bool true) ∧ (∀ b o, s₁.heap.get? b = some o → s'.heap.get? b = some o) ∧ s'.os = s₁.os ∧ s'.gens = #[]) ∧ leftWithCleanup s'.gens = false)) (fun e s' => False ∧ leftWithCleanup s'.gens = false) s₁ := by
    refine wpC_bind (wpC_of (wpAny_nsGet (hmg.keeps keeps) ?_))
    have e : lrow.name = fiL.name := by kernel_rfl
    rw [e, hlaw]
    refine wpC_bind (wpC_mono h (fun v s' q => ?_) fun _ _ x => x.elim)
    obtain ⟨rfl, q1, q2, q3⟩ := q
    refine wpC_pure ⟨_, rfl, ⟨rfl, q1, q2, q3⟩, ?_⟩
    exact leftWithCleanup_false_of_bare (AllBare.of_eq q3)
  have hz : s₁.asleep := Shared.asleep_of_life hal.2.2.2 L.asleep
  obtain ⟨k, r, s', s'', hrun, hsched, hfo, hR⟩ := ends_C (R := fun r s' => r = .ok (.ret (.bool true)) ∧ (∀ b o, s₁.heap.get? b = some o → s'.heap.get? b = some o) ∧ s'.os = s₁.os ∧ s'.gens = #[]) hz
    (wpC_mono ht (fun fin s' ⟨f, e, ⟨e1, q⟩, e2⟩ => ⟨f, e, ⟨by rw [e1], q⟩, e2⟩) fun _ _ x => x.1.elim)
  obtain ⟨rfl, q1, q2, q3⟩ := hR
  obtain ⟨eh, _, _, eo, _⟩ := Shared.forget_eq hfo
  obtain ⟨hsame, hu, ha, hap, hm⟩ := frees_parts (Bool.and_eq_true_iff.mp row_free).1
  have hi := ident_freeW hu ha hap
  have g : GoodWG lrow.toRowW.claim (classAt s.heap) (ExcName.means s.heap) [.list (is.map .int)] s₁ (.ok (.ret (.bool true))) s'' :=
    ⟨.inl ⟨_, .bool true, [], rfl, fun cls => rfl, .bool true, by kernel_rfl, fun _ => ⟨List.nodup_nil, fun a ha => by cases ha⟩⟩, .of_keep q1, q2, .of_eq (q3.trans (hal.1.trans L.gens).symm |>.trans (hal.1.trans L.gens))⟩
  have z := g.laid (c := lrow.toRowW.claim) hsame (List.isEmpty_iff.mp (Bool.and_eq_true_iff.mp row_free).2) hi LL
  have hcase := z.1.congr eh
  have hlife : s'.heap.life = s.heap.life := (runN_life _ _ _ hrun).trans hal.2.2.2
  refine ⟨_, s₁, hlaid, k, _, s', hsched, ?_, (fun _ i x hx => by rw [L.gens] at hx; simp at hx), (fun q => by cases q), by rw [hlife], Shared.rest_eq (by rw [eo]; exact q2.trans hal.2.2.1)⟩
  rcases hcase with ⟨v, e, d1, d2, d3, d4, d5⟩ | ⟨e, ob, cls, e1, d1, d2, d3, d4, d5⟩
  · exact .inl ⟨v, by cases e; rfl, d1, d2, d3, fun b o y _ => d4 b o y, d5⟩
  · cases e1
end Mine
end

section
set_option maxRecDepth 100000
set_option linter.unusedVariables false
open PySem PySem.W PySem.Calls PyProof.Rows
namespace Mine
noncomputable def atomV : MV → Bool
  | .obj _ => false
  | _ => true
theorem atom_rep {ρ ρ' : RMap} {a : MV} {v : Value} (h : atomV a = true) (r : VRep ρ a v) : VRep ρ' a v := by
  cases a <;> first | exact r | cases h
theorem atoms_rep {ρ ρ' : RMap} {as : List MV} {vs : List Value} (h : as.all atomV = true) (r : VsRep ρ as vs) : VsRep ρ' as vs := by
  induction r with
  | nil => exact .nil
  | cons x _ ih =>
    simp only [List.all_cons, Bool.and_eq_true] at h
    exact .cons (atom_rep h.1 x) (ih h.2)
noncomputable def hideV (ρ : RMap) : MV → MV
  | .obj i => (match ρ[i]? with
    | some p => .gl p.1
    | none => .none)
  | a => a
noncomputable def hideL (ρ : RMap) (loc : Loc) : Loc := loc.map fun p => (p.1, hideV ρ p.2)
theorem lookS_hide {ρ : RMap} {x : Str} : ∀ {loc : Loc}, lookS x (hideL ρ loc) = (lookS x loc).map (hideV ρ)
  | [] => rfl
  | (y, a) :: r => by
    show lookS x ((y, hideV ρ a) :: hideL ρ r) = _
    unfold lookS
    cases strEq x y with
    | true => rfl
    | false => exact lookS_hide
theorem hide_rep {ρ : RMap} {ρ' : RMap} {a : MV} {v : Value} (r : VRep ρ a v) : VRep ρ' (hideV ρ a) v := by
  cases a with
  | obj i =>
    obtain ⟨p, hp, rfl⟩ := r
    show VRep ρ' (match ρ[i]? with | some p => MV.gl p.1 | none => .none) _
    rw [hp]; rfl
  | _ => exact r
theorem NsRep.hide {ρ ρ' : RMap} {h : Heap} {L : Addr} {loc : Loc} (x : NsRep ρ h L loc) : NsRep ρ' h L (hideL ρ loc) := by
  obtain ⟨m, hm, hl⟩ := x
  refine ⟨m, hm, fun x a q => ?_⟩
  rw [lookS_hide] at q
  obtain ⟨b, hb, rfl⟩ := Option.map_eq_some_iff.mp q
  obtain ⟨v, e, r⟩ := hl x b hb
  exact ⟨v, e, hide_rep r⟩
theorem NsRep.show' {ρ ρ' : RMap} {h h' : Heap} {L : Addr} {loc : Loc} (x : NsRep ρ h L loc) (y : NsRep ρ' h' L (hideL ρ loc)) : NsRep ρ h' L loc := by
  obtain ⟨m, hm, hl⟩ := x
  obtain ⟨m', hm', hl'⟩ := y
  refine ⟨m', hm', fun x a q => ?_⟩
  obtain ⟨v, e, r⟩ := hl x a q
  obtain ⟨v', e', r'⟩ := hl' x (hideV ρ a) (by rw [lookS_hide, q]; rfl)
  refine ⟨v', e', ?_⟩
  cases a with
  | obj i =>
    obtain ⟨p, hp, rfl⟩ := r
    have r' : VRep ρ' (match ρ[i]? with | some p => MV.gl p.1 | none => .none) v' := r'
    rw [hp] at r'
    exact ⟨p, hp, r'⟩
  | _ => exact r'
noncomputable def hideF (ρ : RMap) (frs : List (Addr × Loc)) : List (Addr × Loc) := frs.map fun f => (f.1, hideL ρ f.2)
theorem hideF_fst {ρ : RMap} {frs : List (Addr × Loc)} : (hideF ρ frs).map (·.1) = frs.map (·.1) := by
  unfold hideF; rw [List.map_map]; rfl
noncomputable def keptOf (ρ : RMap) (h : Heap) : List (Addr × Obj) := (addrs ρ).map fun x => (x, (h.get? x).getD default)
theorem keptOf_fst {ρ : RMap} {h : Heap} : (keptOf ρ h).map (·.1) = addrs ρ := by
  unfold keptOf; rw [List.map_map]; exact (List.map_congr_left fun _ _ => rfl).trans (List.map_id _)
section
variable {S : Sys} {ρ ρ' : RMap} {kp : List (Addr × Obj)} {frs : List (Addr × Loc)} {objs objs' : List MO} {s s' : Shared}
theorem Stn.hide (I : Stn S ρ kp frs objs s) : Stn S [] (kp ++ keptOf ρ s.heap) (hideF ρ frs) [] s where
  base := I.base
  len := rfl
  obj := fun i o e => by cases e
  frm := fun f hf => by
    obtain ⟨g, hg, rfl⟩ := List.mem_map.mp hf
    exact (I.frm g hg).hide
  kept := fun p hp => by
    rcases List.mem_append.mp hp with hp | hp
    · exact I.kept p hp
    · obtain ⟨x, hx, rfl⟩ := List.mem_map.mp hp
      obtain ⟨o, ho⟩ := I.there (List.mem_append_right _ (List.mem_append_right _ hx))
      show s.heap.get? x = some ((s.heap.get? x).getD default)
      rw [ho]; rfl
  apart := by
    rw [hideF_fst, List.map_append, keptOf_fst]
    have := I.apart
    simpa [addrs] using this
  fresh := fun x hx => by
    rw [hideF_fst, List.map_append, keptOf_fst] at hx
    exact I.fresh x (by simpa [addrs] using hx)
  gens := I.gens
  os := I.os
  high := fun f hf a o e => by
    obtain ⟨g, hg, rfl⟩ := List.mem_map.mp hf
    exact I.high g hg a o e
theorem Stn.unhide (I : Stn S ρ kp frs objs s) (J : Stn S ρ' (kp ++ keptOf ρ s.heap) (hideF ρ frs) objs' s') : Stn S ρ kp frs objs s' where
  base := J.base
  len := I.len
  obj := fun i o e => by
    obtain ⟨p, hp, r⟩ := I.obj i o e
    refine ⟨p, hp, r.mono (List.prefix_refl _) fun b ob hb hg => ?_⟩
    have hm : b ∈ addrs ρ := mem_addrs.mpr ⟨i, p, hp, hb⟩
    have := J.kept (b, (s.heap.get? b).getD default) (List.mem_append_right _ (List.mem_map_of_mem (f := fun x => (x, (s.heap.get? x).getD default)) hm))
    rw [hg] at this
    exact this
  frm := fun f hf => (I.frm f hf).show' (J.frm _ (List.mem_map_of_mem (f := fun f => (f.1, hideL ρ f.2)) hf))
  kept := fun p hp => J.kept p (List.mem_append_left _ hp)
  apart := I.apart
  fresh := I.fresh
  gens := J.gens
  os := J.os
  high := I.high
end
noncomputable def outc : Out MV → Option (MV × Loc × List (Bool × Bool))
  | .ok a st ob => some (a, st.loc, ob)
  | _ => none
theorem outc_ok {o : Out MV} {a : MV} {l : Loc} {ob : List (Bool × Bool)} (h : outc o = some (a, l, ob)) : ∃ st, o = .ok a st ob ∧ st.loc = l := by
  cases o with
  | ok a' st' ob' => cases h; exact ⟨_, rfl, rfl⟩
  | _ => cases h
theorem frame_call {𝒞 : Ctx → Prop} {S : Sys} {T : Tabs} {n : Nat} {F : Fns} (H : FSnd 𝒞 S T n F) {Φ : Frm} {ρ₀ : RMap} {a : Addr} {args : List MV} {vs : List Value} {r : MV} {ob ob' : List (Bool × Bool)} {orc : List (Option Bool)}
    (ha : args.all atomV = true) (hr : atomV r = true) (hvs : VsRep ρ₀ args vs) (run : ∀ loc, outc (F.ca (.gl a) args ⟨[], loc, orc⟩) = some (r, loc, ob)) (hob : AllOk ob' → AllOk ob) :
    SndW 𝒞 S Φ n ρ₀ (fun st => .ok r st ob') (call (.ref a) vs) VRep := by
  intro A kp ρ st s Q E p hA I W
  obtain ⟨W1, W2⟩ := W
  let Φ' : Frm := { Φ with outer := hideF ρ Φ.outer }
  obtain ⟨st', e1, e2⟩ := outc_ok (run (hideL ρ st.loc))
  have hI : Stn S [] (kp ++ keptOf ρ s.heap) ((Φ'.L, hideL ρ st.loc) :: Φ'.outer) [] s := I.hide
  have hA' : AOkW Φ' A n := ⟨hA.frames, hA.depth, hA.units, hA.handled, EnvsAt.loc (by show Φ.L :: Φ.outer.map (·.1) = Φ.L :: (hideF ρ Φ.outer).map (·.1); rw [hideF_fst]) hA.envs⟩
  refine H.ca (Φ := Φ') (ρ₀ := []) a args vs (atoms_rep ha hvs) A _ [] ⟨[], hideL ρ st.loc, orc⟩ s _ _ (List.prefix_refl _) hA' hI ?_
  rw [e1]
  refine ⟨hob W1, fun ρ' v s' _ J hv => W2 ρ v s' (List.prefix_refl _) (I.unhide (by rw [e2] at J; exact J)) (atom_rep hr hv)⟩
end Mine
end

section
set_option maxRecDepth 100000
set_option linter.unusedVariables false
open PySem PySem.W PySem.Calls PyProof.Rows
namespace Mine
noncomputable abbrev N0 : Nat := 60
noncomputable def tl (l : List (Nat × List MV)) : Tabs := { tT with lists := l }
theorem SysAll.lists {S : Sys} {l : List (Nat × List MV)} (h : SysAll S tT) : SysAll S (tl l) where
  ok := ⟨h.ok.K, h.ok.limit, h.ok.cls, h.ok.calls, h.ok.fnsIn, h.ok.glob⟩
  e := fun C m hm => let x := h.e C m hm; ⟨x.ty, x.base, x.notTup, x.exc, x.self, x.sub⟩
  f := h.f
  m := h.m
  t := h.t
  ids := h.ids
noncomputable def hexc (d : Nat) : Nat := if d < 10 then 48 + d else 87 + d
noncomputable def textOf (g : Nat) : Str := ⟨⟨[49, 58, 58, hexc (g / 4096 % 16), hexc (g / 256 % 16), hexc (g / 16 % 16), hexc (g % 16)]⟩⟩
noncomputable def btextOf (g : Nat) : List UInt8 := [49, 58, 58, (hexc (g / 4096 % 16)).toUInt8, (hexc (g / 256 % 16)).toUInt8, (hexc (g / 16 % 16)).toUInt8, (hexc (g % 16)).toUInt8]
noncomputable def octOf (g : Nat) : List UInt8 := [0, 1, 0, 0, 0, 0, 0, 0, 0, 0, 0, 0, 0, 0, (g / 256).toUInt8, (g % 256).toUInt8]
noncomputable def escOk (i : Int) (x : Str) : Bool := decide (0 ≤ i ∧ i < 1000) && match x.cps.toList with
  | [c] => decide (33 ≤ c) && decide (c ≤ 126) && !(decide (48 ≤ c) && decide (c ≤ 57))
  | _ => false
noncomputable def caE (as : List MV) : EvM MV := match as with
  | [.int i, .str x] => fun st => .ok (.bool true) st [(escOk i x, true)]
  | _ => stop "contract"
noncomputable def caO (as : List MV) : EvM MV := match as with
  | [.int i] => fun st => .ok (.bool true) st []
  | _ => stop "contract"
noncomputable def caN (as : List MV) : EvM MV := match as with
  | [.int i, .int j] => fun st => .ok (.bool true) st []
  | _ => stop "contract"
noncomputable def caI2 (g : Nat) (c : Bool) (y : MV) : EvM MV := match y with
  | .bool true => fun st => .ok (.bytes (octOf g)) st [(c, true)]
  | _ => stop "contract"
noncomputable def caI (g : Nat) (as : List MV) : EvM MV := match as with
  | [.str x] => fun st => .ok (.bytes (octOf g)) st [(strEq x (textOf g), true)]
  | [.str x, y] => caI2 g (strEq x (textOf g)) y
  | [.bytes b, y] => caI2 g (u8sEq b (btextOf g)) y
  | _ => stop "contract"
noncomputable def caB (g : Nat) (a : Addr) (as : List MV) : EvM MV := match Nat.beq a 958 with
  | true => caE as
  | false => match Nat.beq a 965 with
    | true => caO as
    | false => match Nat.beq a 979 with
      | true => caN as
      | false => match Nat.beq a 532 with
        | true => caI g as
        | false => stop "contract"
noncomputable def Fb (g : Nat) : Fns := ⟨fun _ _ => stop "base", fun _ _ => stop "base", fun _ _ => stop "base", fun f as => match f with
  | .gl a => caB g a as
  | _ => stop "base"⟩
noncomputable def Says (T : Tabs) (a : Addr) (as : List MV) (r : MV) : Prop := ∃ orc ob, AllOk ob ∧ ∀ loc, outc ((fnsN T N0).1.ca (.gl a) as ⟨[], loc, orc⟩) = some (r, loc, ob)
structure SubLaws (T : Tabs) (g : Nat) : Prop where
  esc : ∀ i x, escOk i x = true → Says T 958 [.int i, .str x] (.bool true)
  ord : ∀ i, Says T 965 [.int i] (.bool true)
  near : ∀ i j, Says T 979 [.int i, .int j] (.bool true)
  in1 : Says T 532 [.str (textOf g)] (.bytes (octOf g))
  in2 : Says T 532 [.str (textOf g), .bool true] (.bytes (octOf g))
  in3 : Says T 532 [.bytes (btextOf g), .bool true] (.bytes (octOf g))
section
variable {𝒞 : Ctx → Prop} {S : Sys} {T : Tabs} {n : Nat} {F : Fns} {g : Nat}
theorem fsnd00 : FSnd 𝒞 S T n fns0 := ⟨fun _ _ => Snd.stop, fun _ _ => Snd.stop, fun _ _ => Snd.stop, fun _ _ _ _ => fun _ _ _ _ _ _ _ _ _ _ W => W.elim⟩
theorem SndW.stop {Φ : Frm} {ρ₀ : RMap} {w : String} {t : Sem Value} : SndW 𝒞 S Φ n ρ₀ (Mine.stop w : EvM MV) t VRep := fun _ _ _ _ _ _ _ _ _ _ W => W.elim
theorem says_call (H : FSnd 𝒞 S T N0 (fnsN T N0).1) {Φ : Frm} {ρ₀ : RMap} {a : Addr} {args : List MV} {vs : List Value} {r : MV} {b : Bool} (ha : args.all atomV = true) (hr : atomV r = true) (hvs : VsRep ρ₀ args vs)
    (q : b = true → Says T a args r) : SndW 𝒞 S Φ N0 ρ₀ (fun st => .ok r st [(b, true)]) (call (.ref a) vs) VRep := by
  intro A kp ρ st s Q E p hA I W
  have hb : b = true := W.1.1
  obtain ⟨orc, ob, h1, h2⟩ := q hb
  exact frame_call H ha hr hvs h2 (fun _ => h1) A kp ρ st s Q E p hA I W
theorem says_call0 (H : FSnd 𝒞 S T N0 (fnsN T N0).1) {Φ : Frm} {ρ₀ : RMap} {a : Addr} {args : List MV} {vs : List Value} {r : MV} (ha : args.all atomV = true) (hr : atomV r = true) (hvs : VsRep ρ₀ args vs)
    (q : Says T a args r) : SndW 𝒞 S Φ N0 ρ₀ (fun st => .ok r st []) (call (.ref a) vs) VRep := by
  obtain ⟨orc, ob, h1, h2⟩ := q
  exact frame_call H ha hr hvs h2 (fun _ => h1)
theorem fsnd_b (H : FSnd 𝒞 S T N0 (fnsN T N0).1) (L : SubLaws T g) : FSnd 𝒞 S T N0 (Fb g) := by
  refine ⟨fun _ _ => Snd.stop, fun _ _ => Snd.stop, fun _ _ => Snd.stop, fun {Φ ρ₀} a args vs hvs => ?_⟩
  show SndW 𝒞 S Φ N0 ρ₀ (caB g a args) _ _
  unfold caB
  cases h1 : Nat.beq a 958 with
  | true =>
    obtain rfl : a = 958 := Nat.eq_of_beq_eq_true h1
    cases args with
    | nil => exact SndW.stop
    | cons x r => cases x <;> first | exact SndW.stop | (cases r with
      | nil => exact SndW.stop
      | cons y r => cases y <;> first | exact SndW.stop | (cases r with
        | nil => exact says_call H rfl rfl hvs (L.esc _ _)
        | cons _ _ => exact SndW.stop))
  | false => cases h2 : Nat.beq a 965 with
    | true =>
      obtain rfl : a = 965 := Nat.eq_of_beq_eq_true h2
      cases args with
      | nil => exact SndW.stop
      | cons x r => cases x <;> first | exact SndW.stop | (cases r with
        | nil => exact says_call0 H rfl rfl hvs (L.ord _)
        | cons _ _ => exact SndW.stop)
    | false => cases h3 : Nat.beq a 979 with
      | true =>
        obtain rfl : a = 979 := Nat.eq_of_beq_eq_true h3
        cases args with
        | nil => exact SndW.stop
        | cons x r => cases x <;> first | exact SndW.stop | (cases r with
          | nil => exact SndW.stop
          | cons y r => cases y <;> first | exact SndW.stop | (cases r with
            | nil => exact says_call0 H rfl rfl hvs (L.near _ _)
            | cons _ _ => exact SndW.stop))
      | false => cases h4 : Nat.beq a 532 with
        | true =>
          obtain rfl : a = 532 := Nat.eq_of_beq_eq_true h4
          have k2 : ∀ (c : Bool) (y : MV) (x : MV), VsRep ρ₀ [x, y] vs → (∀ b, [x, .bool b].all atomV = true) → (c = true → Says T 532 [x, .bool true] (.bytes (octOf g))) → SndW 𝒞 S Φ N0 ρ₀ (caI2 g c y) (call (.ref 532) vs) VRep := by
            intro c y x hvs ha hc
            cases y <;> first | exact SndW.stop | (rename_i b; cases b with
              | true => exact says_call H (ha _) rfl hvs hc
              | false => exact SndW.stop)
          cases args with
          | nil => exact SndW.stop
          | cons x r => cases x <;> first | exact SndW.stop | (cases r with
            | nil => first | exact SndW.stop | exact says_call H rfl rfl hvs fun h => by rw [strEq_iff.mp h]; exact L.in1
            | cons y r => cases r with
              | cons _ _ => exact SndW.stop
              | nil => first
                | exact k2 _ y _ hvs (fun _ => rfl) fun h => by rw [strEq_iff.mp h]; exact L.in2
                | exact k2 _ y _ hvs (fun _ => rfl) fun h => by rw [u8sEq_iff.mp h]; exact L.in3)
        | false => exact SndW.stop
noncomputable def stepL (T : Tabs) (F : Fns) : Fns := ⟨exStep T true F fns0, trStep T F fns0, ssStep T true F, F.ca⟩
noncomputable def lawF (T : Tabs) (g : Nat) (k : Nat) : Fns := Nat.rec (Fb g) (fun _ F => stepL T F) k
theorem fsnd_l (Y : SysOk S T) (YE : SysE S T) (YI : SysI S T) (K : Closed 𝒞) (Lv : Leaves 𝒞 true S T) (Lv0 : Leaves AllC false S T) (H : FSnd 𝒞 S T n F) : FSnd 𝒞 S T n (stepL T F) :=
  ⟨fun e O => snd_exStep Y H fsnd00 Lv O e, fun e O => snd_trStep Y H fsnd00 Lv O e, fun l O => snd_ssStep Y YE YI K H Lv Lv0 O l, H.ca⟩
theorem fsnd_law (Y : SysOk S T) (YE : SysE S T) (YI : SysI S T) (YF : SysF S T) (YM : SysM S T) (Lv : Leaves Clean true S T) (Lv0 : Leaves AllC false S T) (L : SubLaws T g) : ∀ k, FSnd Clean S T N0 (lawF T g k)
  | 0 => fsnd_b (fsnd clean_closed Y YE YI YF YM Lv Lv0 N0).1 L
  | k + 1 => fsnd_l Y YE YI clean_closed Lv Lv0 (fsnd_law Y YE YI YF YM Lv Lv0 L k)
end
end Mine
end

section
set_option maxRecDepth 1000000
set_option linter.unusedVariables false
open PySem PySem.W PySem.Calls PyProof.Rows
namespace Mine
noncomputable def nLabel : Str := ⟨⟨[108, 97, 98, 101, 108]⟩⟩
noncomputable def nIsi : Str := ⟨⟨[105, 115, 105, 110, 115, 116, 97, 110, 99, 101]⟩⟩
noncomputable def nBytes : Str := ⟨⟨[98, 121, 116, 101, 115]⟩⟩
noncomputable def idEls : List Stmt := match (st0 17 : Stmt) with
  | .FunctionDef _ _ [.If _ _ l _] _ _ _ _ _ _ _ => l
  | _ => []
noncomputable def idBody : List Stmt := [.If (.Call (.Name nIsi ⟨54, 7, 54, 17⟩) [.Name nLabel ⟨54, 18, 54, 23⟩, .Name nBytes ⟨54, 25, 54, 30⟩] [] ⟨54, 7, 54, 31⟩) [.Return (some (.Name nLabel ⟨55, 15, 55, 20⟩)) ⟨55, 8, 55, 20⟩] idEls ⟨54, 4, 57, 29⟩]
noncomputable abbrev fiI : FnInfo := fnI (st0 17) [] 193
theorem id_body : fiI.body = idBody := by kernel_rfl
theorem id_fn : lookA 194 tT.fns = some fiI := by kernel_rfl
theorem id_params : fiI.params = [nLabel] := by kernel_rfl
theorem id_dflts : fiI.dflts = [] := rfl
theorem id_look : lookS nLabel fiI.scope.names = some .local ∧ lookS nIsi fiI.scope.names = some .globalImplicit ∧ lookS nBytes fiI.scope.names = some .globalImplicit := by refine ⟨?_, ?_, ?_⟩ <;> kernel_rfl
theorem id_glob : lookS nIsi tT.globs = none ∧ lookS nBytes tT.globs = none ∧ lookS nIsi tT.bltins = some (.bi .isinst) ∧ lookS nBytes tT.bltins = some (.bi .tbytes) := by refine ⟨?_, ?_, ?_, ?_⟩ <;> kernel_rfl
theorem sysI {S : Sys} {l : List (Nat × List MV)} (SA : SysAll S (tl l)) : SysI S (tl l) := by
  intro a ha
  refine ⟨SA.ids a ha, fun A E s b t Q hd hu hB hQ => ?_⟩
  obtain rfl : a = 194 := by
    have : ([194] : List Nat).any (Nat.beq a) = true := ha
    simp only [List.any_cons, List.any_nil, Bool.or_false] at this
    exact Nat.eq_of_beq_eq_true this
  have hf := SA.f 194 fiI id_fn
  obtain ⟨o, fd, dv, ho, hd', hbody, hsc, hgl, hcl, hbu, hcode, hdv, hb⟩ := hf.ex
  refine wpAny_call (codeC_all (codeC_call_function all_closed (Nat.lt_of_le_of_lt hd (by decide)) (hB _ _ ho) hd' (by rw [hsc]; exact hf.co) (by rw [hsc]; exact hf.gen) hbody (hcode.keeps hB) ?_))
  refine hb [.bytes b t] (by rw [id_params, id_dflts]; exact Nat.le_refl _) (by rw [id_params]; exact Nat.le_refl _) _ _ _ s _ hB ?_
  rw [hsc, hgl, hcl, hbu]
  obtain rfl : dv = [] := by rw [id_dflts] at hdv; cases hdv; rfl
  have hz : fiI.params.zip ([.bytes b t] ++ ([] : List Value).drop ([(.bytes b t : Value)].length - (fiI.params.length - fiI.dflts.length))) = [(nLabel, .bytes b t)] := by rw [id_params]; rfl
  rw [hz]
  have hk := hf.kind
  have hl : fiI.scope.names.lookup nLabel = some .local := by rw [← lookS_lookup]; exact id_look.1
  refine wpAny_newFunctionEnv hf.cells (fun x hx => by rw [List.mem_singleton] at hx; subst hx; exact hl) (fun h₁ hns hsb => ⟨(SA.ok.limit.keeps hB).fresh _ hsb, ?_⟩) hk
  refine codeC_func all_closed (wpC_of ?_)
  rw [id_body]
  have hB1 : ∀ b o, S.B.get? b = some o → h₁.get? b = some o := fun b o e => hsb.extBut b o (Nat.ne_of_lt (Heap.lt_size (hB _ _ e))) (Heap.get?_push_of_some _ (hB _ _ e))
  obtain ⟨mg, mb, hg, hbm, k1, k2⟩ := SA.ok.glob
  obtain ⟨n1, v1, e1, r1⟩ := k2 _ _ id_glob.1 id_glob.2.2.1
  obtain ⟨n2, v2, e2, r2⟩ := k2 _ _ id_glob.2.1 id_glob.2.2.2
  obtain rfl : v1 = .builtin "isinstance" := r1
  obtain rfl : v2 = .type "bytes" := r2
  refine wpAny_execs_cons (wpAny_If ?_)
  generalize hs1 : ({ s with heap := h₁, toks := _ } : Shared) = s1
  have hh : s1.heap = h₁ := by rw [← hs1]
  let env : Env := newEnv fiI.scope s.heap.objs.size mainGlobals [] (fd.qualname ++ ".<locals>.") (some 194) fd.code none builtinsNs
  have kl : env.kindOf nLabel = some .local := hl
  have ki : env.kindOf nIsi = some .globalImplicit := by show fiI.scope.names.lookup nIsi = _; rw [← lookS_lookup]; exact id_look.2.1
  have kb : env.kindOf nBytes = some .globalImplicit := by show fiI.scope.names.lookup nBytes = _; rw [← lookS_lookup]; exact id_look.2.2
  have dbg : ∀ x : Str, strEq x nDebug = false → (x == ("__debug__" : Str)) = false := fun x h => not_debug h
  have hns' : ∀ s2 : Shared, s2.heap = h₁ → s2.heap.Ns env.locals (fun x => List.lookup x [(nLabel, Value.bytes b t)].reverse) := fun s2 e => by rw [e]; exact hns
  have nameL : ∀ (s2 : Shared) (p : Pos) (Q : Value → Shared → Prop) (E : Value → Shared → Prop) (M : Model) (A : Around), s2.heap = h₁ → Q (.bytes b t) s2 → wpAny M A (eval (.Name nLabel p) env) Q E s2 := fun s2 p Q E M A e q =>
    wpAny_Name (wpAny_loadName_local hk kl (hns' s2 e) (by show List.lookup nLabel [(nLabel, Value.bytes b t)] = _; simp [List.lookup]) q) (dbg _ (by decide +kernel))
  have nameG : ∀ (x : Str) (v : Value) (s2 : Shared) (p : Pos) (Q : Value → Shared → Prop) (E : Value → Shared → Prop) (M : Model) (A : Around), strEq x nDebug = false → env.kindOf x = some .globalImplicit → mg x = none → mb x = some v → s2.heap = h₁ → Q v s2 → wpAny M A (eval (.Name x p) env) Q E s2 := fun x v s2 p Q E M A hx hkk h0 hv e q =>
    Calls.Name_function_global hk hkk (Calls.loadGlobal_builtin (by show s2.heap.Ns mainGlobals mg; rw [e]; exact hg.keeps hB1) h0 (by show s2.heap.Ns builtinsNs mb; rw [e]; exact hbm.keeps hB1) hv q) (dbg _ hx)
  show wpAny _ _ (eval (.Call (.Name nIsi ⟨54, 7, 54, 17⟩) [.Name nLabel ⟨54, 18, 54, 23⟩, .Name nBytes ⟨54, 25, 54, 30⟩] [] ⟨54, 7, 54, 31⟩) env >>= fun v => standAt _ >>= fun _ => holding [v] (truthy v)) _ _ s1
  refine wpAny_bind (wpAny_Call_ofName (nameG nIsi _ s1 _ _ _ _ _ (by decide +kernel) ki n1 e1 hh ?_))
  refine callWith_of (P := fun h => S.K.In h) rfl (fun h X => keeper_bi .isinst) (Calls.evalArgs_plain (x := eval (.Name nLabel _) env) (rest := [(false, eval (.Name nBytes _) env)]) ?_)
  refine Calls.spliced_cons (nameL s1 _ _ _ _ _ hh (Calls.spliced_cons (nameG nBytes _ s1 _ _ _ _ _ (by decide +kernel) kb n2 e2 hh (Calls.spliced_nil ⟨?_, ?_⟩))))
  · intro a o e; rw [hh]; exact hB1 a o (SA.ok.K a o e)
  · refine isi_bytes_bytes ?_
    refine wpAny_bind (wpAny_standAt (wpAny_holding (wpAny_truthy_bool ?_)))
    dsimp only
    rw [if_pos rfl]
    refine wpAny_execs_cons (wpAny_Return_some (nameL s1 _ _ _ _ _ hh ?_))
    refine hQ s1 ⟨h₁, _, hs1.symm, fun b o e => hsb.extBut b o (Nat.ne_of_lt (Heap.lt_size e)) (Heap.get?_push_of_some _ e)⟩
end Mine
end

section
set_option maxRecDepth 1000000
set_option linter.unusedVariables false
open PySem PySem.W PySem.Calls PyProof.Rows
namespace Mine
noncomputable def nScript : Str := ⟨⟨[115, 99, 114, 105, 112, 116]⟩⟩
noncomputable def nNumbers : Str := ⟨⟨[110, 117, 109, 98, 101, 114, 115]⟩⟩
noncomputable def nSign : Str := ⟨⟨[115, 105, 103, 110]⟩⟩
noncomputable def nGroup : Str := ⟨⟨[103, 114, 111, 117, 112]⟩⟩
noncomputable def nText : Str := ⟨⟨[116, 101, 120, 116]⟩⟩
noncomputable def nOctets : Str := ⟨⟨[111, 99, 116, 101, 116, 115]⟩⟩
noncomputable def nK : Str := ⟨⟨[107]⟩⟩
noncomputable def sL (i : Nat) : Stmt := (fiL.body[i]?).getD (.Pass default)
theorem body_eq : fiL.body = [sL 0, sL 1, sL 2, sL 3, sL 4, sL 5, sL 6, sL 7] := by kernel_rfl
noncomputable def hexS : Str := ⟨⟨[48, 49, 50, 51, 52, 53, 54, 55, 56, 57, 97, 98, 99, 100, 101, 102]⟩⟩
noncomputable def pfxS : Str := ⟨⟨[49, 58, 58]⟩⟩
noncomputable def empS : Str := ⟨⟨[]⟩⟩
noncomputable def scK : Scope := { kind := .function, names := [(⟨⟨[46, 48]⟩⟩, .local), (nK, .local), (nGroup, .free)], isGenerator := false, isCoroutine := false, more := [] }
noncomputable def eltK : Expr := .Subscript (.Constant (.str hexS) 0 ⟨906, 28, 906, 46⟩) (.BinOp (.BinOp (.Name nGroup ⟨906, 47, 906, 52⟩) .FloorDiv (.BinOp (.Constant (.int 16) 0 ⟨906, 56, 906, 58⟩) .Pow (.Name nK ⟨906, 62, 906, 63⟩) ⟨906, 56, 906, 63⟩) ⟨906, 47, 906, 63⟩) .Mod (.Constant (.int 16) 0 ⟨906, 66, 906, 68⟩) ⟨906, 47, 906, 68⟩) ⟨906, 28, 906, 69⟩
noncomputable def iterK : Expr := .Tuple [.Constant (.int 3) 0 ⟨906, 80, 906, 81⟩, .Constant (.int 2) 0 ⟨906, 83, 906, 84⟩, .Constant (.int 1) 0 ⟨906, 86, 906, 87⟩, .Constant (.int 0) 0 ⟨906, 89, 906, 90⟩] 0 ⟨906, 79, 906, 91⟩
noncomputable def compK : Expr := .ListComp eltK [⟨.Name nK ⟨906, 74, 906, 75⟩, iterK, [], 0⟩] scK ⟨906, 27, 906, 92⟩
theorem sL5 : sL 5 = .Assign [.Name nText ⟨906, 4, 906, 8⟩] (.BinOp (.Constant (.str pfxS) 0 ⟨906, 11, 906, 16⟩) .Add (.Call (.Attribute (.Constant (.str empS) 0 ⟨906, 19, 906, 21⟩) "join" ⟨906, 19, 906, 26⟩) [compK] [] ⟨906, 19, 906, 93⟩) ⟨906, 11, 906, 93⟩) ⟨906, 4, 906, 93⟩ := by kernel_rfl
theorem hex_at (d : Nat) (h : d < 16) : (seqIndex? (d : Int) hexS.length).bind (hexS.cps[·]?) = some (hexc d) := by
  have : ∀ d : Fin 16, (seqIndex? ((d.val : Nat) : Int) hexS.length).bind (hexS.cps[·]?) = some (hexc d.val) := by decide +kernel
  exact this ⟨d, h⟩
section
variable {S : Sys} {A : Around} {env : Env} {c : Addr} {g : Nat}
structure CellEnv (env : Env) (c : Addr) : Prop where
  kind : env.scope.kind = .function
  grp : env.kindOf nGroup = some .cell
  cells : env.cells = [(nGroup, c)]
theorem closure_k (h : CellEnv env c) : closureFor scK env = pure [(nGroup, c)] := by
  have hl : env.cells.lookup nGroup = some c := by rw [h.cells]; simp [List.lookup]
  unfold closureFor scK cellOf
  simp only [List.forIn_cons, List.forIn_nil, pure_bind, hl]
  rfl
theorem relabel_k (h : CellEnv env c) : relabel scK env = { scK with names := [(⟨⟨[46, 48]⟩⟩, .local), (nK, .local), (nGroup, .cell)] } := by
  unfold relabel scK
  simp only [List.map_cons, List.map_nil, h.kind, h.grp]
  rfl
noncomputable def IsG (g : Nat) (h : Heap) (c : Addr) : Prop := ∃ t, h.IsCell c (some (.int (g : Int) t))
theorem IsG.keeps {h h' : Heap} (x : IsG g h c) (hk : ∀ b o, h.get? b = some o → h'.get? b = some o) : IsG g h' c := let ⟨t, q⟩ := x; ⟨t, q.keeps hk⟩
theorem elt_k (h : CellEnv env c) (hh : A.handled = none) (hd : A.depth ≤ 900) (hu : A.units ≤ 9000) {C : Addr} {j : Nat} (hj : j ≤ 3) {u : Tok} {s : Shared} {m : Str → Option Value} {E : Value → Shared → Prop} {Q : Value → Shared → Prop}
    (hC : s.heap.Ns C m) (hm : m nK = some (.int (j : Int) u)) (hg : IsG g s.heap c) (hQ : ∀ t k, Q (.str ⟨⟨[hexc (g / 16 ^ j % 16)]⟩⟩ t) { s with toks := k }) :
    wpAny (model pw S.w) A (eval eltK (compEnvC scK [(nGroup, c)] C env)) Q E s := by
  obtain ⟨t, hg⟩ := hg
  have hk : (compEnvC scK [(nGroup, c)] C env).scope.kind = .function := by show (relabel scK env).kind = _; rw [relabel_k h]; rfl
  have kK : (compEnvC scK [(nGroup, c)] C env).kindOf nK = some .local := by show (relabel scK env).names.lookup nK = _; rw [relabel_k h]; decide +kernel
  have kG : (compEnvC scK [(nGroup, c)] C env).kindOf nGroup = some .cell := by show (relabel scK env).names.lookup nGroup = _; rw [relabel_k h]; decide +kernel
  have cG : (compEnvC scK [(nGroup, c)] C env).cells.lookup nGroup = some c := by show List.lookup nGroup [(nGroup, c)] = _; simp [List.lookup]
  unfold eltK
  rw [eval_Subscript]
  refine wpAny_bind (wpAny_Constant_str (wpAny_bind (wpAny_holding (wpAny_BinOp (wpAny_BinOp (wpAny_Name (wpAny_loadName_cell hk kG cG hg (wpAny_BinOp (wpAny_Constant_int (wpAny_Name (wpAny_loadName_local hk kK hC hm ?_) (not_debug (by decide +kernel)))))) (not_debug (by decide +kernel))))))))
  refine leaf_pow (S := S) (hd := false) (i := 16) (j := (j : Int)) ⟨rfl, by omega, by omega⟩ A _ _ _ (fun _ => hh) hd hu fun v k hv => ?_
  obtain ⟨t1, rfl⟩ := hv
  have hp : ((16 : Int) ^ (j : Int).toNat) = ((16 ^ j : Nat) : Int) := by simp
  have hlt : 16 ^ j ≤ 4096 := Nat.le_trans (Nat.pow_le_pow_right (by decide) hj) (by decide)
  have hpos : 0 < 16 ^ j := Nat.pow_pos (by decide)
  rw [hp]
  refine leaf_div (S := S) (hd := false) (by omega) (by rw [Int.natAbs_natCast]; omega) A _ _ _ (fun _ => hh) hd hu fun v k hv => ?_
  obtain ⟨t2, rfl⟩ := hv
  refine wpAny_Constant_int ?_
  refine leaf_mod (S := S) (hd := false) (by decide) A _ _ _ (fun _ => hh) hd hu fun v k hv => ?_
  obtain ⟨t3, rfl⟩ := hv
  have e : (((g : Int).fdiv ((16 ^ j : Nat) : Int)).fmod 16) = ((g / 16 ^ j % 16 : Nat) : Int) := by
    rw [Int.fdiv_eq_ediv_of_nonneg _ (by omega), Int.fmod_eq_emod_of_nonneg _ (by omega)]
    omega
  rw [e]
  have h16 : g / 16 ^ j % 16 < 16 := Nat.mod_lt _ (by decide)
  generalize g / 16 ^ j % 16 = d at h16 hQ ⊢
  refine wpAny_bind (wpAny_standAt (subTail (typeIs_str _ _ _) F.slot_str_getitem.lookup (P.getItem_str (c := hexc d) ?_ (hex_at d h16) (hQ _ _)) (subscripted_plain (fun l r p q => by cases q) _ _)))
  have e63 : (2 : Int) ^ 63 = 9223372036854775808 := by decide
  simp only [Bool.or_eq_false_iff, decide_eq_false_iff_not, e63]; omega
theorem comp_k (h : CellEnv env c) (hh : A.handled = none) (hd : A.depth ≤ 900) (hu : A.units ≤ 9000) {s : Shared} {E : Value → Shared → Prop} {Q : Value → Shared → Prop} (hg : IsG g s.heap c)
    (hQ : ∀ D ys h' tk, h'.IsList D ys → StrsAre ys.toList [⟨⟨[hexc (g / 16 ^ 3 % 16)]⟩⟩, ⟨⟨[hexc (g / 16 ^ 2 % 16)]⟩⟩, ⟨⟨[hexc (g / 16 ^ 1 % 16)]⟩⟩, ⟨⟨[hexc (g / 16 ^ 0 % 16)]⟩⟩] → (∀ b o, s.heap.get? b = some o → h'.get? b = some o) → Q (.ref D) { s with heap := h', toks := tk }) :
    wpAny (model pw S.w) A (eval compK env) Q E s := by
  unfold compK
  refine wpAny_ListComp_free (fun _ => true) (fun v y => ∀ (j : Nat) t, v = .int (j : Int) t → ∃ t', y = .str ⟨⟨[hexc (g / 16 ^ j % 16)]⟩⟩ t') (closure_k h) (by unfold scK; decide +kernel) rfl (by unfold scK; decide +kernel) (by decide +kernel) ?_ (folded_no rfl)
  unfold iterK
  refine wpAny_Tuple ?_
  show wpAny _ _ (spliced [(false, eval (.Constant (.int 3) 0 ⟨906, 80, 906, 81⟩) env), (false, eval (.Constant (.int 2) 0 ⟨906, 83, 906, 84⟩) env), (false, eval (.Constant (.int 1) 0 ⟨906, 86, 906, 87⟩) env), (false, eval (.Constant (.int 0) 0 ⟨906, 89, 906, 90⟩) env)]) _ _ _
  refine Calls.spliced_cons (wpAny_Constant_int (Calls.spliced_cons (wpAny_Constant_int (Calls.spliced_cons (wpAny_Constant_int (Calls.spliced_cons (wpAny_Constant_int (Calls.spliced_nil ⟨(show 4 ≤ sizeLine by decide), ?_⟩))))))))
  dsimp only
  generalize hit : ([Value.int 3 s.toks, .int 2 (s.toks + 1), .int 1 (s.toks + 1 + 1), .int 0 (s.toks + 1 + 1 + 1)] : List Value).toArray = items
  generalize hs1 : ({ s with heap := s.heap.push { cls := .type "tuple", data := .seq items }, toks := _ } : Shared) = s1
  have hT : s1.heap.IsTuple s.heap.objs.size items := by rw [← hs1]; exact ⟨_, Heap.get?_push_size _ rfl, rfl, _, rfl⟩
  have hk1 : ∀ b o, s.heap.get? b = some o → s1.heap.get? b = some o := fun b o e => by rw [← hs1]; exact Heap.get?_push_of_some _ e
  refine wpAny_pyIter_tuple hT ?_
  generalize hs2 : ({ s1 with heap := s1.heap.push { cls := .type "tuple_iterator", data := .fields #[.ref s.heap.objs.size, .int 0 0] } } : Shared) = s2
  have hk2 : ∀ b o, s1.heap.get? b = some o → s2.heap.get? b = some o := fun b o e => by rw [← hs2]; exact Heap.get?_push_of_some _ e
  have hI2 : s2.heap.IsTupleIter s1.heap.objs.size s.heap.objs.size 0 := by rw [← hs2]; exact ⟨_, Heap.get?_push_size _ rfl, rfl, rfl⟩
  have hT2 : s2.heap.IsTuple s.heap.objs.size items := let ⟨o, ho, r⟩ := hT; ⟨o, hk2 _ _ ho, r⟩
  have hsz1 : s1.heap.objs.size = s.heap.objs.size + 1 := by rw [← hs1, Heap.size_push]
  have hne : s.heap.objs.size ≠ s1.heap.objs.size := by omega
  have hitn : items.size = 4 := by rw [← hit]; rfl
  refine ⟨s1.heap.objs.size, _, _, items.size, _, _, rfl, Walks.tuple hh s1.heap.objs.size s.heap.objs.size hne items, by rw [hitn]; decide, ⟨hI2, hT2⟩, fun b hb => ?_, ⟨fun C i v s₃ m₃ E' _ _ _ _ _ _ => ?_, fun C i v s₃ m₃ E' hC hP _ hns hm hk htk => ?_⟩, fun D h' tk ys vs hD hl hpl hlen hP hF hk => ?_⟩
  · have hsz2 : s2.heap.objs.size = s1.heap.objs.size + 1 := by rw [← hs2, Heap.size_push]
    simp only [List.mem_cons, List.not_mem_nil, or_false] at hb
    rcases hb with rfl | rfl
    · exact Nat.lt_of_lt_of_eq (Nat.lt_succ_self _) hsz2.symm
    · exact Nat.lt_of_lt_of_eq (Nat.lt_succ_of_lt (Nat.lt_of_lt_of_eq (Nat.lt_succ_self _) hsz1.symm)) hsz2.symm
  · rw [List.forIn_nil]
    exact wpAny_pure ⟨rfl, s₃.heap, s₃.toks, rfl, fun _ _ h => h⟩
  · have hcI : c ≠ s1.heap.objs.size := by
      obtain ⟨t, q⟩ := hg
      exact Nat.ne_of_lt (Nat.lt_trans q.lt (Nat.lt_of_lt_of_eq (Nat.lt_succ_self _) hsz1.symm))
    have hg3 : IsG g s₃.heap c := by
      obtain ⟨t, o, ho, q⟩ := hg
      exact ⟨t, o, hk c o (by simpa using hcI) (hk2 _ _ (hk1 _ _ ho)), q⟩
    have hv : ∃ (j : Nat) (u : Tok), j ≤ 3 ∧ v = .int (j : Int) u := by
      have hi4 : i < 4 := by
        have := (Array.getElem?_eq_some_iff.mp hP).1; omega
      rw [← hit] at hP
      have h4 : i = 0 ∨ i = 1 ∨ i = 2 ∨ i = 3 := by omega
      rcases h4 with rfl | rfl | rfl | rfl
      · exact ⟨3, _, by decide, (by simpa using hP.symm)⟩
      · exact ⟨2, _, by decide, (by simpa using hP.symm)⟩
      · exact ⟨1, _, by decide, (by simpa using hP.symm)⟩
      · exact ⟨0, _, by decide, (by simpa using hP.symm)⟩
    obtain ⟨j, u, hj, rfl⟩ := hv
    refine elt_k h hh hd hu hj hns hm hg3 fun t k => ⟨fun j' t' e => ?_, s₃.heap, k, rfl, fun _ _ h => h⟩
    simp only [Value.int.injEq, Int.natCast_inj] at e
    obtain ⟨rfl, _⟩ := e
    exact ⟨t, rfl⟩
  · have hvs : vs = items.toList := by
      refine List.ext_getElem? fun i => ?_
      by_cases hi : i < vs.length
      · have := hP i vs[i] (List.getElem?_eq_getElem hi)
        rw [List.getElem?_eq_getElem hi, Array.getElem?_toList, this]
      · rw [List.getElem?_eq_none (by omega), List.getElem?_eq_none (by rw [Array.length_toList]; omega)]
    have hF2 : Paired (fun v y => ∀ (j : Nat) t, v = .int (j : Int) t → ∃ t', y = .str ⟨⟨[hexc (g / 16 ^ j % 16)]⟩⟩ t') items.toList ys.toList := by
      have : vs.filter (fun _ => true) = items.toList := by rw [hvs]; simp
      rw [← this]; exact hF
    rw [← hit] at hF2
    have hst : StrsAre ys.toList [⟨⟨[hexc (g / 16 ^ 3 % 16)]⟩⟩, ⟨⟨[hexc (g / 16 ^ 2 % 16)]⟩⟩, ⟨⟨[hexc (g / 16 ^ 1 % 16)]⟩⟩, ⟨⟨[hexc (g / 16 ^ 0 % 16)]⟩⟩] := by
      generalize ys.toList = l at hF2
      cases hF2 with
      | cons a r =>
        cases r with
        | cons b r =>
          cases r with
          | cons c r =>
            cases r with
            | cons d r =>
              cases r
              obtain ⟨t1, rfl⟩ := a 3 _ rfl
              obtain ⟨t2, rfl⟩ := b 2 _ rfl
              obtain ⟨t3, rfl⟩ := c 1 _ rfl
              obtain ⟨t4, rfl⟩ := d 0 _ rfl
              exact .cons _ _ (.cons _ _ (.cons _ _ (.cons _ _ .nil)))
    have hkk : ∀ b o, s.heap.get? b = some o → h'.get? b = some o := fun b o e => hk b o (by
      have := Heap.lt_size e
      rw [List.mem_singleton]
      exact Nat.ne_of_lt (Nat.lt_trans this (Nat.lt_of_lt_of_eq (Nat.lt_succ_self _) hsz1.symm))) (hk2 _ _ (hk1 _ _ e))
    have := hQ D ys h' tk hl hst hkk
    rw [← hs2, ← hs1]
    exact this
theorem stmt5 {x : Stmt} (hx : x = sL 5) (h : CellEnv env c) (hh : A.handled = none) (hd : A.depth ≤ 900) (hu : A.units ≤ 9000) (ht : env.kindOf nText = some .local) {s : Shared} {m : Str → Option Value} {E : Value → Shared → Prop} {Q : Flow → Shared → Prop} (hg : IsG g s.heap c) (hm : s.heap.Ns env.locals m)
    (hQ : ∀ h' tk t, h'.Ns env.locals (fun z => if z = nText then some (.str (textOf g) t) else m z) → (∀ b o, b ≠ env.locals → s.heap.get? b = some o → h'.get? b = some o) → Q .next { s with heap := h', toks := tk }) :
    wpAny (model pw S.w) A (exec x env) Q E s := by
  rw [hx, sL5]
  have hsw : ∀ (v : Expr) (t : Option Expr) (l : Nat), plainV v = true → swapsWith v t l env = pure false := fun v t l h => swaps_no h
  generalize hv : (Expr.Call (.Attribute (.Constant (.str empS) 0 ⟨906, 19, 906, 21⟩) "join" ⟨906, 19, 906, 26⟩) [compK] [] ⟨906, 19, 906, 93⟩) = callE
  refine wpAny_Assign_Name ?_ (hsw _ _ _ rfl)
  refine wpAny_BinOp ?_
  refine wpAny_Constant_str ?_
  rw [← hv]
  have hs1 : starEach [compK] env = [(false, eval compK env)] := star_cons compK (fun x p => by unfold compK; intro q; cases q) [] env
  refine Call_method1 (prog := pw) (w := S.w) ?_ ?_ ?_ ?_
  · exact base_ok rfl
  · exact hs1
  · decide
  refine wpAny_Constant_str ?_
  refine ⟨"str", "str.join", F.plainAttrs_str, ?_, ?_, typeIs_str _ _ _, (fun _ e => nomatch e), ?_⟩
  · with_reducible exact F.slot_str_join
  · with_reducible exact F.type_str_join
  refine callWith_of (P := fun h => True) rfl (fun h X => keeper_builtin "str.join") (Calls.evalArgs_plain (x := eval compK env) (rest := []) ?_)
  refine Calls.spliced_cons (comp_k h hh hd hu hg fun D ys h' tk hl hs hk => Calls.spliced_nil ⟨trivial, ?_⟩)
  refine join_list (s := { s with heap := h', toks := tk }) hl hs (by show (4 : Nat) + 4 * 0 ≤ 16777216; decide) fun t' k => ?_
  have ej : Txt.join empS [⟨⟨[hexc (g / 16 ^ 3 % 16)]⟩⟩, ⟨⟨[hexc (g / 16 ^ 2 % 16)]⟩⟩, ⟨⟨[hexc (g / 16 ^ 1 % 16)]⟩⟩, ⟨⟨[hexc (g / 16 ^ 0 % 16)]⟩⟩] = ⟨⟨[hexc (g / 4096 % 16), hexc (g / 256 % 16), hexc (g / 16 % 16), hexc (g / 1 % 16)]⟩⟩ := by rfl
  rw [ej, Nat.div_one]
  refine leaf_adds (S := S) (hd := false) (by show 3 + 4 ≤ line; decide) A _ _ _ (fun _ => hh) hd hu fun v k' hv => ?_
  obtain ⟨t2, rfl⟩ := hv
  refine wpAny_storeName_local ht (hm.keeps hk) (fun h'' hn' hs' => ?_) (by rw [h.kind]; rfl)
  refine hQ h'' _ t2 hn' fun b o hb e => (hs'.2 b hb).trans (hk b o e)
noncomputable def bigS : Str := ⟨⟨[98, 105, 103]⟩⟩
noncomputable def leftO : Expr := .BinOp (.Constant (.bytes [0, 1]) 0 ⟨907, 13, 907, 24⟩) .Add (.BinOp (.Constant (.bytes [0]) 0 ⟨907, 27, 907, 34⟩) .Mult (.Constant (.int 12) 0 ⟨907, 37, 907, 39⟩) ⟨907, 27, 907, 39⟩) ⟨907, 13, 907, 39⟩
theorem sL6 : sL 6 = .Assign [.Name nOctets ⟨907, 4, 907, 10⟩] (.BinOp leftO .Add (.Call (.Attribute (.Name nGroup ⟨907, 42, 907, 47⟩) "to_bytes" ⟨907, 42, 907, 56⟩) [.Constant (.int 2) 0 ⟨907, 57, 907, 58⟩, .Constant (.str bigS) 0 ⟨907, 60, 907, 65⟩] [] ⟨907, 42, 907, 66⟩) ⟨907, 13, 907, 66⟩) ⟨907, 4, 907, 66⟩ := by kernel_rfl
theorem two_bytes {g : Nat} (hg : g < 65536) {b : Array UInt8} (hb : KBw.bInts b = (KTBy.little 2 (g : Int)).reverse) (hl : (KTBy.little 2 (g : Int)).reverse.length = 2) : b = [(g / 256).toUInt8, (g % 256).toUInt8].toArray := by
  have e : (KTBy.little 2 (g : Int)).reverse = [(g : Int) / 256 % 256, (g : Int) % 256] := rfl
  rw [e] at hb
  obtain ⟨l⟩ := b
  unfold KBw.bInts at hb
  dsimp only at hb
  cases l with
  | nil => cases hb
  | cons x l =>
    cases l with
    | nil => simp at hb
    | cons y l =>
      cases l with
      | cons _ _ => simp at hb
      | nil =>
        simp only [List.map_cons, List.map_nil, List.cons.injEq, and_true] at hb
        obtain ⟨h1, h2⟩ := hb
        have hx : x = (g / 256).toUInt8 := by
          apply UInt8.toNat_inj.mp
          show x.toNat = (UInt8.ofNat (g / 256)).toNat
          rw [UInt8.toNat_ofNat']; omega
        have hy : y = (g % 256).toUInt8 := by
          apply UInt8.toNat_inj.mp
          show y.toNat = (UInt8.ofNat (g % 256)).toNat
          rw [UInt8.toNat_ofNat']; omega
        rw [hx, hy]
theorem stmt6 {x : Stmt} (hx : x = sL 6) (h : CellEnv env c) (hg6 : g < 65536) (hh : A.handled = none) (hd : A.depth ≤ 900) (hu : A.units ≤ 9000) (ht : env.kindOf nOctets = some .local) {s : Shared} {m : Str → Option Value} {E : Value → Shared → Prop} {Q : Flow → Shared → Prop} (hg : IsG g s.heap c) (hm : s.heap.Ns env.locals m)
    (hQ : ∀ h' tk t, h'.Ns env.locals (fun z => if z = nOctets then some (.bytes (octOf g).toArray t) else m z) → (∀ b o, b ≠ env.locals → s.heap.get? b = some o → h'.get? b = some o) → Q .next { s with heap := h', toks := tk }) :
    wpAny (model pw S.w) A (exec x env) Q E s := by
  rw [hx, sL6]
  have hsw : ∀ (v : Expr) (t : Option Expr) (l : Nat), plainV v = true → swapsWith v t l env = pure false := fun v t l h => swaps_no h
  generalize hv : (Expr.Call (.Attribute (.Name nGroup ⟨907, 42, 907, 47⟩) "to_bytes" ⟨907, 42, 907, 56⟩) [.Constant (.int 2) 0 ⟨907, 57, 907, 58⟩, .Constant (.str bigS) 0 ⟨907, 60, 907, 65⟩] [] ⟨907, 42, 907, 66⟩) = callE
  refine wpAny_Assign_Name ?_ (hsw _ _ _ rfl)
  refine wpAny_BinOp ?_
  unfold leftO
  refine wpAny_BinOp (PySem.W.Constant_bytes (wpAny_BinOp (PySem.W.Constant_bytes (wpAny_Constant_int ?_))))
  refine leaf_mulb (S := S) (hd := false) (l := [0]) rfl (by decide) (by decide) A _ _ _ (fun _ => hh) hd hu fun v k hv => ?_
  obtain ⟨t1, rfl⟩ := hv
  refine leaf_addb (S := S) (hd := false) (l := [0, 1]) (by show 2 + 12 ≤ line; decide) A _ _ _ (fun _ => hh) hd hu fun v k hv => ?_
  obtain ⟨t2, rfl⟩ := hv
  rw [← hv]
  obtain ⟨tg, hgc⟩ := hg
  have hs2 : starEach [.Constant (.int 2) 0 ⟨907, 57, 907, 58⟩, .Constant (.str bigS) 0 ⟨907, 60, 907, 65⟩] env = [(false, eval (.Constant (.int 2) 0 ⟨907, 57, 907, 58⟩) env), (false, eval (.Constant (.str bigS) 0 ⟨907, 60, 907, 65⟩) env)] := rfl
  refine Call_method2 (prog := pw) (w := S.w) ?_ ?_ ?_ ?_
  · exact base_ok rfl
  · exact hs2
  · decide
  have cG : env.cells.lookup nGroup = some c := by rw [h.cells]; simp [List.lookup]
  refine wpAny_Name (wpAny_loadName_cell h.kind h.grp cG hgc ?_) (not_debug (by decide +kernel))
  refine ⟨"int", "int.to_bytes", ?_, ?_, ?_, typeIs_int _ _ _, (fun _ e => nomatch e), ?_⟩
  · exact F.plainAttrs_int
  · with_reducible exact KTBy.slot
  · with_reducible exact KTBy.type_eq
  refine callWith_of (P := fun h => True) rfl (fun h X => keeper_builtin "int.to_bytes") (Calls.evalArgs_plain (x := eval (.Constant (.int 2) 0 ⟨907, 57, 907, 58⟩) env) (rest := [(false, eval (.Constant (.str bigS) 0 ⟨907, 60, 907, 65⟩) env)]) ?_)
  refine Calls.spliced_cons (wpAny_Constant_int (Calls.spliced_cons (wpAny_Constant_str (Calls.spliced_nil ⟨trivial, ?_⟩))))
  have eb : bigS = PySem.Str.ofString "big" := by decide +kernel
  rw [eb]
  refine KTBy.to_big (k := 2) (x := (g : Int)) (B := 65536) (by decide) (by decide) (by omega) (by omega) fun b t' k' hb hl => ?_
  obtain rfl := two_bytes hg6 hb hl
  refine leaf_addb (S := S) (hd := false) (l := [0, 1] ++ (List.replicate (12 : Int).toNat [0]).flatten) (by show 14 + 2 ≤ line; decide) A _ _ _ (fun _ => hh) hd hu fun v k hv => ?_
  obtain ⟨t3, rfl⟩ := hv
  refine wpAny_storeName_local ht hm (fun h'' hn' hs' => ?_) (by rw [h.kind]; rfl)
  exact hQ h'' _ t3 hn' fun b o hb e => (hs'.2 b hb).trans e
end
end Mine
end

section
set_option maxRecDepth 1000000
set_option maxHeartbeats 0
set_option linter.unusedVariables false
open PySem PySem.W PySem.Calls PyProof.Rows
namespace Mine
noncomputable def outS : Out Fl → Option (Fl × List MO × Loc × List (Bool × Bool))
  | .ok f st ob => some (f, st.objs, st.loc, ob)
  | _ => none
noncomputable def outV : Out MV → Option (MV × List MO × Loc × List (Bool × Bool))
  | .ok f st ob => some (f, st.objs, st.loc, ob)
  | _ => none
noncomputable def L5 : List MV := [.int 300, .int 3, .int 12, .int 7, .int 5]
noncomputable def runS (a : Nat) (xs : List MV) (g : Nat) (l : List Stmt) (objs : List MO) (loc : Loc) (orc : List (Option Bool)) : Out Fl := (lawF (tl [(a, xs)]) g 12).ss fiL.scope l ⟨objs, loc, orc⟩
theorem runA1 (a : Nat) (xs : List MV) (g : Nat) : outS (runS a xs g [sL 0] [] [(nScript, .gl a)] [some true, none, some true, none, none, some true, some true]) =
    some (.next, [.list xs, .list L5, .list (cutL L5 xs.length 5), .list (xs ++ cutL L5 xs.length 5)], [(nScript, .gl a), (nNumbers, .obj 3)], [(Nat.beq a a, true), (Nat.beq a a, true), (decide ((xs.length : Int) ≤ (5 : Nat)), true), (decide (xs.length + (cutL L5 xs.length 5).length ≤ line), true)]) := by kernel_rfl
theorem runA2 (a : Nat) (xs : List MV) (g : Nat) : outS (runS a xs g [sL 0] [] [(nScript, .gl a)] [some true, none, some true, none, none, some false, some true]) =
    some (.next, [.list xs, .list L5, .list (cutL L5 5 5), .list (xs ++ cutL L5 5 5)], [(nScript, .gl a), (nNumbers, .obj 3)], [(Nat.beq a a, true), (Nat.beq a a, true), (decide ((xs.length : Int) ≤ (5 : Nat)), false), (decide (xs.length + (cutL L5 5 5).length ≤ line), true)]) := by kernel_rfl
noncomputable def chS (n : Int) : Str := ⟨⟨[(33 + n.fmod 94).toNat]⟩⟩
noncomputable def digS : Str := ⟨⟨[48, 49, 50, 51, 52, 53, 54, 55, 56, 57]⟩⟩
noncomputable def aS : Str := ⟨⟨[97]⟩⟩
noncomputable abbrev nums (n0 n1 n2 n3 n4 : Int) (r : List MV) : List MV := .int n0 :: .int n1 :: .int n2 :: .int n3 :: .int n4 :: r
noncomputable def orcB (b : Bool) : List (Option Bool) := [some true, none, some true, none, some true, some b, some true, none, some true, none, none, some true, none, some true, none, some true, none, some true, some true, none, some true, none]
noncomputable def obsB (n0 n1 n2 n3 n4 : Int) (r : List MV) (b : Bool) (sg : Str) : List (Bool × Bool) :=
  let ns := nums n0 n1 n2 n3 n4 r
  [(decide (ns.length ≤ line), true), (decide ((1 : Int) < ns.length), true), (decide (0 ≤ 33 + n1.fmod 94 ∧ 33 + n1.fmod 94 ≤ 1114111), true), (!(Builtin.Str.occurrences digS (chS n1) 0 digS.length 1).isEmpty, b),
   (decide (ns.length ≤ line), true), (decide ((0 : Int) < ns.length), true), (escOk (n0.fmod 1000) sg, true), (decide (ns.length ≤ line), true), (decide ((2 : Int) < ns.length), true),
   (decide (ns.length ≤ line), true), (decide ((3 : Int) < ns.length), true), (decide (ns.length ≤ line), true), (decide ((2 : Int) < ns.length), true)]
theorem runB1 (a : Nat) (xs : List MV) (g : Nat) (o0 o1 o2 : MO) (n0 n1 n2 n3 n4 : Int) (r : List MV) : outS (runS a xs g [sL 1, sL 2, sL 3] [o0, o1, o2, .list (nums n0 n1 n2 n3 n4 r)] [(nScript, .gl a), (nNumbers, .obj 3)] (orcB false)) =
    some (.next, [o0, o1, o2, .list (nums n0 n1 n2 n3 n4 r)], [(nScript, .gl a), (nNumbers, .obj 3), (nSign, .str (chS n1))], obsB n0 n1 n2 n3 n4 r false (chS n1)) := by kernel_rfl
theorem runB2 (a : Nat) (xs : List MV) (g : Nat) (o0 o1 o2 : MO) (n0 n1 n2 n3 n4 : Int) (r : List MV) : outS (runS a xs g [sL 1, sL 2, sL 3] [o0, o1, o2, .list (nums n0 n1 n2 n3 n4 r)] [(nScript, .gl a), (nNumbers, .obj 3)] (orcB true)) =
    some (.next, [o0, o1, o2, .list (nums n0 n1 n2 n3 n4 r)], [(nScript, .gl a), (nNumbers, .obj 3), (nSign, .str aS)], obsB n0 n1 n2 n3 n4 r true aS) := by kernel_rfl
noncomputable def exprG : Expr := match sL 4 with
  | .Assign _ e _ => e
  | _ => .Constant .none 0 default
theorem sL4 : sL 4 = .Assign [.Name nGroup ⟨905, 4, 905, 9⟩] exprG ⟨905, 4, 905, 30⟩ := by kernel_rfl
theorem exprG_plain : plainV exprG = true := by kernel_rfl
theorem run4 (l : List (Nat × List MV)) (a : Nat) (o0 o1 o2 : MO) (n0 n1 n2 n3 n4 : Int) (r : List MV) (loc : Loc) : outV ((fnsN (tl l) N0).2.ex fiL.scope exprG ⟨[o0, o1, o2, .list (nums n0 n1 n2 n3 n4 r)], (nScript, .gl a) :: (nNumbers, .obj 3) :: loc, [some true, none, some true, none]⟩) =
    some (.int (n4.fmod 65536), [o0, o1, o2, .list (nums n0 n1 n2 n3 n4 r)], (nScript, .gl a) :: (nNumbers, .obj 3) :: loc, [(decide ((nums n0 n1 n2 n3 n4 r).length ≤ line), true), (decide ((4 : Int) < (nums n0 n1 n2 n3 n4 r).length), true)]) := by kernel_rfl
theorem run7 (a : Nat) (xs : List MV) (g : Nat) : outS (runS a xs g [sL 7] [] [(nText, .str (textOf g)), (nOctets, .bytes (octOf g))] [some true, some true, some true, some true, some true, some true]) =
    some (.ret (.bool (u8sEq (octOf g) (octOf g))), [], [(nText, .str (textOf g)), (nOctets, .bytes (octOf g))], [(strEq (textOf g) (textOf g), true), (u8sEq (octOf g) (octOf g), true), (strEq (textOf g) (textOf g), true), (u8sEq (octOf g) (octOf g), true),
      (asciiL (textOf g).cps.toList && decide ((textOf g).cps.toList.length ≤ line), true), (u8sEq ((textOf g).cps.toList.map UInt8.ofNat) (btextOf g), true)]) := by kernel_rfl
end Mine
end

section
set_option maxRecDepth 1000000
set_option linter.unusedVariables false
open PySem PySem.W PySem.Calls PyProof.Rows
namespace Mine
theorem wpC_execs_app {𝒞 : Ctx → Prop} {M : Model} {A : Around} {env : Env} {Q : Flow → Shared → Prop} {E : Value → Shared → Prop} (l2 : List Stmt) : ∀ (l1 : List Stmt) (s : Shared),
    wpC 𝒞 M A (execs l1 env) (fun f s' => match f with | .next => wpC 𝒞 M A (execs l2 env) Q E s' | f => Q f s') E s → wpC 𝒞 M A (execs (l1 ++ l2) env) Q E s := by
  intro l1 s h
  have e : ∀ l1 : List Stmt, execs (l1 ++ l2) env = execs l1 env >>= fun f => match f with | .next => execs l2 env | f => pure f := by
    intro l1
    induction l1 with
    | nil => rfl
    | cons st r ih =>
      rw [List.cons_append, execs_cons, execs_cons, ih, bind_assoc]
      congr 1
      funext f
      cases f <;> rfl
  rw [e]
  refine wpC_bind (wpC_mono h (fun f s' q => ?_) fun _ _ x => x)
  cases f <;> first | exact q | exact wpC_pure q
theorem cells_law (n : Nat) : cellsFrom n fiL.scope.names [] = [(nGroup, n)] := by kernel_rfl
theorem law_kind : fiL.scope.kind = .function := by kernel_rfl
theorem law_scope : fiL.scope.isCoroutine = false ∧ fiL.scope.isGenerator = false := by constructor <;> kernel_rfl
theorem law_pos : posB lawA [nScript] = true := by kernel_rfl
theorem law_names : fiL.scope.names.lookup nScript = some .local ∧ fiL.scope.names.lookup nGroup = some .cell ∧ fiL.scope.names.lookup nText = some .local ∧ fiL.scope.names.lookup nOctets = some .local := by refine ⟨?_, ?_, ?_, ?_⟩ <;> kernel_rfl
theorem strEq_refl (x : Str) : strEq x x = true := strEq_iff.mpr rfl
theorem u8sEq_refl (x : List UInt8) : u8sEq x x = true := u8sEq_iff.mpr rfl
theorem hexc_le (d : Nat) (h : d < 16) : hexc d ≤ 127 := by unfold hexc; split <;> omega
theorem fmod_nat (n : Int) (k : Nat) (hk : 0 < k) : ∃ j : Nat, j < k ∧ n.fmod k = (j : Int) := by
  have h1 : 0 ≤ n.fmod k := Int.fmod_nonneg_of_pos n (by omega)
  have h2 : n.fmod k < k := Int.fmod_lt_of_pos n (by omega)
  exact ⟨(n.fmod k).toNat, by omega, by omega⟩
theorem occ_dig (k : Nat) (h : k < 94) : (!(Builtin.Str.occurrences digS ⟨⟨[33 + k]⟩⟩ 0 digS.length 1).isEmpty) = (decide (48 ≤ 33 + k) && decide (33 + k ≤ 57)) := by
  have : ∀ k : Fin 94, (!(Builtin.Str.occurrences digS ⟨⟨[33 + k.val]⟩⟩ 0 digS.length 1).isEmpty) = (decide (48 ≤ 33 + k.val) && decide (33 + k.val ≤ 57)) := by decide +kernel
  exact this ⟨k, h⟩
theorem nums1 : ∀ (is : List Int), is.length ≤ 5 → ∃ n0 n1 n2 n3 n4 r, is.map MV.int ++ cutL L5 is.length 5 = nums n0 n1 n2 n3 n4 r ∧ r.length ≤ 63
  | [], _ => ⟨300, 3, 12, 7, 5, [], rfl, by simp⟩
  | [a], _ => ⟨a, 3, 12, 7, 5, [], rfl, by simp⟩
  | [a, b], _ => ⟨a, b, 12, 7, 5, [], rfl, by simp⟩
  | [a, b, c], _ => ⟨a, b, c, 7, 5, [], rfl, by simp⟩
  | [a, b, c, d], _ => ⟨a, b, c, d, 5, [], rfl, by simp⟩
  | [a, b, c, d, e], _ => ⟨a, b, c, d, e, [], rfl, by simp⟩
  | a :: b :: c :: d :: e :: f :: r, h => by simp at h
theorem nums2 : ∀ (is : List Int), ¬ is.length ≤ 5 → is.length ≤ 63 → ∃ n0 n1 n2 n3 n4 r, is.map MV.int ++ cutL L5 5 5 = nums n0 n1 n2 n3 n4 r ∧ r.length ≤ 63
  | [], h, _ => by simp at h
  | [a], h, _ => by simp at h
  | [a, b], h, _ => by simp at h
  | [a, b, c], h, _ => by simp at h
  | [a, b, c, d], h, _ => by simp at h
  | [a, b, c, d, e], h, _ => by simp at h
  | a :: b :: c :: d :: e :: f :: r, _, h => ⟨a, b, c, d, e, (.int f :: r.map .int) ++ cutL L5 5 5, rfl, by simp [cutL, L5] at h ⊢; omega⟩
theorem esc_ch (n0 n1 : Int) (h : (!(Builtin.Str.occurrences digS (chS n1) 0 digS.length 1).isEmpty) = false) : escOk (n0.fmod 1000) (chS n1) = true := by
  obtain ⟨j, hj, ej⟩ := fmod_nat n1 94 (by decide)
  obtain ⟨i, hi, ei⟩ := fmod_nat n0 1000 (by decide)
  have e1 : chS n1 = ⟨⟨[33 + j]⟩⟩ := by
    unfold chS
    have ej' : n1.fmod 94 = (j : Int) := ej
    have : (33 + n1.fmod 94).toNat = 33 + j := by omega
    rw [this]
  rw [e1] at h ⊢
  rw [occ_dig j hj] at h
  have ei' : n0.fmod 1000 = (i : Int) := ei
  rw [ei']
  unfold escOk
  simp only [Bool.and_eq_true, decide_eq_true_eq, Bool.not_eq_true']
  simp only [Bool.and_eq_false_iff, decide_eq_false_iff_not] at h ⊢
  omega
theorem esc_a (n0 : Int) : escOk (n0.fmod 1000) aS = true := by
  obtain ⟨i, hi, ei⟩ := fmod_nat n0 1000 (by decide)
  have ei' : n0.fmod 1000 = (i : Int) := ei
  rw [ei']
  unfold escOk aS
  simp only [Bool.and_eq_true, decide_eq_true_eq, Bool.not_eq_true']
  refine ⟨by omega, by decide⟩
theorem obsB_ok (n0 n1 n2 n3 n4 : Int) (r : List MV) (hr : r.length ≤ 63) (b : Bool) (sg : Str) (hb : (!(Builtin.Str.occurrences digS (chS n1) 0 digS.length 1).isEmpty) = b) (hs : escOk (n0.fmod 1000) sg = true) : AllOk (obsB n0 n1 n2 n3 n4 r b sg) := by
  obtain ⟨j, hj, ej⟩ := fmod_nat n1 94 (by decide)
  have ej' : n1.fmod 94 = (j : Int) := ej
  have hl : (nums n0 n1 n2 n3 n4 r).length = r.length + 5 := rfl
  unfold obsB
  simp only [AllOk, hl, decide_eq_true_eq, hb, hs, ej', line, true_and, and_true]
  refine ⟨?_, ?_, ?_, ?_, ?_, ?_, ?_, ?_, ?_, ?_, ?_⟩ <;> omega
theorem text_len (g : Nat) : asciiL (textOf g).cps.toList = true := by
  have h : ∀ d, d < 16 → Nat.ble (hexc d) 127 = true := fun d hd => Nat.ble_eq_true_of_le (hexc_le d hd)
  unfold textOf
  simp only [asciiL, h _ (Nat.mod_lt _ (by decide : 0 < 16))]
theorem text_bytes (g : Nat) : (textOf g).cps.toList.map UInt8.ofNat = btextOf g := rfl
section
variable {S : Sys} {env : Env} {L c : Addr}
structure EnvLaw (env : Env) (L c : Addr) : Prop where
  scope : env.scope = fiL.scope
  locals : env.locals = L
  frame : env.frame = some L
  globals : env.globals = mainGlobals
  builtins : env.builtins = builtinsNs
  cells : env.cells = [(nGroup, c)]
theorem EnvLaw.cell (h : EnvLaw env L c) : CellEnv env c := ⟨by rw [h.scope]; exact law_kind, by unfold Env.kindOf; rw [h.scope]; exact law_names.2.1, h.cells⟩
theorem EnvLaw.ok (h : EnvLaw env L c) : EnvOk ⟨env, L, [], []⟩ fiL.scope := ⟨h.scope, law_kind, h.locals, h.frame, h.globals, h.builtins⟩
noncomputable abbrev lawA0 (env : Env) : Around := callerA.deeper env
theorem EnvLaw.aok (h : EnvLaw env L c) : AOk ⟨env, L, [], []⟩ (lawA0 env) N0 false :=
  ⟨Around.frames_deeper rfl, by show callerA.depth + 1 + 8 * 60 ≤ 900; decide, by show callerA.units + 3 + 24 * 60 ≤ 9000; decide, fun _ => rfl, by rw [h.scope]; exact law_kind, h.frame, h.locals, trivial⟩
theorem law_end {x5 x6 x7 : Stmt} (hX5 : sL 5 = x5) (hX6 : sL 6 = x6) (hX7 : sL 7 = x7) (h : EnvLaw env L c) {a g : Nat} {xs : List MV} (hg6 : g < 65536) (FL : FSnd Clean S (tl [(a, xs)]) N0 (lawF (tl [(a, xs)]) g 12)) (hLB : S.B.get? L = none) (hK : ∀ a o, S.K.lookup a = some o → a < L) {s : Shared} {m : Str → Option Value} {Q : Flow → Shared → Prop} {E : Value → Shared → Prop}
    (hB : ∀ b o, S.B.get? b = some o → s.heap.get? b = some o) (hgens : s.gens = #[]) (hos : s.os = S.os) (hm : s.heap.Ns L m) (hg : IsG g s.heap c) (hcL : c ≠ L)
    (hQ : ∀ s', (∀ b o, S.B.get? b = some o → s'.heap.get? b = some o) → s'.gens = #[] → s'.os = S.os → Q (.ret (.bool true)) s') : wpC Clean (model pw S.w) (lawA0 env) (execs [x5, x6, x7] env) Q E s := by
  have hd : (lawA0 env).depth ≤ 900 := by show callerA.depth + 1 ≤ 900; decide
  have hu : (lawA0 env).units ≤ 9000 := by show callerA.units + 3 ≤ 9000; decide
  have kt : env.kindOf nText = some .local := by unfold Env.kindOf; rw [h.scope]; exact law_names.2.2.1
  have ko : env.kindOf nOctets = some .local := by unfold Env.kindOf; rw [h.scope]; exact law_names.2.2.2
  have hBL : ∀ b o, S.B.get? b = some o → b ≠ L := fun b o e q => by subst q; rw [hLB] at e; cases e
  have hh : (lawA0 env).handled = none := rfl
  have hm' : s.heap.Ns env.locals m := by rw [h.locals]; exact hm
  rw [execs_cons]
  refine wpC_bind ?_
  refine wpC_of ?_
  refine stmt5 hX5.symm h.cell hh hd hu kt hg hm' fun h1 tk1 t1 hn1 hk1 => ?_
  rw [h.locals] at hn1 hk1
  dsimp only
  rw [execs_cons]
  have hg1 : IsG g h1 c := by
    obtain ⟨t, o, ho, q⟩ := hg
    exact ⟨t, o, hk1 c o hcL ho, q⟩
  have hn1' : ({ s with heap := h1, toks := tk1 } : Shared).heap.Ns env.locals (fun z => if z = nText then some (.str (textOf g) t1) else m z) := by rw [h.locals]; exact hn1
  refine wpC_bind ?_
  refine wpC_of ?_
  refine stmt6 hX6.symm h.cell hg6 hh hd hu ko (s := { s with heap := h1, toks := tk1 }) hg1 hn1' fun h2 tk2 t2 hn2 hk2 => ?_
  rw [h.locals] at hn2 hk2
  dsimp only
  have I : Stn S [] [] [(L, [(nText, .str (textOf g)), (nOctets, .bytes (octOf g))])] [] { s with heap := h2, toks := tk2 } := by
    refine ⟨fun b o e => hk2 b o (hBL b o e) (hk1 b o (hBL b o e) (hB b o e)), rfl, (fun i o e => by cases e), fun f hf => ?_, (fun p hp => by cases hp), by simp [addrs], fun x hx => ?_, hgens, hos, fun f hf => ?_⟩
    · rw [List.mem_singleton] at hf; subst hf
      refine ⟨_, hn2, fun x v q => ?_⟩
      have ne : nText ≠ nOctets := by decide +kernel
      unfold lookS at q
      split at q
      · rename_i e
        cases q
        rw [strEq_iff] at e; subst e
        exact ⟨_, by rw [if_neg ne, if_pos rfl], ⟨t1, rfl⟩⟩
      · unfold lookS at q
        split at q
        · rename_i e
          cases q
          rw [strEq_iff] at e; subst e
          exact ⟨_, by rw [if_pos rfl], ⟨t2, rfl⟩⟩
        · cases q
    · simp [addrs] at hx; subst hx; exact hLB
    · rw [List.mem_singleton] at hf; subst hf; exact hK
  have r7 := run7 a xs g
  unfold outS at r7
  rw [hX7] at r7
  refine FL.ss [x7] h.ok (lawA0 env) [] [] ⟨[], [(nText, .str (textOf g)), (nOctets, .bytes (octOf g))], [some true, some true, some true, some true, some true, some true]⟩ _ Q E (List.prefix_refl _) h.aok I ?_
  unfold runS at r7
  cases q : (lawF (tl [(a, xs)]) g 12).ss fiL.scope [x7] ⟨[], [(nText, .str (textOf g)), (nOctets, .bytes (octOf g))], [some true, some true, some true, some true, some true, some true]⟩ with
  | ok f st ob =>
    rw [q] at r7
    simp only [Option.some.injEq, Prod.mk.injEq] at r7
    obtain ⟨rfl, r1, r2, rfl⟩ := r7
    refine ⟨?_, fun ρ' f s' _ I' hf => ?_⟩
    · have hl : (textOf g).cps.toList.length = 7 := rfl
      simp only [AllOk, strEq_refl, u8sEq_refl, text_len, text_bytes, hl, line, true_and, and_true, Bool.true_and, decide_eq_true_eq]
      decide
    · obtain ⟨v, rfl, hv⟩ := hf
      obtain rfl : v = .bool _ := hv
      rw [u8sEq_refl]
      exact hQ s' I'.base I'.gens I'.os
  | exc C st ob => rw [q] at r7; cases r7
  | bad w => rw [q] at r7; cases r7
theorem outS_ok {o : Out Fl} {f : Fl} {objs : List MO} {loc : Loc} {ob : List (Bool × Bool)} (h : outS o = some (f, objs, loc, ob)) : ∃ orc, o = .ok f ⟨objs, loc, orc⟩ ob := by
  cases o with
  | ok f' st' ob' => obtain ⟨a, b, c⟩ := st'; cases h; exact ⟨_, rfl⟩
  | _ => cases h
theorem outV_ok {o : Out MV} {f : MV} {objs : List MO} {loc : Loc} {ob : List (Bool × Bool)} (h : outV o = some (f, objs, loc, ob)) : ∃ orc, o = .ok f ⟨objs, loc, orc⟩ ob := by
  cases o with
  | ok f' st' ob' => obtain ⟨a, b, c⟩ := st'; cases h; exact ⟨_, rfl⟩
  | _ => cases h
theorem law_rest {x1 x2 x3 x4 x5 x6 x7 : Stmt} (hX1 : sL 1 = x1) (hX2 : sL 2 = x2) (hX3 : sL 3 = x3) (hX4 : sL 4 = x4) (hX5 : sL 5 = x5) (hX6 : sL 6 = x6) (hX7 : sL 7 = x7) (h : EnvLaw env L c) {a : Nat} {xs : List MV} {n0 n1 n2 n3 n4 : Int} {r : List MV} (hr : r.length ≤ 63) (FL : FSnd Clean S (tl [(a, xs)]) N0 (lawF (tl [(a, xs)]) (n4.fmod 65536).toNat 12)) (F2 : FSnd AllC S (tl [(a, xs)]) N0 (fnsN (tl [(a, xs)]) N0).2)
    (hLB : S.B.get? L = none) (hcB : S.B.get? c = none) (hK : ∀ a o, S.K.lookup a = some o → a < L) {s : Shared} {ρ : RMap} {oc : Obj} (hoc : oc.data = .cell none) {o0 o1 o2 : MO} {Q : Flow → Shared → Prop} {E : Value → Shared → Prop}
    (I : Stn S ρ [(c, oc)] [(L, [(nScript, .gl a), (nNumbers, .obj 3)])] [o0, o1, o2, .list (nums n0 n1 n2 n3 n4 r)] s)
    (hQ : ∀ s', (∀ b o, S.B.get? b = some o → s'.heap.get? b = some o) → s'.gens = #[] → s'.os = S.os → Q (.ret (.bool true)) s') : wpC Clean (model pw S.w) (lawA0 env) (execs [x1, x2, x3, x4, x5, x6, x7] env) Q E s := by
  have hcL : c ≠ L := by
    have := I.apart
    simp only [List.map_cons, List.map_nil, List.cons_append, List.nil_append, List.nodup_cons, List.mem_cons, not_or] at this
    exact fun q => this.1.1 q.symm
  obtain ⟨gg, hg6, egg⟩ := fmod_nat n4 65536 (by decide)
  have egg' : n4.fmod 65536 = (gg : Int) := egg
  have rB : ∃ b sg, outS (runS a xs (n4.fmod 65536).toNat [sL 1, sL 2, sL 3] [o0, o1, o2, .list (nums n0 n1 n2 n3 n4 r)] [(nScript, .gl a), (nNumbers, .obj 3)] (orcB b)) =
      some (.next, [o0, o1, o2, .list (nums n0 n1 n2 n3 n4 r)], [(nScript, .gl a), (nNumbers, .obj 3), (nSign, .str sg)], obsB n0 n1 n2 n3 n4 r b sg) ∧ AllOk (obsB n0 n1 n2 n3 n4 r b sg) := by
    cases hb : (!(Builtin.Str.occurrences digS (chS n1) 0 digS.length 1).isEmpty) with
    | false => exact ⟨false, chS n1, runB1 a xs _ o0 o1 o2 n0 n1 n2 n3 n4 r, obsB_ok n0 n1 n2 n3 n4 r hr false _ hb (esc_ch n0 n1 hb)⟩
    | true => exact ⟨true, aS, runB2 a xs _ o0 o1 o2 n0 n1 n2 n3 n4 r, obsB_ok n0 n1 n2 n3 n4 r hr true _ hb (esc_a n0)⟩
  obtain ⟨b, sg, rB, okB⟩ := rB
  have r4 := run4 [(a, xs)] a o0 o1 o2 n0 n1 n2 n3 n4 r [(nSign, .str sg)]
  have hend := fun (s : Shared) (m : Str → Option Value) => law_end hX5 hX6 hX7 (S := S) (s := s) (m := m) (Q := Q) (E := E) h (a := a) (xs := xs) hg6 (by rw [egg'] at FL; exact FL) hLB hK
  have e4 : sL 4 = .Assign [.Name nGroup ⟨905, 4, 905, 9⟩] exprG ⟨905, 4, 905, 30⟩ := sL4
  have hp4 := exprG_plain
  unfold runS at rB
  rw [hX1, hX2, hX3] at rB
  generalize exprG = eG at r4 e4 hp4
  rw [hX4] at e4
  obtain ⟨orc, qB⟩ := outS_ok rB
  obtain ⟨orc4, q4⟩ := outV_ok r4
  have kg := h.cell.grp
  have hd : (lawA0 env).depth ≤ 900 := by show callerA.depth + 1 ≤ 900; decide
  refine wpC_execs_app [x4, x5, x6, x7] [x1, x2, x3] s ?_
  refine FL.ss [x1, x2, x3] h.ok (lawA0 env) [(c, oc)] ρ ⟨[o0, o1, o2, .list (nums n0 n1 n2 n3 n4 r)], [(nScript, .gl a), (nNumbers, .obj 3)], orcB b⟩ s _ E (List.prefix_refl _) h.aok I ?_
  rw [qB]
  refine ⟨okB, fun ρ3 f s3 _ I3 hf => ?_⟩
  obtain rfl : f = .next := hf
  dsimp only
  rw [execs_cons]
  refine wpC_bind (wpC_of ?_)
  rw [e4]
  refine wpAny_Assign_Name ?_ (swaps_no hp4)
  refine wpC_all (F2.ex eG h.ok (lawA0 env) [(c, oc)] ρ3 ⟨[o0, o1, o2, .list (nums n0 n1 n2 n3 n4 r)], [(nScript, .gl a), (nNumbers, .obj 3), (nSign, .str sg)], [some true, none, some true, none]⟩ s3 _ _ (List.prefix_refl _) h.aok I3 ?_)
  rw [q4]
  refine ⟨?_, fun ρ4 v s4 _ I4 hv => ?_⟩
  · have hl : (nums n0 n1 n2 n3 n4 r).length = r.length + 5 := rfl
    simp only [AllOk, hl, decide_eq_true_eq, line, and_true]
    constructor <;> omega
  obtain ⟨tv, rfl⟩ := hv
  rw [egg']
  have hcell : s4.heap.IsCell c none := ⟨oc, I4.kept (c, oc) (.head _), hoc⟩
  refine wpAny_storeName_cell h.cell.kind kg (by rw [h.cells]; simp [List.lookup]) hcell fun h' hc' hs' => ?_
  obtain ⟨m, hm, _⟩ := I4.frm _ (.head _)
  dsimp only
  refine hend _ m (fun b o e => (hs'.2 b (fun q => by subst q; rw [hcB] at e; cases e)).trans (I4.base b o e)) I4.gens I4.os (hm.sameBut hs' (Ne.symm hcL)) ⟨tv, hc'⟩ hcL hQ
end
theorem codeB_of {g : Get} {h : Heap} (hg : ∀ a o, g a = some o → h.get? a = some o) {cd : Value} {q : Str} (g6 : codeB g cd q = true) : h.CodeRec cd q := by
  unfold codeB at g6
  cases cd with
  | ref c =>
    dsimp only at g6
    cases hgc : g c with
    | none => rw [hgc] at g6; cases g6
    | some o =>
      obtain ⟨c', d', dt', sl'⟩ := o
      rw [hgc] at g6
      cases dt' with
      | fields vs =>
        dsimp only at g6
        cases hv : vs[1]? with
        | none => rw [hv] at g6; cases g6
        | some v =>
          rw [hv] at g6
          cases v with
          | str x t => have := strEq_iff.mp g6; subst this; exact ⟨c, _, vs, t, rfl, hg _ _ hgc, rfl, hv⟩
          | _ => cases g6
      | _ => cases g6
  | _ => cases g6
theorem law_walk (HS : ∀ l g, g < 65536 → SubLaws (tl l) g) : LawWalk := by
  intro w s₀ s Lf is vals s₁ hlen hvals hheap hgens hos
  obtain ⟨g, hg, hsys, hlaw, hV⟩ := Lf.look
  have hB : ∀ b o, g b = some o → s₁.heap.get? b = some o := fun b o e => by rw [hheap]; exact Heap.get?_push_of_some _ (hg b o e)
  generalize ha : s.heap.objs.size = a
  have hga : s₁.heap.get? a = some (scriptObj vals) := by rw [hheap, ← ha]; exact Heap.get?_push_size _ rfl
  obtain ⟨S, hS⟩ : ∃ S : Sys, S = ⟨w, s₁.heap, s₁.os, kOf g KA⟩ := ⟨_, rfl⟩
  have sB : S.B = s₁.heap := by rw [hS]
  have sw : S.w = w := by rw [hS]
  have sos : S.os = s₁.os := by rw [hS]
  have SA0 : SysAll S tT := sys_of (g := g) (KA := KA) (fun b o e => by rw [sB]; exact hB b o e) (by rw [hS]) hsys hV fi_ok
  have SA : SysAll S (tl [(a, is.map .int)]) := SA0.lists
  have YL : SysL S (tl [(a, is.map .int)]) := by
    intro b xs r e
    have e' : [(a, is.map MV.int)] = (b, xs) :: r := e
    simp only [List.cons.injEq, Prod.mk.injEq] at e'
    obtain ⟨⟨rfl, rfl⟩, _⟩ := e'
    exact ⟨vals, 0, by rw [sB]; exact hga, hvals, by rw [List.length_map]; unfold line; omega⟩
  have YI : SysI S (tl [(a, is.map .int)]) := sysI SA
  have YM : TabM (tl [(a, is.map .int)]) := tabM_of tab_ok
  have Lv : Leaves Clean true S (tl [(a, is.map .int)]) := leaves SA.ok SA.t YM YL (fun _ Γ h => h)
  have Lv0 : Leaves AllC false S (tl [(a, is.map .int)]) := leaves SA.ok SA.t YM YL (fun h => by cases h)
  have F2 : FSnd AllC S (tl [(a, is.map .int)]) N0 (fnsN (tl [(a, is.map .int)]) N0).2 := (fsnd clean_closed SA.ok SA.e YI SA.f SA.m Lv Lv0 N0).2
  have FL : ∀ gg, gg < 65536 → FSnd Clean S (tl [(a, is.map .int)]) N0 (lawF (tl [(a, is.map .int)]) gg 12) := fun gg hgg => fsnd_law SA.ok SA.e YI SA.f SA.m Lv Lv0 (HS _ gg hgg) 12
  have hKlt : ∀ b o, S.K.lookup b = some o → b < s₁.heap.objs.size := fun b o e => by
    have := SA.ok.K b o e
    rw [sB] at this
    exact Heap.lt_size this
  unfold lawV lawG at hlaw
  cases ho : g 984 with
  | none => rw [ho] at hlaw; cases hlaw
  | some o =>
    rw [ho] at hlaw
    obtain ⟨oc, od, dt, sl⟩ := o
    cases dt with
    | func fd =>
      simp only [Option.some.injEq, Prod.mk.injEq, Bool.and_eq_true, List.isEmpty_iff] at hlaw
      obtain ⟨⟨⟨h1, h2, h3⟩, h4, h5⟩, ⟨h6, h7⟩, ⟨⟨h8, h9⟩, h10⟩, h11⟩ := hlaw
      have hgl : fd.globals = mainGlobals := Nat.eq_of_beq_eq_true h8
      have hbl : fd.builtins = builtinsNs := Nat.eq_of_beq_eq_true h10
      have hcode : s₁.heap.CodeRec fd.code fd.qualname := codeB_of hB h11
      have hlim : s₁.heap.NoLimit := by have := SA.ok.limit; rw [sB] at this; exact this
      have hbe := body_eq
      generalize hX0 : sL 0 = x0 at hbe
      generalize hX1 : sL 1 = x1 at hbe
      generalize hX2 : sL 2 = x2 at hbe
      generalize hX3 : sL 3 = x3 at hbe
      generalize hX4 : sL 4 = x4 at hbe
      generalize hX5 : sL 5 = x5 at hbe
      generalize hX6 : sL 6 = x6 at hbe
      generalize hX7 : sL 7 = x7 at hbe
      rw [hbe] at h4
      rw [← sw]
      refine wpC_call clean_closed ?_
      refine codeC_call_function clean_closed (by show callerA.depth < recursionLimit; decide) (hB 984 _ ho) rfl (by rw [h5]; exact law_scope.1) (by rw [h5]; exact law_scope.2) h4 hcode ?_
      refine bind_any (ps := [nScript]) (dv := []) (by rw [h3]; exact posB_of law_pos) (by simp) (by simp) (by simp) (by simp) (fun Q hq => by rw [h6]; exact wpAny_pure (hq none rfl)) ?_
      rw [h5, hgl, h9, hbl]
      have ez : [nScript].zip ([Value.ref a] ++ ([] : List Value).drop ([Value.ref a].length - ([nScript].length - ([] : List Value).length))) = [(nScript, Value.ref a)] := rfl
      rw [ez]
      refine wpAny_newFunctionEnv_cells law_kind (fun x hx => by rw [List.mem_singleton] at hx; subst hx; exact .inl law_names.1) fun env he s' x => ⟨hlim.keeps x.toInCall.keep, codeC_func clean_closed ?_⟩
      generalize hL : s₁.heap.objs.size = L at he x
      have E0 : EnvLaw env L (L + 1) := by subst he; exact ⟨rfl, rfl, rfl, rfl, rfl, cells_law _⟩
      have hns := x.toInCall.ns
      have hcell := x.cell nGroup (L + 1) (by rw [E0.cells]; simp [List.lookup])
      have kscr : env.kindOf nScript = some .local := by unfold Env.kindOf; rw [E0.scope]; exact law_names.1
      have hloc : (bindL env.kindOf [(nScript, Value.ref a)] fun _ => none) nScript = some (.ref a) := by
        unfold bindL bindL; rw [if_pos kscr, if_pos rfl]
      have hcm : (bindC env.kindOf [(nScript, Value.ref a)] fun _ => none) nGroup = none := by
        unfold bindC bindC; rw [if_pos kscr]
      rw [hcm] at hcell
      rw [E0.locals] at hns
      obtain ⟨oc, hoc, hocd⟩ := hcell
      obtain ⟨h', tk, hs'⟩ := x.toInCall.same
      have hgen' : s'.gens = #[] := by rw [hs']; exact hgens
      have hos' : s'.os = S.os := by rw [hs', sos]
      have hnoneL : S.B.get? L = none := by rw [sB, ← hL]; exact Heap.get?_none_of_le (Nat.le_refl _)
      have hnoneC : S.B.get? (L + 1) = none := by rw [sB, ← hL]; exact Heap.get?_none_of_le (Nat.le_succ _)
      have hK : ∀ a o, S.K.lookup a = some o → a < L := fun b o e => hL ▸ hKlt b o e
      have I₀ : Stn S [] [(L + 1, oc)] [(L, [(nScript, .gl a)])] [] s' := by
        refine ⟨fun b o e => x.toInCall.keep b o (by rw [← sB]; exact e), rfl, (fun i o e => by cases e), fun f hf => ?_, fun p hp => ?_, ?_, fun y hy => ?_, hgen', hos', fun f hf => ?_⟩
        · rw [List.mem_singleton] at hf; subst hf
          refine ⟨_, hns, fun y v q => ?_⟩
          unfold lookS at q
          split at q
          · rename_i e
            cases q
            rw [strEq_iff] at e; subst e
            exact ⟨_, hloc, rfl⟩
          · cases q
        · rw [List.mem_singleton] at hp; subst hp; exact hoc
        · simp [addrs]
        · simp [addrs] at hy
          rcases hy with rfl | rfl
          · exact hnoneL
          · exact hnoneC
        · rw [List.mem_singleton] at hf; subst hf; exact hK
      have fin : ∀ s'' : Shared, (∀ b o, S.B.get? b = some o → s''.heap.get? b = some o) → s''.gens = #[] → s''.os = S.os →
          (.bool true : Value) = .bool true ∧ (∀ b o, s₁.heap.get? b = some o → s''.heap.get? b = some o) ∧ s''.os = s₁.os ∧ s''.gens = #[] := fun s'' q1 q2 q3 => ⟨rfl, fun b o e => q1 b o (by rw [sB]; exact e), q3.trans sos, q2⟩
      refine wpC_execs_app [x1, x2, x3, x4, x5, x6, x7] [x0] s' ?_
      have hlm : (is.map MV.int).length = is.length := List.length_map ..
      by_cases h5' : is.length ≤ 5
      · obtain ⟨n0, n1, n2, n3, n4, r, en, hr⟩ := nums1 is h5'
        obtain ⟨gg, hg6, egg⟩ := fmod_nat n4 65536 (by decide)
        have hgg : (n4.fmod 65536).toNat < 65536 := by have egg' : n4.fmod 65536 = (gg : Int) := egg; omega
        have rA := runA1 a (is.map .int) (n4.fmod 65536).toNat
        rw [hX0, hlm, en] at rA
        obtain ⟨orc, qA⟩ := outS_ok rA
        refine (FL _ hgg).ss [x0] E0.ok (lawA0 env) [(L + 1, oc)] [] ⟨[], [(nScript, .gl a)], [some true, none, some true, none, none, some true, some true]⟩ s' _ _ (List.prefix_refl _) E0.aok I₀ ?_
        unfold runS at qA
        rw [qA]
        refine ⟨?_, fun ρ2 f s2 _ I2 hf => ?_⟩
        · have hc : (cutL L5 is.length 5).length ≤ 5 := by unfold cutL; rw [List.length_take]; omega
          simp only [AllOk, Nat.beq_refl, decide_eq_true_eq, line, true_and, and_true]
          exact ⟨by omega, decide_eq_true (by omega)⟩
        obtain rfl : f = .next := hf
        exact law_rest hX1 hX2 hX3 hX4 hX5 hX6 hX7 E0 hr (FL _ hgg) F2 hnoneL hnoneC hK hocd I2 fin
      · obtain ⟨n0, n1, n2, n3, n4, r, en, hr⟩ := nums2 is h5' hlen
        obtain ⟨gg, hg6, egg⟩ := fmod_nat n4 65536 (by decide)
        have hgg : (n4.fmod 65536).toNat < 65536 := by have egg' : n4.fmod 65536 = (gg : Int) := egg; omega
        have rA := runA2 a (is.map .int) (n4.fmod 65536).toNat
        rw [hX0, hlm, en] at rA
        obtain ⟨orc, qA⟩ := outS_ok rA
        refine (FL _ hgg).ss [x0] E0.ok (lawA0 env) [(L + 1, oc)] [] ⟨[], [(nScript, .gl a)], [some true, none, some true, none, none, some false, some true]⟩ s' _ _ (List.prefix_refl _) E0.aok I₀ ?_
        unfold runS at qA
        rw [qA]
        refine ⟨?_, fun ρ2 f s2 _ I2 hf => ?_⟩
        · have hc : (cutL L5 5 5).length = 0 := by decide
          simp only [AllOk, Nat.beq_refl, decide_eq_true_eq, decide_eq_false_iff_not, line, true_and, and_true, hc]
          exact ⟨by omega, by omega⟩
        obtain rfl : f = .next := hf
        exact law_rest hX1 hX2 hX3 hX4 hX5 hX6 hX7 E0 hr (FL _ hgg) F2 hnoneL hnoneC hK hocd I2 fin
    | _ => cases hlaw
end Mine
end

section
set_option maxRecDepth 1000000
set_option maxHeartbeats 0
set_option linter.unusedVariables false
open PySem PySem.W PySem.Calls PyProof.Rows
namespace Mine
noncomputable def oc (l : List Nat) : List (Option Bool) := l.map fun k => match k with
  | 0 => none
  | 1 => some true
  | _ => some false
noncomputable def m1 (c : Nat) : Str := ⟨⟨[c]⟩⟩
noncomputable def eh (n : Int) : Nat := 48 + Int.toNat (Int.fdiv n 100)
noncomputable def et (n : Int) : Nat := 48 + Int.toNat (Int.fmod (Int.fdiv n 10) 10)
noncomputable def eu (n : Int) : Nat := 48 + Int.toNat (Int.fmod n 10)
noncomputable def digs : List Str := [m1 48, m1 49, m1 50, m1 51, m1 52, m1 53, m1 54, m1 55, m1 56, m1 57]
noncomputable def allB (l : List (Bool × Bool)) : Bool := l.all fun q => q.1 == q.2
noncomputable def getQ : List (Bool × Bool) → Nat → Bool × Bool
  | [], _ => (true, true)
  | q :: r, n => match n with
    | 0 => q
    | n + 1 => getQ r n
theorem getQ_ok : ∀ (l : List (Bool × Bool)) (n : Nat), allB l = true → (getQ l n).1 = (getQ l n).2
  | [], _, _ => rfl
  | _ :: _, 0, h => eq_of_beq (Bool.and_eq_true_iff.mp h).1
  | _ :: r, n + 1, h => getQ_ok r n (Bool.and_eq_true_iff.mp h).2
noncomputable def pickI (N C : List (Bool × Bool)) (is : List (Bool × Nat)) : List (Bool × Bool) := is.map fun x => match x.1 with
  | true => getQ N x.2
  | false => getQ C x.2
theorem pickI_ok {N C : List (Bool × Bool)} (h1 : allB N = true) (h2 : allB C = true) : ∀ is, AllOk (pickI N C is)
  | [] => trivial
  | (true, n) :: is => ⟨getQ_ok N n h1, pickI_ok h1 h2 is⟩
  | (false, n) :: is => ⟨getQ_ok C n h2, pickI_ok h1 h2 is⟩
noncomputable def headQ (l : List (Bool × Bool)) : Bool × Bool := match l with
  | [] => (true, false)
  | q :: _ => q
noncomputable def selX (k : Nat) : List Nat → List (Bool × Bool) → Bool
  | [], _ => true
  | m :: ms, as => match Nat.beq m k with
    | true => (headQ as).1 == (headQ as).2 && selX k ms as.tail
    | false => selX k ms as.tail
noncomputable def pickX : List Nat → List (Bool × Bool) → List (Bool × Bool) → List (Bool × Bool) → List (Bool × Bool)
  | [], _, _, _ => []
  | 0 :: ms, as, bs, xs => headQ as :: pickX ms as.tail bs.tail xs
  | 1 :: ms, as, bs, xs => headQ bs :: pickX ms as.tail bs.tail xs
  | _ :: ms, as, bs, xs => headQ xs :: pickX ms as.tail bs.tail xs.tail
theorem allOk_head : ∀ {xs : List (Bool × Bool)}, xs ≠ [] → AllOk xs → (headQ xs).1 = (headQ xs).2 ∧ AllOk xs.tail
  | [], h, _ => absurd rfl h
  | _ :: _, _, h => h
theorem pick_ok : ∀ (ms : List Nat) (as bs xs : List (Bool × Bool)), selX 0 ms as = true → selX 1 ms bs = true → (ms.countP fun m => Nat.ble 2 m) ≤ xs.length → AllOk xs → AllOk (pickX ms as bs xs)
  | [], _, _, _, _, _, _, _ => trivial
  | 0 :: ms, as, bs, xs, h0, h1, h2, h3 => ⟨eq_of_beq (Bool.and_eq_true_iff.mp h0).1, pick_ok ms _ _ _ (Bool.and_eq_true_iff.mp h0).2 h1 h2 h3⟩
  | 1 :: ms, as, bs, xs, h0, h1, h2, h3 => ⟨eq_of_beq (Bool.and_eq_true_iff.mp h1).1, pick_ok ms _ _ _ h0 (Bool.and_eq_true_iff.mp h1).2 h2 h3⟩
  | (m + 2) :: ms, as, bs, xs, h0, h1, h2, h3 => by
    rw [List.countP_cons_of_pos (by exact Nat.ble_eq_true_of_le (Nat.le_add_left 2 m))] at h2
    have hx := allOk_head (xs := xs) (fun q => by rw [q] at h2; exact absurd h2 (Nat.not_succ_le_zero _)) h3
    exact ⟨hx.1, pick_ok ms _ _ _ h0 h1 (by rw [List.length_tail]; omega) hx.2⟩
noncomputable def eA_val (n : Int) (c : Nat) : MV := (@MV.bool true)
noncomputable def eA_orc : List (Option Bool) := oc [0,1,0,0,0,1,0,0,1,0,0,0,1,0,0,0,0,1,0,0,0,0,0,0,0,0,0,0,0,0,0,0,0,0,0,0,0,1,0,0,0,1,1,0,1,0,0,0,1,1,0,0,0,1,0,0,0,1,1,0,0,1,1,0,1,0,0,0,1,0,0,1,0,0,0,0,0,0,0,0,0,0,0,0,0,0,0,0,0,0,0,0,0,0,0,0,0,0,0,0,0,0,0,0,0,0,0,0,0,0,0,0,0,0,0,0,0,0,0,0,0,0,0,0,0,0,0,0,0,0,0,0,0,0,0,0,0,0,0,0,0,0,0,2,0,2,0,2,0,0,0,0,0,0,0,0,0,0,0,0,2,0,2,0,2,0,2,0,0,0,0,0,0,0,0,0,0,0,0,2,0,2,0,2,0,2,0,0,0,0,0,0,0,0,0,0,0,0,0,0,0,0,0,0,0,0,0,0,0,0,0,0,0,0,0,0,0,0,0,0,0,0,0,0,0,0,0,0,0,0,0,0,0,0,0,0,0,0,0,0,0,0,0,0,0,0,0,0,0,0,0,1,0,0,0,0,0,0,0,0,1,1,1,0,1,0,1,1,0,0,0,0,0,0,0,0,0,0,0,0,0,0,0,0,0,0,0,1,0,0,0,0,0,0,0,0,1,1,1,0,1,0,1,1,0,0,0,0,0,0,1,0,0,0,0,0,0,0,0,0,0,0,0,0,0,0,0,0,0,0,1,0,0,0,1,2,0,0,0,0,0,0,0,0,0,0,0,0,0,0,0,0,0,0,0,0,0,0,0,0,0,0,0,0,0,0,0,0,0,0,0,0,0,0,0,0,0,0,0,1,0,0,0,0,2,0,0,1,0,0,1,0,0,0,0,0,0,0,0,0,0,0,0,0,0,0,0,0,0,0,0,0,0,0,0,0,0,0,0,0,0,0,0,0,0,0,0,0,0,0,0,0,0,0,0,0,0,0,0,0,0,0,0,0,0,0,0,0,0,0,0,0,0,0,0,0,0,0,0,0,0,0,2,0,2,0,2,0,0,0,0,0,0,0,0,0,0,0,0,0,0,0,0,0,0,0,0,0,0,0,0,0,0,0,0,0,0,0,0,0,0,0,0,0,0,0,0,0,0,0,0,0,0,0,0,0,0,0,0,0,0,0,0,0,0,0,0,0,0,0,0,0,2,0,0,0,0,0,0,0,0,0,0,0,0,0,0,0,0,0,0,0,0,0,0,0,0,0,0,0,0,0,0,0,2,1,0,0,0,0,0,0,0,0,0,0,0,0,0,0,0,0,0,1,0,0,0,0,2,0,1,0,0,1,0,0,0,0,0,0,0,0,0,0,0,0,0,0,0,0,0,0,0,1,0,0,0,1,1,0,0,0,0,1,0,0,0,0,0,0,0,0,0,0,0,0,0,0,0,0,0,0,0,1,0,0,0,1,1,0,0,0,0,0,0,0,0,0,0,0,0,0,1,0,0,0,0,0,0,0,0,0,0,0,0,0,0,0,0,0,0,0,1,0,0,0,1,1,0,0,0,0,0,0,0,0,1,0,0,1,0,0,0,0,0,0,0,0,0,0,0,0,0,0,0,0,0,0,0,0,0,0,0,0,0,0,0,0,0,0,0,0,0,0,0,0,0,0,0,0,0,0,0,0,0,0,0,0,0,0,0,0,0,0,0,0,0,0,0,0,0,0,0,0,0,0,0,0,0,0,0,2,0,2,0,2,0,0,0,0,0,0,0,0,0,0,0,0,0,0,0,0,0,0,0,0,0,0,0,0,0,0,0,0,0,0,0,0,0,0,0,0,0,0,0,0,0,0,0,0,0,0,1,0,0,0,0,0,0,0,0,0,0,0,0,0,0,0,0,0,0,0,0,1,0,0,0,0,0,0,1,0,0,1,0,0,0,0,0,0,0,0,0,0,0,0,0,0,0,0,0,0,0,0,0,0,0,0,0,0,0,0,0,0,0,0,0,0,0,0,0,0,0,0,0,0,0,0,0,0,0,0,0,0,0,0,0,0,0,0,0,0,0,0,0,0,0,0,0,0,0,0,0,0,0,2,0,2,0,2,0,0,0,0,0,0,0,0,0,0,0,0,0,0,0,0,0,0,0,0,0,0,0,0,0,0,0,0,0,0,0,0,0,0,0,0,0,0,0,0,0,0,0,0,0,0,0,0,0,0,0,0,0,0,0,0,0,0,0,0,0,0,0,0,0,1,0,0,0,0,0,0,0,0,0,0,0,0,0,0,0,0,0,0,0,0,0,0,0,0,1,0,0,0,0,0,0,0,0,0,0,1,0,0,1,0,0,0,0,0,0,0,0,0,0,0,0,0,0,0,0,0,0,0,0,0,0,0,0,0,0,0,0,0,0,0,0,0,0,0,0,0,0,0,0,0,0,0,0,0,0,0,0,0,0,0,0,0,0,0,0,0,0,0,0,0,0,0,0,0,0,0,0,0,0,0,2,0,2,0,2,0,0,0,0,0,0,0,0,0,0,0,0,0,0,0,0,0,0,0,0,0,0,0,0,0,0,0,0,0,0,0,0,0,0,0,0,0,0,0,0,0,0,0,0,0,0,0,0,0,0,0,0,0,0,0,0,0,0,0,0,0,0,0,0,0,0,0,0,0,0,0,0,0,0,0,0,0,0,0,0,0,0,0,0,0,0,0,0,0,0,0,0,0,0,0,0,0,0,0,0,0,0,0,1,0,0,0,0,0,0,0,0,0,0,0,0,0,0,0,0,0,0,0,0,0,0,0,0,0,0,0,0,1,0,0,0,0,0,0,0,0,0,0,0,0]
noncomputable def eA_0 (n : Int) (c : Nat) : Bool := (decide (((0 : Int) ≤ (@Int.fdiv n (100 : Int))) ∧ ((@Int.fdiv n (100 : Int)) < (10 : Int))))
noncomputable def eA_1 (n : Int) (c : Nat) : Bool := (decide (((0 : Int) ≤ (@Int.fmod (@Int.fdiv n (10 : Int)) (10 : Int))) ∧ ((@Int.fmod (@Int.fdiv n (10 : Int)) (10 : Int)) < (10 : Int))))
noncomputable def eA_2 (n : Int) (c : Nat) : Bool := (decide (((0 : Int) ≤ (@Int.fmod n (10 : Int))) ∧ ((@Int.fmod n (10 : Int)) < (10 : Int))))
noncomputable def eA_3 (n : Int) (c : Nat) : Bool := (@List.all _ ([(@Int.fmod n (256 : Int))] : List Int) (fun (i : Int) => (decide (((0 : Int) ≤ i) ∧ (i < (256 : Int))))))
noncomputable def eA_4 (n : Int) (c : Nat) : Bool := ((true && (@asciiL ([120, 92, (eh n), (et n), (eu n), 121, (46 : Nat)] : List Nat))) && (decide ((@List.length _ ([120, 92, (eh n), (et n), (eu n), 121, (46 : Nat)] : List Nat)) ≤ (16777216 : Nat))))
noncomputable def eA_5 (n : Int) (c : Nat) : Bool := (@List.all _ ([(((@UInt8.toNat (@UInt8.ofNat (eh n))) : Nat) : Int)] : List Int) (fun (i : Int) => (decide (((0 : Int) ≤ i) ∧ (i < (256 : Int))))))
noncomputable def eA_6 (n : Int) (c : Nat) : Bool := (decide ((48 : Int) ≤ (((@UInt8.toNat (@UInt8.ofNat (eh n))) : Nat) : Int)))
noncomputable def eA_7 (n : Int) (c : Nat) : Bool := (decide ((((@UInt8.toNat (@UInt8.ofNat (eh n))) : Nat) : Int) ≤ (57 : Int)))
noncomputable def eA_8 (n : Int) (c : Nat) : Bool := (@List.all _ ([(((@UInt8.toNat (@UInt8.ofNat (et n))) : Nat) : Int)] : List Int) (fun (i : Int) => (decide (((0 : Int) ≤ i) ∧ (i < (256 : Int))))))
noncomputable def eA_9 (n : Int) (c : Nat) : Bool := (decide ((48 : Int) ≤ (((@UInt8.toNat (@UInt8.ofNat (et n))) : Nat) : Int)))
noncomputable def eA_10 (n : Int) (c : Nat) : Bool := (decide ((((@UInt8.toNat (@UInt8.ofNat (et n))) : Nat) : Int) ≤ (57 : Int)))
noncomputable def eA_11 (n : Int) (c : Nat) : Bool := (@List.all _ ([(((@UInt8.toNat (@UInt8.ofNat (eu n))) : Nat) : Int)] : List Int) (fun (i : Int) => (decide (((0 : Int) ≤ i) ∧ (i < (256 : Int))))))
noncomputable def eA_12 (n : Int) (c : Nat) : Bool := (decide ((48 : Int) ≤ (((@UInt8.toNat (@UInt8.ofNat (eu n))) : Nat) : Int)))
noncomputable def eA_13 (n : Int) (c : Nat) : Bool := (decide ((((@UInt8.toNat (@UInt8.ofNat (eu n))) : Nat) : Int) ≤ (57 : Int)))
noncomputable def eA_14 (n : Int) (c : Nat) : Bool := (decide ((255 : Int) < ((((((((@UInt8.toNat (@UInt8.ofNat (eh n))) : Nat) : Int) - (48 : Int) : Int) * (10 : Int) : Int) + ((((@UInt8.toNat (@UInt8.ofNat (et n))) : Nat) : Int) - (48 : Int) : Int) : Int) * (10 : Int) : Int) + ((((@UInt8.toNat (@UInt8.ofNat (eu n))) : Nat) : Int) - (48 : Int) : Int) : Int)))
noncomputable def eA_15 (n : Int) (c : Nat) : Bool := (decide ((255 : Int) < n))
noncomputable def eA_16 (n : Int) (c : Nat) : Bool := ((@asciiL ([120, 92, (eh n), (et n), (eu n), (121 : Nat)] : List Nat)) && (decide ((@List.length _ ([120, 92, (eh n), (et n), (eu n), (121 : Nat)] : List Nat)) ≤ (16777216 : Nat))))
noncomputable def eA_17 (n : Int) (c : Nat) : Bool := ((@asciiB ([(120 : UInt8), (92 : UInt8), (@UInt8.ofNat (eh n)), (@UInt8.ofNat (et n)), (@UInt8.ofNat (eu n)), (121 : UInt8)] : List UInt8)) && (decide ((@List.length _ ([(120 : UInt8), (92 : UInt8), (@UInt8.ofNat (eh n)), (@UInt8.ofNat (et n)), (@UInt8.ofNat (eu n)), (121 : UInt8)] : List UInt8)) ≤ (16777216 : Nat))))
noncomputable def eA_18 (n : Int) (c : Nat) : Bool := (@strEq (Str.mk (Array.mk ([(@UInt8.toNat (@UInt8.ofNat (eh n)))] : List Nat))) (m1 13))
noncomputable def eA_19 (n : Int) (c : Nat) : Bool := (@strEq (Str.mk (Array.mk ([(@UInt8.toNat (@UInt8.ofNat (eh n)))] : List Nat))) (m1 10))
noncomputable def eA_20 (n : Int) (c : Nat) : Bool := (@strEq (Str.mk (Array.mk ([(@UInt8.toNat (@UInt8.ofNat (et n)))] : List Nat))) (m1 13))
noncomputable def eA_21 (n : Int) (c : Nat) : Bool := (@strEq (Str.mk (Array.mk ([(@UInt8.toNat (@UInt8.ofNat (et n)))] : List Nat))) (m1 10))
noncomputable def eA_22 (n : Int) (c : Nat) : Bool := (@inStrs (Str.mk (Array.mk ([(@UInt8.toNat (@UInt8.ofNat (et n)))] : List Nat))) ([(m1 32), (m1 9), (m1 10), (m1 59), (m1 40), (m1 41), (m1 34)] : List PySem.Str))
noncomputable def eA_23 (n : Int) (c : Nat) : Bool := (@strEq (Str.mk (Array.mk ([(@UInt8.toNat (@UInt8.ofNat (et n)))] : List Nat))) (m1 92))
noncomputable def eA_24 (n : Int) (c : Nat) : Bool := (@strEq (Str.mk (Array.mk ([(@UInt8.toNat (@UInt8.ofNat (eu n)))] : List Nat))) (m1 13))
noncomputable def eA_25 (n : Int) (c : Nat) : Bool := (@strEq (Str.mk (Array.mk ([(@UInt8.toNat (@UInt8.ofNat (eu n)))] : List Nat))) (m1 10))
noncomputable def eA_26 (n : Int) (c : Nat) : Bool := (@inStrs (Str.mk (Array.mk ([(@UInt8.toNat (@UInt8.ofNat (eu n)))] : List Nat))) ([(m1 32), (m1 9), (m1 10), (m1 59), (m1 40), (m1 41), (m1 34)] : List PySem.Str))
noncomputable def eA_27 (n : Int) (c : Nat) : Bool := (@strEq (Str.mk (Array.mk ([(@UInt8.toNat (@UInt8.ofNat (eu n)))] : List Nat))) (m1 92))
noncomputable def eA_28 (n : Int) (c : Nat) : Bool := (@inStrs (Str.mk (Array.mk ([(@List.getD _ ([120, 92, (@UInt8.toNat (@UInt8.ofNat (eh n))), (@UInt8.toNat (@UInt8.ofNat (et n))), (@UInt8.toNat (@UInt8.ofNat (eu n))), (121 : Nat)] : List Nat) (2 : Nat) (0 : Nat))] : List Nat))) digs)
noncomputable def eA_29 (n : Int) (c : Nat) : Bool := (@inStrs (Str.mk (Array.mk ([(@List.getD _ ([120, 92, (@UInt8.toNat (@UInt8.ofNat (eh n))), (@UInt8.toNat (@UInt8.ofNat (et n))), (@UInt8.toNat (@UInt8.ofNat (eu n))), (121 : Nat)] : List Nat) (3 : Nat) (0 : Nat))] : List Nat))) digs)
noncomputable def eA_30 (n : Int) (c : Nat) : Bool := (@inStrs (Str.mk (Array.mk ([(@List.getD _ ([120, 92, (@UInt8.toNat (@UInt8.ofNat (eh n))), (@UInt8.toNat (@UInt8.ofNat (et n))), (@UInt8.toNat (@UInt8.ofNat (eu n))), (121 : Nat)] : List Nat) (4 : Nat) (0 : Nat))] : List Nat))) digs)
noncomputable def eA_31 (n : Int) (c : Nat) : Bool := (decide (((48 : Nat) ≤ (@List.getD _ ([120, 92, (@UInt8.toNat (@UInt8.ofNat (eh n))), (@UInt8.toNat (@UInt8.ofNat (et n))), (@UInt8.toNat (@UInt8.ofNat (eu n))), (121 : Nat)] : List Nat) (2 : Nat) (0 : Nat))) ∧ ((@List.getD _ ([120, 92, (@UInt8.toNat (@UInt8.ofNat (eh n))), (@UInt8.toNat (@UInt8.ofNat (et n))), (@UInt8.toNat (@UInt8.ofNat (eu n))), (121 : Nat)] : List Nat) (2 : Nat) (0 : Nat)) ≤ (57 : Nat))))
noncomputable def eA_32 (n : Int) (c : Nat) : Bool := (decide (((48 : Nat) ≤ (@List.getD _ ([120, 92, (@UInt8.toNat (@UInt8.ofNat (eh n))), (@UInt8.toNat (@UInt8.ofNat (et n))), (@UInt8.toNat (@UInt8.ofNat (eu n))), (121 : Nat)] : List Nat) (3 : Nat) (0 : Nat))) ∧ ((@List.getD _ ([120, 92, (@UInt8.toNat (@UInt8.ofNat (eh n))), (@UInt8.toNat (@UInt8.ofNat (et n))), (@UInt8.toNat (@UInt8.ofNat (eu n))), (121 : Nat)] : List Nat) (3 : Nat) (0 : Nat)) ≤ (57 : Nat))))
noncomputable def eA_33 (n : Int) (c : Nat) : Bool := (decide (((48 : Nat) ≤ (@List.getD _ ([120, 92, (@UInt8.toNat (@UInt8.ofNat (eh n))), (@UInt8.toNat (@UInt8.ofNat (et n))), (@UInt8.toNat (@UInt8.ofNat (eu n))), (121 : Nat)] : List Nat) (4 : Nat) (0 : Nat))) ∧ ((@List.getD _ ([120, 92, (@UInt8.toNat (@UInt8.ofNat (eh n))), (@UInt8.toNat (@UInt8.ofNat (et n))), (@UInt8.toNat (@UInt8.ofNat (eu n))), (121 : Nat)] : List Nat) (4 : Nat) (0 : Nat)) ≤ (57 : Nat))))
noncomputable def eA_34 (n : Int) (c : Nat) : Bool := (decide ((255 : Int) < (((((((@List.getD _ ([120, 92, (@UInt8.toNat (@UInt8.ofNat (eh n))), (@UInt8.toNat (@UInt8.ofNat (et n))), (@UInt8.toNat (@UInt8.ofNat (eu n))), (121 : Nat)] : List Nat) (2 : Nat) (0 : Nat)) - (48 : Nat) : Nat) : Nat) : Int) * (100 : Int) : Int) + (((((@List.getD _ ([120, 92, (@UInt8.toNat (@UInt8.ofNat (eh n))), (@UInt8.toNat (@UInt8.ofNat (et n))), (@UInt8.toNat (@UInt8.ofNat (eu n))), (121 : Nat)] : List Nat) (3 : Nat) (0 : Nat)) - (48 : Nat) : Nat) : Nat) : Int) * (10 : Int) : Int) : Int) + ((((@List.getD _ ([120, 92, (@UInt8.toNat (@UInt8.ofNat (eh n))), (@UInt8.toNat (@UInt8.ofNat (et n))), (@UInt8.toNat (@UInt8.ofNat (eu n))), (121 : Nat)] : List Nat) (4 : Nat) (0 : Nat)) - (48 : Nat) : Nat) : Nat) : Int) : Int)))
noncomputable def eA_35 (n : Int) (c : Nat) : Bool := ((true && (@asciiL ([120, 92, c, 121, (46 : Nat)] : List Nat))) && (decide ((@List.length _ ([120, 92, c, 121, (46 : Nat)] : List Nat)) ≤ (16777216 : Nat))))
noncomputable def eA_36 (n : Int) (c : Nat) : Bool := (@List.all _ ([(((@UInt8.toNat (@UInt8.ofNat c)) : Nat) : Int)] : List Int) (fun (i : Int) => (decide (((0 : Int) ≤ i) ∧ (i < (256 : Int))))))
noncomputable def eA_37 (n : Int) (c : Nat) : Bool := (decide ((48 : Int) ≤ (((@UInt8.toNat (@UInt8.ofNat c)) : Nat) : Int)))
noncomputable def eA_38 (n : Int) (c : Nat) : Bool := (decide ((((@UInt8.toNat (@UInt8.ofNat c)) : Nat) : Int) ≤ (57 : Int)))
noncomputable def eA_39 (n : Int) (c : Nat) : Bool := ((@asciiL ([c] : List Nat)) && (decide ((@List.length _ ([c] : List Nat)) ≤ (16777216 : Nat))))
noncomputable def eA_40 (n : Int) (c : Nat) : Bool := (!((@u8sEq ([(120 : UInt8), (@UInt8.ofNat (@Int.toNat (((@UInt8.toNat (@UInt8.ofNat c)) : Nat) : Int))), (121 : UInt8)] : List UInt8) ([(120 : UInt8), (@UInt8.ofNat c), (121 : UInt8)] : List UInt8)) && true))
noncomputable def eA_41 (n : Int) (c : Nat) : Bool := ((@asciiL ([120, 92, c, (121 : Nat)] : List Nat)) && (decide ((@List.length _ ([120, 92, c, (121 : Nat)] : List Nat)) ≤ (16777216 : Nat))))
noncomputable def eA_42 (n : Int) (c : Nat) : Bool := ((@asciiB ([(120 : UInt8), (92 : UInt8), (@UInt8.ofNat c), (121 : UInt8)] : List UInt8)) && (decide ((@List.length _ ([(120 : UInt8), (92 : UInt8), (@UInt8.ofNat c), (121 : UInt8)] : List UInt8)) ≤ (16777216 : Nat))))
noncomputable def eA_43 (n : Int) (c : Nat) : Bool := (@strEq (Str.mk (Array.mk ([(@UInt8.toNat (@UInt8.ofNat c))] : List Nat))) (m1 13))
noncomputable def eA_44 (n : Int) (c : Nat) : Bool := (@strEq (Str.mk (Array.mk ([(@UInt8.toNat (@UInt8.ofNat c))] : List Nat))) (m1 10))
noncomputable def eA_45 (n : Int) (c : Nat) : Bool := (@inStrs (Str.mk (Array.mk ([(@List.getD _ ([120, 92, (@UInt8.toNat (@UInt8.ofNat c)), (121 : Nat)] : List Nat) (2 : Nat) (0 : Nat))] : List Nat))) digs)
noncomputable def eA_46 (n : Int) (c : Nat) : Bool := ((@asciiL ([(@List.getD _ ([120, 92, (@UInt8.toNat (@UInt8.ofNat c)), (121 : Nat)] : List Nat) (2 : Nat) (0 : Nat))] : List Nat)) && (decide ((@List.length _ ([(@List.getD _ ([120, 92, (@UInt8.toNat (@UInt8.ofNat c)), (121 : Nat)] : List Nat) (2 : Nat) (0 : Nat))] : List Nat)) ≤ (16777216 : Nat))))
noncomputable def eA_47 (n : Int) (c : Nat) : Bool := (!((@strEq (Str.mk (Array.mk ([(@List.getD _ ([120, 92, (@UInt8.toNat (@UInt8.ofNat c)), (121 : Nat)] : List Nat) (0 : Nat) (0 : Nat)), (@List.getD _ ([120, 92, (@UInt8.toNat (@UInt8.ofNat c)), (121 : Nat)] : List Nat) (2 : Nat) (0 : Nat)), (@List.getD _ ([120, 92, (@UInt8.toNat (@UInt8.ofNat c)), (121 : Nat)] : List Nat) (3 : Nat) (0 : Nat))] : List Nat))) (Str.mk (Array.mk ([120, c, (121 : Nat)] : List Nat)))) && ((@u8sEq ([(@UInt8.ofNat (@List.getD _ ([120, 92, (@UInt8.toNat (@UInt8.ofNat c)), (121 : Nat)] : List Nat) (0 : Nat) (0 : Nat))), (@UInt8.ofNat (@List.getD _ ([120, 92, (@UInt8.toNat (@UInt8.ofNat c)), (121 : Nat)] : List Nat) (2 : Nat) (0 : Nat))), (@UInt8.ofNat (@List.getD _ ([120, 92, (@UInt8.toNat (@UInt8.ofNat c)), (121 : Nat)] : List Nat) (3 : Nat) (0 : Nat)))] : List UInt8) ([(120 : UInt8), (@UInt8.ofNat c), (121 : UInt8)] : List UInt8)) && true)))
noncomputable def eA_48 (n : Int) (c : Nat) : Bool := ((true && (@asciiL ([120, 92, (eu n)] : List Nat))) && (decide ((@List.length _ ([120, 92, (eu n)] : List Nat)) ≤ (16777216 : Nat))))
noncomputable def eA_49 (n : Int) (c : Nat) : Bool := ((true && (@asciiL ([120, 92, (eu n), (49 : Nat)] : List Nat))) && (decide ((@List.length _ ([120, 92, (eu n), (49 : Nat)] : List Nat)) ≤ (16777216 : Nat))))
noncomputable def eA_50 (n : Int) (c : Nat) : Bool := ((true && (@asciiL ([120, 92, (eu n), 97, 49, (121 : Nat)] : List Nat))) && (decide ((@List.length _ ([120, 92, (eu n), 97, 49, (121 : Nat)] : List Nat)) ≤ (16777216 : Nat))))
noncomputable def eA_51 (n : Int) (c : Nat) : Bool := ((@asciiL ([120, 92, (eu n)] : List Nat)) && (decide ((@List.length _ ([120, 92, (eu n)] : List Nat)) ≤ (16777216 : Nat))))
noncomputable def eA_52 (n : Int) (c : Nat) : Bool := ((@asciiB ([(120 : UInt8), (92 : UInt8), (@UInt8.ofNat (eu n))] : List UInt8)) && (decide ((@List.length _ ([(120 : UInt8), (92 : UInt8), (@UInt8.ofNat (eu n))] : List UInt8)) ≤ (16777216 : Nat))))
noncomputable def eA_53 (n : Int) (c : Nat) : Bool := (@inStrs (Str.mk (Array.mk ([(@List.getD _ ([120, 92, (@UInt8.toNat (@UInt8.ofNat (eu n)))] : List Nat) (2 : Nat) (0 : Nat))] : List Nat))) digs)
noncomputable def eA_54 (n : Int) (c : Nat) : Bool := ((@asciiL ([120, 92, (eu n), (49 : Nat)] : List Nat)) && (decide ((@List.length _ ([120, 92, (eu n), (49 : Nat)] : List Nat)) ≤ (16777216 : Nat))))
noncomputable def eA_55 (n : Int) (c : Nat) : Bool := ((@asciiB ([(120 : UInt8), (92 : UInt8), (@UInt8.ofNat (eu n)), (49 : UInt8)] : List UInt8)) && (decide ((@List.length _ ([(120 : UInt8), (92 : UInt8), (@UInt8.ofNat (eu n)), (49 : UInt8)] : List UInt8)) ≤ (16777216 : Nat))))
noncomputable def eA_56 (n : Int) (c : Nat) : Bool := (@inStrs (Str.mk (Array.mk ([(@List.getD _ ([120, 92, (@UInt8.toNat (@UInt8.ofNat (eu n))), (49 : Nat)] : List Nat) (2 : Nat) (0 : Nat))] : List Nat))) digs)
noncomputable def eA_57 (n : Int) (c : Nat) : Bool := ((@asciiL ([120, 92, (eu n), 97, 49, (121 : Nat)] : List Nat)) && (decide ((@List.length _ ([120, 92, (eu n), 97, 49, (121 : Nat)] : List Nat)) ≤ (16777216 : Nat))))
noncomputable def eA_58 (n : Int) (c : Nat) : Bool := ((@asciiB ([(120 : UInt8), (92 : UInt8), (@UInt8.ofNat (eu n)), (97 : UInt8), (49 : UInt8), (121 : UInt8)] : List UInt8)) && (decide ((@List.length _ ([(120 : UInt8), (92 : UInt8), (@UInt8.ofNat (eu n)), (97 : UInt8), (49 : UInt8), (121 : UInt8)] : List UInt8)) ≤ (16777216 : Nat))))
noncomputable def eA_59 (n : Int) (c : Nat) : Bool := (@inStrs (Str.mk (Array.mk ([(@List.getD _ ([120, 92, (@UInt8.toNat (@UInt8.ofNat (eu n))), 97, 49, (121 : Nat)] : List Nat) (2 : Nat) (0 : Nat))] : List Nat))) digs)
noncomputable def eA_obs (n : Int) (c : Nat) : List (Bool × Bool) := [(eA_0 n c, true), (eA_1 n c, true), (eA_2 n c, true), (eA_3 n c, true), (eA_4 n c, true), (eA_5 n c, true), (eA_6 n c, true), (eA_7 n c, true), (eA_8 n c, true), (eA_9 n c, true), (eA_10 n c, true), (eA_11 n c, true), (eA_12 n c, true), (eA_13 n c, true), (eA_14 n c, true), (eA_15 n c, true), (eA_15 n c, true), (eA_16 n c, true), (eA_17 n c, true), (eA_18 n c, false), (eA_19 n c, false), (eA_19 n c, false), (eA_20 n c, false), (eA_21 n c, false), (eA_22 n c, false), (eA_23 n c, false), (eA_24 n c, false), (eA_25 n c, false), (eA_26 n c, false), (eA_27 n c, false), (eA_28 n c, true), (eA_29 n c, true), (eA_30 n c, true), (eA_31 n c, true), (eA_32 n c, true), (eA_33 n c, true), (eA_34 n c, true), (eA_28 n c, true), (eA_29 n c, true), (eA_30 n c, true), (eA_31 n c, true), (eA_32 n c, true), (eA_33 n c, true), (eA_34 n c, true), (eA_35 n c, true), (eA_36 n c, true), (eA_37 n c, true), (eA_38 n c, false), (eA_39 n c, true), (eA_40 n c, false), (eA_41 n c, true), (eA_42 n c, true), (eA_43 n c, false), (eA_44 n c, false), (eA_44 n c, false), (eA_45 n c, false), (eA_45 n c, false), (eA_46 n c, true), (eA_39 n c, true), (eA_47 n c, false), (eA_2 n c, true), (eA_48 n c, true), (eA_11 n c, true), (eA_12 n c, true), (eA_13 n c, true), (eA_49 n c, true), (eA_11 n c, true), (eA_12 n c, true), (eA_13 n c, true), (eA_50 n c, true), (eA_11 n c, true), (eA_12 n c, true), (eA_13 n c, true), (eA_51 n c, true), (eA_52 n c, true), (eA_24 n c, false), (eA_25 n c, false), (eA_25 n c, false), (eA_53 n c, true), (eA_53 n c, true), (eA_54 n c, true), (eA_55 n c, true), (eA_24 n c, false), (eA_25 n c, false), (eA_25 n c, false), (eA_56 n c, true), (eA_56 n c, true), (eA_57 n c, true), (eA_58 n c, true), (eA_24 n c, false), (eA_25 n c, false), (eA_25 n c, false), (eA_59 n c, true), (eA_59 n c, true)]
theorem eA_run (n : Int) (c : Nat) (l : List (Nat × List MV)) (loc : Loc) : outc ((fnsN (tl l) N0).1.ca (.gl 958) [MV.int n, MV.str { cps := { toList := [c] } }] ⟨[], loc, eA_orc⟩) = some (eA_val n c, loc, eA_obs n c) := by kernel_rfl
noncomputable def eB_val (n : Int) (c : Nat) : MV := (@MV.bool true)
noncomputable def eB_orc : List (Option Bool) := oc [0,1,0,0,0,1,0,0,1,0,0,0,1,0,0,0,0,1,0,0,0,0,0,0,0,0,0,0,0,0,0,0,0,0,0,0,0,1,0,0,0,1,1,0,1,0,0,0,1,1,0,0,0,1,0,0,0,1,1,0,0,2,0,1,0,0,0,0,0,0,0,0,0,0,0,0,0,0,0,0,0,0,0,0,0,0,0,0,0,0,0,0,0,0,0,0,0,0,0,0,0,0,0,0,0,0,0,0,2,0,0,0,0,2,2,1,0,0,0,0,0,0,0,1,0,0,1,0,0,0,0,0,0,0,0,0,0,0,0,0,0,0,0,0,0,0,0,0,0,0,0,0,0,0,0,0,0,0,0,0,0,0,0,0,0,0,0,0,0,0,0,0,0,0,0,0,0,0,0,0,0,0,0,0,0,0,0,0,0,0,0,0,0,0,0,0,0,0,2,0,2,0,2,0,0,0,0,0,0,0,0,0,0,0,0,2,0,2,0,2,0,2,0,0,0,0,0,0,0,0,0,0,0,0,2,0,2,0,2,0,2,0,0,0,0,0,0,0,0,0,0,0,0,0,0,0,0,0,0,0,0,0,0,0,0,0,0,0,0,0,0,0,0,0,0,0,0,0,0,0,0,0,0,0,0,0,0,0,0,0,0,0,0,0,0,0,0,0,0,0,0,0,0,0,0,0,1,0,0,0,0,0,0,0,0,1,1,1,0,1,0,1,2,1,0,0,0,0,0,0,0,0,0,0,0,0,0,0,0,0,0,0,0,0,0,0,0,0,0,0,0,0,0,0,0,1,0,0,0,0,0,0,0,0,1,1,1,0,1,0,1,2,1,0,0,0,0,0,0,0,0,0,0,0,0,0,0,0,2,0,0,0,1,0,0,0,0,0,0,0,0,0,0,0,0,0,0,0,0,0,0,0,1,0,0,0,1,2,0,0,0,0,0,0,0,0,0,0,0,0,0,0,0,0,0,0,0,0,0,0,0,0,0,0,0,0,0,0,0,0,0,0,0,0,0,0,0,0,0,0,0,1,0,0,0,0,2,0,0,1,0,0,1,0,0,0,0,0,0,0,0,0,0,0,0,0,0,0,0,0,0,0,0,0,0,0,0,0,0,0,0,0,0,0,0,0,0,0,0,0,0,0,0,0,0,0,0,0,0,0,0,0,0,0,0,0,0,0,0,0,0,0,0,0,0,0,0,0,0,0,0,0,0,0,2,0,2,0,2,0,0,0,0,0,0,0,0,0,0,0,0,0,0,0,0,0,0,0,0,0,0,0,0,0,0,0,0,0,0,0,0,0,0,0,0,0,0,0,0,0,0,0,0,0,0,0,0,0,0,0,0,0,0,0,0,0,0,0,0,0,0,0,0,0,2,0,0,0,0,0,0,0,0,0,0,0,0,0,0,0,0,0,0,0,0,0,0,0,0,0,0,0,0,0,0,0,2,1,0,0,0,0,0,0,0,0,0,0,0,0,0,0,0,0,0,1,0,0,0,0,2,0,1,0,0,1,0,0,0,0,0,0,0,0,0,0,0,0,0,0,0,0,0,0,0,1,0,0,0,1,1,0,0,0,0,1,0,0,0,0,0,0,0,0,0,0,0,0,0,0,0,0,0,0,0,1,0,0,0,1,1,0,0,0,0,0,0,0,0,0,0,0,0,0,1,0,0,0,0,0,0,0,0,0,0,0,0,0,0,0,0,0,0,0,1,0,0,0,1,1,0,0,0,0,0,0,0,0,1,0,0,1,0,0,0,0,0,0,0,0,0,0,0,0,0,0,0,0,0,0,0,0,0,0,0,0,0,0,0,0,0,0,0,0,0,0,0,0,0,0,0,0,0,0,0,0,0,0,0,0,0,0,0,0,0,0,0,0,0,0,0,0,0,0,0,0,0,0,0,0,0,0,0,2,0,2,0,2,0,0,0,0,0,0,0,0,0,0,0,0,0,0,0,0,0,0,0,0,0,0,0,0,0,0,0,0,0,0,0,0,0,0,0,0,0,0,0,0,0,0,0,0,0,0,1,0,0,0,0,0,0,0,0,0,0,0,0,0,0,0,0,0,0,0,0,1,0,0,0,0,0,0,1,0,0,1,0,0,0,0,0,0,0,0,0,0,0,0,0,0,0,0,0,0,0,0,0,0,0,0,0,0,0,0,0,0,0,0,0,0,0,0,0,0,0,0,0,0,0,0,0,0,0,0,0,0,0,0,0,0,0,0,0,0,0,0,0,0,0,0,0,0,0,0,0,0,0,2,0,2,0,2,0,0,0,0,0,0,0,0,0,0,0,0,0,0,0,0,0,0,0,0,0,0,0,0,0,0,0,0,0,0,0,0,0,0,0,0,0,0,0,0,0,0,0,0,0,0,0,0,0,0,0,0,0,0,0,0,0,0,0,0,0,0,0,0,0,1,0,0,0,0,0,0,0,0,0,0,0,0,0,0,0,0,0,0,0,0,0,0,0,0,1,0,0,0,0,0,0,0,0,0,0,1,0,0,1,0,0,0,0,0,0,0,0,0,0,0,0,0,0,0,0,0,0,0,0,0,0,0,0,0,0,0,0,0,0,0,0,0,0,0,0,0,0,0,0,0,0,0,0,0,0,0,0,0,0,0,0,0,0,0,0,0,0,0,0,0,0,0,0,0,0,0,0,0,0,0,2,0,2,0,2,0,0,0,0,0,0,0,0,0,0,0,0,0,0,0,0,0,0,0,0,0,0,0,0,0,0,0,0,0,0,0,0,0,0,0,0,0,0,0,0,0,0,0,0,0,0,0,0,0,0,0,0,0,0,0,0,0,0,0,0,0,0,0,0,0,0,0,0,0,0,0,0,0,0,0,0,0,0,0,0,0,0,0,0,0,0,0,0,0,0,0,0,0,0,0,0,0,0,0,0,0,0,0,1,0,0,0,0,0,0,0,0,0,0,0,0,0,0,0,0,0,0,0,0,0,0,0,0,0,0,0,0,1,0,0,0,0,0,0,0,0,0,0,0,0]
noncomputable def eB_15 (n : Int) (c : Nat) : Bool := (@List.all _ ([((((((((@UInt8.toNat (@UInt8.ofNat (eh n))) : Nat) : Int) - (48 : Int) : Int) * (10 : Int) : Int) + ((((@UInt8.toNat (@UInt8.ofNat (et n))) : Nat) : Int) - (48 : Int) : Int) : Int) * (10 : Int) : Int) + ((((@UInt8.toNat (@UInt8.ofNat (eu n))) : Nat) : Int) - (48 : Int) : Int) : Int)] : List Int) (fun (i : Int) => (decide (((0 : Int) ≤ i) ∧ (i < (256 : Int))))))
noncomputable def eB_17 (n : Int) (c : Nat) : Bool := (!((@u8sEq ([(120 : UInt8), (@UInt8.ofNat (@Int.toNat ((((((((@UInt8.toNat (@UInt8.ofNat (eh n))) : Nat) : Int) - (48 : Int) : Int) * (10 : Int) : Int) + ((((@UInt8.toNat (@UInt8.ofNat (et n))) : Nat) : Int) - (48 : Int) : Int) : Int) * (10 : Int) : Int) + ((((@UInt8.toNat (@UInt8.ofNat (eu n))) : Nat) : Int) - (48 : Int) : Int) : Int))), (121 : UInt8)] : List UInt8) ([(120 : UInt8), (@UInt8.ofNat (@Int.toNat (@Int.fmod n (256 : Int)))), (121 : UInt8)] : List UInt8)) && true))
noncomputable def eB_18 (n : Int) (c : Nat) : Bool := (decide (((0 : Int) ≤ n) ∧ (n ≤ (1114111 : Int))))
noncomputable def eB_38 (n : Int) (c : Nat) : Bool := (decide (((0 : Int) ≤ (((((((@List.getD _ ([120, 92, (@UInt8.toNat (@UInt8.ofNat (eh n))), (@UInt8.toNat (@UInt8.ofNat (et n))), (@UInt8.toNat (@UInt8.ofNat (eu n))), (121 : Nat)] : List Nat) (2 : Nat) (0 : Nat)) - (48 : Nat) : Nat) : Nat) : Int) * (100 : Int) : Int) + (((((@List.getD _ ([120, 92, (@UInt8.toNat (@UInt8.ofNat (eh n))), (@UInt8.toNat (@UInt8.ofNat (et n))), (@UInt8.toNat (@UInt8.ofNat (eu n))), (121 : Nat)] : List Nat) (3 : Nat) (0 : Nat)) - (48 : Nat) : Nat) : Nat) : Int) * (10 : Int) : Int) : Int) + ((((@List.getD _ ([120, 92, (@UInt8.toNat (@UInt8.ofNat (eh n))), (@UInt8.toNat (@UInt8.ofNat (et n))), (@UInt8.toNat (@UInt8.ofNat (eu n))), (121 : Nat)] : List Nat) (4 : Nat) (0 : Nat)) - (48 : Nat) : Nat) : Nat) : Int) : Int)) ∧ ((((((((@List.getD _ ([120, 92, (@UInt8.toNat (@UInt8.ofNat (eh n))), (@UInt8.toNat (@UInt8.ofNat (et n))), (@UInt8.toNat (@UInt8.ofNat (eu n))), (121 : Nat)] : List Nat) (2 : Nat) (0 : Nat)) - (48 : Nat) : Nat) : Nat) : Int) * (100 : Int) : Int) + (((((@List.getD _ ([120, 92, (@UInt8.toNat (@UInt8.ofNat (eh n))), (@UInt8.toNat (@UInt8.ofNat (et n))), (@UInt8.toNat (@UInt8.ofNat (eu n))), (121 : Nat)] : List Nat) (3 : Nat) (0 : Nat)) - (48 : Nat) : Nat) : Nat) : Int) * (10 : Int) : Int) : Int) + ((((@List.getD _ ([120, 92, (@UInt8.toNat (@UInt8.ofNat (eh n))), (@UInt8.toNat (@UInt8.ofNat (et n))), (@UInt8.toNat (@UInt8.ofNat (eu n))), (121 : Nat)] : List Nat) (4 : Nat) (0 : Nat)) - (48 : Nat) : Nat) : Nat) : Int) : Int) ≤ (1114111 : Int))))
noncomputable def eB_39 (n : Int) (c : Nat) : Bool := (decide (((0 : Int) ≤ (((((((@List.getD _ ([120, 92, (@UInt8.toNat (@UInt8.ofNat (eh n))), (@UInt8.toNat (@UInt8.ofNat (et n))), (@UInt8.toNat (@UInt8.ofNat (eu n))), (121 : Nat)] : List Nat) (2 : Nat) (0 : Nat)) - (48 : Nat) : Nat) : Nat) : Int) * (100 : Int) : Int) + (((((@List.getD _ ([120, 92, (@UInt8.toNat (@UInt8.ofNat (eh n))), (@UInt8.toNat (@UInt8.ofNat (et n))), (@UInt8.toNat (@UInt8.ofNat (eu n))), (121 : Nat)] : List Nat) (3 : Nat) (0 : Nat)) - (48 : Nat) : Nat) : Nat) : Int) * (10 : Int) : Int) : Int) + ((((@List.getD _ ([120, 92, (@UInt8.toNat (@UInt8.ofNat (eh n))), (@UInt8.toNat (@UInt8.ofNat (et n))), (@UInt8.toNat (@UInt8.ofNat (eu n))), (121 : Nat)] : List Nat) (4 : Nat) (0 : Nat)) - (48 : Nat) : Nat) : Nat) : Int) : Int)) ∧ (((((((((@List.getD _ ([120, 92, (@UInt8.toNat (@UInt8.ofNat (eh n))), (@UInt8.toNat (@UInt8.ofNat (et n))), (@UInt8.toNat (@UInt8.ofNat (eu n))), (121 : Nat)] : List Nat) (2 : Nat) (0 : Nat)) - (48 : Nat) : Nat) : Nat) : Int) * (100 : Int) : Int) + (((((@List.getD _ ([120, 92, (@UInt8.toNat (@UInt8.ofNat (eh n))), (@UInt8.toNat (@UInt8.ofNat (et n))), (@UInt8.toNat (@UInt8.ofNat (eu n))), (121 : Nat)] : List Nat) (3 : Nat) (0 : Nat)) - (48 : Nat) : Nat) : Nat) : Int) * (10 : Int) : Int) : Int) + ((((@List.getD _ ([120, 92, (@UInt8.toNat (@UInt8.ofNat (eh n))), (@UInt8.toNat (@UInt8.ofNat (et n))), (@UInt8.toNat (@UInt8.ofNat (eu n))), (121 : Nat)] : List Nat) (4 : Nat) (0 : Nat)) - (48 : Nat) : Nat) : Nat) : Int) : Int) < (256 : Int)) ∧ (((@List.length _ ([(@UInt8.ofNat (@List.getD _ ([120, 92, (@UInt8.toNat (@UInt8.ofNat (eh n))), (@UInt8.toNat (@UInt8.ofNat (et n))), (@UInt8.toNat (@UInt8.ofNat (eu n))), (121 : Nat)] : List Nat) (0 : Nat) (0 : Nat)))] : List UInt8)) + (1 : Nat) : Nat) ≤ (16777216 : Nat)))))
noncomputable def eB_40 (n : Int) (c : Nat) : Bool := (!((@strEq (Str.mk (Array.mk ([(@List.getD _ ([120, 92, (@UInt8.toNat (@UInt8.ofNat (eh n))), (@UInt8.toNat (@UInt8.ofNat (et n))), (@UInt8.toNat (@UInt8.ofNat (eu n))), (121 : Nat)] : List Nat) (0 : Nat) (0 : Nat)), (@Int.toNat (((((((@List.getD _ ([120, 92, (@UInt8.toNat (@UInt8.ofNat (eh n))), (@UInt8.toNat (@UInt8.ofNat (et n))), (@UInt8.toNat (@UInt8.ofNat (eu n))), (121 : Nat)] : List Nat) (2 : Nat) (0 : Nat)) - (48 : Nat) : Nat) : Nat) : Int) * (100 : Int) : Int) + (((((@List.getD _ ([120, 92, (@UInt8.toNat (@UInt8.ofNat (eh n))), (@UInt8.toNat (@UInt8.ofNat (et n))), (@UInt8.toNat (@UInt8.ofNat (eu n))), (121 : Nat)] : List Nat) (3 : Nat) (0 : Nat)) - (48 : Nat) : Nat) : Nat) : Int) * (10 : Int) : Int) : Int) + ((((@List.getD _ ([120, 92, (@UInt8.toNat (@UInt8.ofNat (eh n))), (@UInt8.toNat (@UInt8.ofNat (et n))), (@UInt8.toNat (@UInt8.ofNat (eu n))), (121 : Nat)] : List Nat) (4 : Nat) (0 : Nat)) - (48 : Nat) : Nat) : Nat) : Int) : Int)), (@List.getD _ ([120, 92, (@UInt8.toNat (@UInt8.ofNat (eh n))), (@UInt8.toNat (@UInt8.ofNat (et n))), (@UInt8.toNat (@UInt8.ofNat (eu n))), (121 : Nat)] : List Nat) (5 : Nat) (0 : Nat))] : List Nat))) (Str.mk (Array.mk ([120, (@Int.toNat n), (121 : Nat)] : List Nat)))) && ((@u8sEq ([(@UInt8.ofNat (@List.getD _ ([120, 92, (@UInt8.toNat (@UInt8.ofNat (eh n))), (@UInt8.toNat (@UInt8.ofNat (et n))), (@UInt8.toNat (@UInt8.ofNat (eu n))), (121 : Nat)] : List Nat) (0 : Nat) (0 : Nat))), (@UInt8.ofNat (@Int.toNat (((((((@List.getD _ ([120, 92, (@UInt8.toNat (@UInt8.ofNat (eh n))), (@UInt8.toNat (@UInt8.ofNat (et n))), (@UInt8.toNat (@UInt8.ofNat (eu n))), (121 : Nat)] : List Nat) (2 : Nat) (0 : Nat)) - (48 : Nat) : Nat) : Nat) : Int) * (100 : Int) : Int) + (((((@List.getD _ ([120, 92, (@UInt8.toNat (@UInt8.ofNat (eh n))), (@UInt8.toNat (@UInt8.ofNat (et n))), (@UInt8.toNat (@UInt8.ofNat (eu n))), (121 : Nat)] : List Nat) (3 : Nat) (0 : Nat)) - (48 : Nat) : Nat) : Nat) : Int) * (10 : Int) : Int) : Int) + ((((@List.getD _ ([120, 92, (@UInt8.toNat (@UInt8.ofNat (eh n))), (@UInt8.toNat (@UInt8.ofNat (et n))), (@UInt8.toNat (@UInt8.ofNat (eu n))), (121 : Nat)] : List Nat) (4 : Nat) (0 : Nat)) - (48 : Nat) : Nat) : Nat) : Int) : Int))), (@UInt8.ofNat (@List.getD _ ([120, 92, (@UInt8.toNat (@UInt8.ofNat (eh n))), (@UInt8.toNat (@UInt8.ofNat (et n))), (@UInt8.toNat (@UInt8.ofNat (eu n))), (121 : Nat)] : List Nat) (5 : Nat) (0 : Nat)))] : List UInt8) ([(120 : UInt8), (@UInt8.ofNat (@Int.toNat (@Int.fmod n (256 : Int)))), (121 : UInt8)] : List UInt8)) && true)))
noncomputable def eB_obs (n : Int) (c : Nat) : List (Bool × Bool) := [(eA_0 n c, true), (eA_1 n c, true), (eA_2 n c, true), (eA_3 n c, true), (eA_4 n c, true), (eA_5 n c, true), (eA_6 n c, true), (eA_7 n c, true), (eA_8 n c, true), (eA_9 n c, true), (eA_10 n c, true), (eA_11 n c, true), (eA_12 n c, true), (eA_13 n c, true), (eA_14 n c, false), (eB_15 n c, true), (eA_15 n c, false), (eB_17 n c, false), (eA_15 n c, false), (eB_18 n c, true), (eA_16 n c, true), (eA_17 n c, true), (eA_18 n c, false), (eA_19 n c, false), (eA_19 n c, false), (eA_20 n c, false), (eA_21 n c, false), (eA_22 n c, false), (eA_23 n c, false), (eA_24 n c, false), (eA_25 n c, false), (eA_26 n c, false), (eA_27 n c, false), (eA_28 n c, true), (eA_29 n c, true), (eA_30 n c, true), (eA_31 n c, true), (eA_32 n c, true), (eA_33 n c, true), (eA_34 n c, false), (eB_38 n c, true), (eA_28 n c, true), (eA_29 n c, true), (eA_30 n c, true), (eA_31 n c, true), (eA_32 n c, true), (eA_33 n c, true), (eA_34 n c, false), (eB_39 n c, true), (eB_40 n c, false), (eA_35 n c, true), (eA_36 n c, true), (eA_37 n c, true), (eA_38 n c, false), (eA_39 n c, true), (eA_40 n c, false), (eA_41 n c, true), (eA_42 n c, true), (eA_43 n c, false), (eA_44 n c, false), (eA_44 n c, false), (eA_45 n c, false), (eA_45 n c, false), (eA_46 n c, true), (eA_39 n c, true), (eA_47 n c, false), (eA_2 n c, true), (eA_48 n c, true), (eA_11 n c, true), (eA_12 n c, true), (eA_13 n c, true), (eA_49 n c, true), (eA_11 n c, true), (eA_12 n c, true), (eA_13 n c, true), (eA_50 n c, true), (eA_11 n c, true), (eA_12 n c, true), (eA_13 n c, true), (eA_51 n c, true), (eA_52 n c, true), (eA_24 n c, false), (eA_25 n c, false), (eA_25 n c, false), (eA_53 n c, true), (eA_53 n c, true), (eA_54 n c, true), (eA_55 n c, true), (eA_24 n c, false), (eA_25 n c, false), (eA_25 n c, false), (eA_56 n c, true), (eA_56 n c, true), (eA_57 n c, true), (eA_58 n c, true), (eA_24 n c, false), (eA_25 n c, false), (eA_25 n c, false), (eA_59 n c, true), (eA_59 n c, true)]
theorem eB_run (n : Int) (c : Nat) (l : List (Nat × List MV)) (loc : Loc) : outc ((fnsN (tl l) N0).1.ca (.gl 958) [MV.int n, MV.str { cps := { toList := [c] } }] ⟨[], loc, eB_orc⟩) = some (eB_val n c, loc, eB_obs n c) := by kernel_rfl
noncomputable def eC_val (n : Int) (c : Nat) : MV := (@MV.bool true)
noncomputable def eC_orc : List (Option Bool) := oc [0,1,0,0,0,1,0,0,1,0,0,0,1,0,0,0,0,1,0,0,0,0,0,0,0,0,0,0,0,0,0,0,0,0,0,0,0,1,0,0,0,1,1,0,1,0,0,0,1,1,0,0,0,1,0,0,0,1,1,0,0,1,1,0,1,0,0,0,1,0,0,1,0,0,0,0,0,0,0,0,0,0,0,0,0,0,0,0,0,0,0,0,0,0,0,0,0,0,0,0,0,0,0,0,0,0,0,0,0,0,0,0,0,0,0,0,0,0,0,0,0,0,0,0,0,0,0,0,0,0,0,0,0,0,0,0,0,0,0,0,0,0,0,2,0,2,0,2,0,0,0,0,0,0,0,0,0,0,0,0,2,0,2,0,2,0,2,0,0,0,0,0,0,0,0,0,0,0,0,2,0,2,0,2,0,2,0,0,0,0,0,0,0,0,0,0,0,0,0,0,0,0,0,0,0,0,0,0,0,0,0,0,0,0,0,0,0,0,0,0,0,0,0,0,0,0,0,0,0,0,0,0,0,0,0,0,0,0,0,0,0,0,0,0,0,0,0,0,0,0,0,1,0,0,0,0,0,0,0,0,1,1,1,0,1,0,1,1,0,0,0,0,0,0,0,0,0,0,0,0,0,0,0,0,0,0,0,1,0,0,0,0,0,0,0,0,1,1,1,0,1,0,1,1,0,0,0,0,0,0,1,0,0,0,0,0,0,0,0,0,0,0,0,0,0,0,0,0,0,0,1,0,0,0,2,0,0,0,0,0,0,0,0,0,0,0,0,0,0,0,0,0,0,0,0,0,0,0,0,0,0,0,0,0,0,0,0,0,0,0,0,0,0,0,0,0,0,0,1,0,0,0,0,2,0,0,1,0,0,1,0,0,0,0,0,0,0,0,0,0,0,0,0,0,0,0,0,0,0,0,0,0,0,0,0,0,0,0,0,0,0,0,0,0,0,0,0,0,0,0,0,0,0,0,0,0,0,0,0,0,0,0,0,0,0,0,0,0,0,0,0,0,0,0,0,0,0,0,0,0,0,2,0,2,0,2,0,0,0,0,0,0,0,0,0,0,0,0,0,0,0,0,0,0,0,0,0,0,0,0,0,0,0,0,0,0,0,0,0,0,0,0,0,0,0,0,0,0,0,0,0,0,0,0,0,0,0,0,0,0,0,0,0,0,0,0,0,0,0,0,0,2,0,0,0,0,0,0,0,0,0,0,0,0,0,0,0,0,0,0,0,0,0,0,0,0,0,0,0,0,0,0,0,2,1,0,0,0,0,0,0,0,0,0,0,0,0,0,0,0,0,0,1,0,0,0,0,2,0,1,0,0,1,0,0,0,0,0,0,0,0,0,0,0,0,0,0,0,0,0,0,0,1,0,0,0,1,1,0,0,0,0,1,0,0,0,0,0,0,0,0,0,0,0,0,0,0,0,0,0,0,0,1,0,0,0,1,1,0,0,0,0,0,0,0,0,0,0,0,0,0,1,0,0,0,0,0,0,0,0,0,0,0,0,0,0,0,0,0,0,0,1,0,0,0,1,1,0,0,0,0,0,0,0,0,1,0,0,1,0,0,0,0,0,0,0,0,0,0,0,0,0,0,0,0,0,0,0,0,0,0,0,0,0,0,0,0,0,0,0,0,0,0,0,0,0,0,0,0,0,0,0,0,0,0,0,0,0,0,0,0,0,0,0,0,0,0,0,0,0,0,0,0,0,0,0,0,0,0,0,2,0,2,0,2,0,0,0,0,0,0,0,0,0,0,0,0,0,0,0,0,0,0,0,0,0,0,0,0,0,0,0,0,0,0,0,0,0,0,0,0,0,0,0,0,0,0,0,0,0,0,1,0,0,0,0,0,0,0,0,0,0,0,0,0,0,0,0,0,0,0,0,1,0,0,0,0,0,0,1,0,0,1,0,0,0,0,0,0,0,0,0,0,0,0,0,0,0,0,0,0,0,0,0,0,0,0,0,0,0,0,0,0,0,0,0,0,0,0,0,0,0,0,0,0,0,0,0,0,0,0,0,0,0,0,0,0,0,0,0,0,0,0,0,0,0,0,0,0,0,0,0,0,0,2,0,2,0,2,0,0,0,0,0,0,0,0,0,0,0,0,0,0,0,0,0,0,0,0,0,0,0,0,0,0,0,0,0,0,0,0,0,0,0,0,0,0,0,0,0,0,0,0,0,0,0,0,0,0,0,0,0,0,0,0,0,0,0,0,0,0,0,0,0,1,0,0,0,0,0,0,0,0,0,0,0,0,0,0,0,0,0,0,0,0,0,0,0,0,1,0,0,0,0,0,0,0,0,0,0,1,0,0,1,0,0,0,0,0,0,0,0,0,0,0,0,0,0,0,0,0,0,0,0,0,0,0,0,0,0,0,0,0,0,0,0,0,0,0,0,0,0,0,0,0,0,0,0,0,0,0,0,0,0,0,0,0,0,0,0,0,0,0,0,0,0,0,0,0,0,0,0,0,0,0,2,0,2,0,2,0,0,0,0,0,0,0,0,0,0,0,0,0,0,0,0,0,0,0,0,0,0,0,0,0,0,0,0,0,0,0,0,0,0,0,0,0,0,0,0,0,0,0,0,0,0,0,0,0,0,0,0,0,0,0,0,0,0,0,0,0,0,0,0,0,0,0,0,0,0,0,0,0,0,0,0,0,0,0,0,0,0,0,0,0,0,0,0,0,0,0,0,0,0,0,0,0,0,0,0,0,0,0,1,0,0,0,0,0,0,0,0,0,0,0,0,0,0,0,0,0,0,0,0,0,0,0,0,0,0,0,0,1,0,0,0,0,0,0,0,0,0,0,0,0]
noncomputable def eC_obs (n : Int) (c : Nat) : List (Bool × Bool) := [(eA_0 n c, true), (eA_1 n c, true), (eA_2 n c, true), (eA_3 n c, true), (eA_4 n c, true), (eA_5 n c, true), (eA_6 n c, true), (eA_7 n c, true), (eA_8 n c, true), (eA_9 n c, true), (eA_10 n c, true), (eA_11 n c, true), (eA_12 n c, true), (eA_13 n c, true), (eA_14 n c, true), (eA_15 n c, true), (eA_15 n c, true), (eA_16 n c, true), (eA_17 n c, true), (eA_18 n c, false), (eA_19 n c, false), (eA_19 n c, false), (eA_20 n c, false), (eA_21 n c, false), (eA_22 n c, false), (eA_23 n c, false), (eA_24 n c, false), (eA_25 n c, false), (eA_26 n c, false), (eA_27 n c, false), (eA_28 n c, true), (eA_29 n c, true), (eA_30 n c, true), (eA_31 n c, true), (eA_32 n c, true), (eA_33 n c, true), (eA_34 n c, true), (eA_28 n c, true), (eA_29 n c, true), (eA_30 n c, true), (eA_31 n c, true), (eA_32 n c, true), (eA_33 n c, true), (eA_34 n c, true), (eA_35 n c, true), (eA_36 n c, true), (eA_37 n c, false), (eA_39 n c, true), (eA_40 n c, false), (eA_41 n c, true), (eA_42 n c, true), (eA_43 n c, false), (eA_44 n c, false), (eA_44 n c, false), (eA_45 n c, false), (eA_45 n c, false), (eA_46 n c, true), (eA_39 n c, true), (eA_47 n c, false), (eA_2 n c, true), (eA_48 n c, true), (eA_11 n c, true), (eA_12 n c, true), (eA_13 n c, true), (eA_49 n c, true), (eA_11 n c, true), (eA_12 n c, true), (eA_13 n c, true), (eA_50 n c, true), (eA_11 n c, true), (eA_12 n c, true), (eA_13 n c, true), (eA_51 n c, true), (eA_52 n c, true), (eA_24 n c, false), (eA_25 n c, false), (eA_25 n c, false), (eA_53 n c, true), (eA_53 n c, true), (eA_54 n c, true), (eA_55 n c, true), (eA_24 n c, false), (eA_25 n c, false), (eA_25 n c, false), (eA_56 n c, true), (eA_56 n c, true), (eA_57 n c, true), (eA_58 n c, true), (eA_24 n c, false), (eA_25 n c, false), (eA_25 n c, false), (eA_59 n c, true), (eA_59 n c, true)]
theorem eC_run (n : Int) (c : Nat) (l : List (Nat × List MV)) (loc : Loc) : outc ((fnsN (tl l) N0).1.ca (.gl 958) [MV.int n, MV.str { cps := { toList := [c] } }] ⟨[], loc, eC_orc⟩) = some (eC_val n c, loc, eC_obs n c) := by kernel_rfl
noncomputable def eD_val (n : Int) (c : Nat) : MV := (@MV.bool true)
noncomputable def eD_orc : List (Option Bool) := oc [0,1,0,0,0,1,0,0,1,0,0,0,1,0,0,0,0,1,0,0,0,0,0,0,0,0,0,0,0,0,0,0,0,0,0,0,0,1,0,0,0,1,1,0,1,0,0,0,1,1,0,0,0,1,0,0,0,1,1,0,0,2,0,1,0,0,0,0,0,0,0,0,0,0,0,0,0,0,0,0,0,0,0,0,0,0,0,0,0,0,0,0,0,0,0,0,0,0,0,0,0,0,0,0,0,0,0,0,2,0,0,0,0,2,2,1,0,0,0,0,0,0,0,1,0,0,1,0,0,0,0,0,0,0,0,0,0,0,0,0,0,0,0,0,0,0,0,0,0,0,0,0,0,0,0,0,0,0,0,0,0,0,0,0,0,0,0,0,0,0,0,0,0,0,0,0,0,0,0,0,0,0,0,0,0,0,0,0,0,0,0,0,0,0,0,0,0,0,2,0,2,0,2,0,0,0,0,0,0,0,0,0,0,0,0,2,0,2,0,2,0,2,0,0,0,0,0,0,0,0,0,0,0,0,2,0,2,0,2,0,2,0,0,0,0,0,0,0,0,0,0,0,0,0,0,0,0,0,0,0,0,0,0,0,0,0,0,0,0,0,0,0,0,0,0,0,0,0,0,0,0,0,0,0,0,0,0,0,0,0,0,0,0,0,0,0,0,0,0,0,0,0,0,0,0,0,1,0,0,0,0,0,0,0,0,1,1,1,0,1,0,1,2,1,0,0,0,0,0,0,0,0,0,0,0,0,0,0,0,0,0,0,0,0,0,0,0,0,0,0,0,0,0,0,0,1,0,0,0,0,0,0,0,0,1,1,1,0,1,0,1,2,1,0,0,0,0,0,0,0,0,0,0,0,0,0,0,0,2,0,0,0,1,0,0,0,0,0,0,0,0,0,0,0,0,0,0,0,0,0,0,0,1,0,0,0,2,0,0,0,0,0,0,0,0,0,0,0,0,0,0,0,0,0,0,0,0,0,0,0,0,0,0,0,0,0,0,0,0,0,0,0,0,0,0,0,0,0,0,0,1,0,0,0,0,2,0,0,1,0,0,1,0,0,0,0,0,0,0,0,0,0,0,0,0,0,0,0,0,0,0,0,0,0,0,0,0,0,0,0,0,0,0,0,0,0,0,0,0,0,0,0,0,0,0,0,0,0,0,0,0,0,0,0,0,0,0,0,0,0,0,0,0,0,0,0,0,0,0,0,0,0,0,2,0,2,0,2,0,0,0,0,0,0,0,0,0,0,0,0,0,0,0,0,0,0,0,0,0,0,0,0,0,0,0,0,0,0,0,0,0,0,0,0,0,0,0,0,0,0,0,0,0,0,0,0,0,0,0,0,0,0,0,0,0,0,0,0,0,0,0,0,0,2,0,0,0,0,0,0,0,0,0,0,0,0,0,0,0,0,0,0,0,0,0,0,0,0,0,0,0,0,0,0,0,2,1,0,0,0,0,0,0,0,0,0,0,0,0,0,0,0,0,0,1,0,0,0,0,2,0,1,0,0,1,0,0,0,0,0,0,0,0,0,0,0,0,0,0,0,0,0,0,0,1,0,0,0,1,1,0,0,0,0,1,0,0,0,0,0,0,0,0,0,0,0,0,0,0,0,0,0,0,0,1,0,0,0,1,1,0,0,0,0,0,0,0,0,0,0,0,0,0,1,0,0,0,0,0,0,0,0,0,0,0,0,0,0,0,0,0,0,0,1,0,0,0,1,1,0,0,0,0,0,0,0,0,1,0,0,1,0,0,0,0,0,0,0,0,0,0,0,0,0,0,0,0,0,0,0,0,0,0,0,0,0,0,0,0,0,0,0,0,0,0,0,0,0,0,0,0,0,0,0,0,0,0,0,0,0,0,0,0,0,0,0,0,0,0,0,0,0,0,0,0,0,0,0,0,0,0,0,2,0,2,0,2,0,0,0,0,0,0,0,0,0,0,0,0,0,0,0,0,0,0,0,0,0,0,0,0,0,0,0,0,0,0,0,0,0,0,0,0,0,0,0,0,0,0,0,0,0,0,1,0,0,0,0,0,0,0,0,0,0,0,0,0,0,0,0,0,0,0,0,1,0,0,0,0,0,0,1,0,0,1,0,0,0,0,0,0,0,0,0,0,0,0,0,0,0,0,0,0,0,0,0,0,0,0,0,0,0,0,0,0,0,0,0,0,0,0,0,0,0,0,0,0,0,0,0,0,0,0,0,0,0,0,0,0,0,0,0,0,0,0,0,0,0,0,0,0,0,0,0,0,0,2,0,2,0,2,0,0,0,0,0,0,0,0,0,0,0,0,0,0,0,0,0,0,0,0,0,0,0,0,0,0,0,0,0,0,0,0,0,0,0,0,0,0,0,0,0,0,0,0,0,0,0,0,0,0,0,0,0,0,0,0,0,0,0,0,0,0,0,0,0,1,0,0,0,0,0,0,0,0,0,0,0,0,0,0,0,0,0,0,0,0,0,0,0,0,1,0,0,0,0,0,0,0,0,0,0,1,0,0,1,0,0,0,0,0,0,0,0,0,0,0,0,0,0,0,0,0,0,0,0,0,0,0,0,0,0,0,0,0,0,0,0,0,0,0,0,0,0,0,0,0,0,0,0,0,0,0,0,0,0,0,0,0,0,0,0,0,0,0,0,0,0,0,0,0,0,0,0,0,0,0,2,0,2,0,2,0,0,0,0,0,0,0,0,0,0,0,0,0,0,0,0,0,0,0,0,0,0,0,0,0,0,0,0,0,0,0,0,0,0,0,0,0,0,0,0,0,0,0,0,0,0,0,0,0,0,0,0,0,0,0,0,0,0,0,0,0,0,0,0,0,0,0,0,0,0,0,0,0,0,0,0,0,0,0,0,0,0,0,0,0,0,0,0,0,0,0,0,0,0,0,0,0,0,0,0,0,0,0,1,0,0,0,0,0,0,0,0,0,0,0,0,0,0,0,0,0,0,0,0,0,0,0,0,0,0,0,0,1,0,0,0,0,0,0,0,0,0,0,0,0]
noncomputable def eD_obs (n : Int) (c : Nat) : List (Bool × Bool) := [(eA_0 n c, true), (eA_1 n c, true), (eA_2 n c, true), (eA_3 n c, true), (eA_4 n c, true), (eA_5 n c, true), (eA_6 n c, true), (eA_7 n c, true), (eA_8 n c, true), (eA_9 n c, true), (eA_10 n c, true), (eA_11 n c, true), (eA_12 n c, true), (eA_13 n c, true), (eA_14 n c, false), (eB_15 n c, true), (eA_15 n c, false), (eB_17 n c, false), (eA_15 n c, false), (eB_18 n c, true), (eA_16 n c, true), (eA_17 n c, true), (eA_18 n c, false), (eA_19 n c, false), (eA_19 n c, false), (eA_20 n c, false), (eA_21 n c, false), (eA_22 n c, false), (eA_23 n c, false), (eA_24 n c, false), (eA_25 n c, false), (eA_26 n c, false), (eA_27 n c, false), (eA_28 n c, true), (eA_29 n c, true), (eA_30 n c, true), (eA_31 n c, true), (eA_32 n c, true), (eA_33 n c, true), (eA_34 n c, false), (eB_38 n c, true), (eA_28 n c, true), (eA_29 n c, true), (eA_30 n c, true), (eA_31 n c, true), (eA_32 n c, true), (eA_33 n c, true), (eA_34 n c, false), (eB_39 n c, true), (eB_40 n c, false), (eA_35 n c, true), (eA_36 n c, true), (eA_37 n c, false), (eA_39 n c, true), (eA_40 n c, false), (eA_41 n c, true), (eA_42 n c, true), (eA_43 n c, false), (eA_44 n c, false), (eA_44 n c, false), (eA_45 n c, false), (eA_45 n c, false), (eA_46 n c, true), (eA_39 n c, true), (eA_47 n c, false), (eA_2 n c, true), (eA_48 n c, true), (eA_11 n c, true), (eA_12 n c, true), (eA_13 n c, true), (eA_49 n c, true), (eA_11 n c, true), (eA_12 n c, true), (eA_13 n c, true), (eA_50 n c, true), (eA_11 n c, true), (eA_12 n c, true), (eA_13 n c, true), (eA_51 n c, true), (eA_52 n c, true), (eA_24 n c, false), (eA_25 n c, false), (eA_25 n c, false), (eA_53 n c, true), (eA_53 n c, true), (eA_54 n c, true), (eA_55 n c, true), (eA_24 n c, false), (eA_25 n c, false), (eA_25 n c, false), (eA_56 n c, true), (eA_56 n c, true), (eA_57 n c, true), (eA_58 n c, true), (eA_24 n c, false), (eA_25 n c, false), (eA_25 n c, false), (eA_59 n c, true), (eA_59 n c, true)]
theorem eD_run (n : Int) (c : Nat) (l : List (Nat × List MV)) (loc : Loc) : outc ((fnsN (tl l) N0).1.ca (.gl 958) [MV.int n, MV.str { cps := { toList := [c] } }] ⟨[], loc, eD_orc⟩) = some (eD_val n c, loc, eD_obs n c) := by kernel_rfl
noncomputable def nAC (n : Int) : List (Bool × Bool) := [(eA_0 n 97, true), (eA_1 n 97, true), (eA_2 n 97, true), (eA_3 n 97, true), (eA_4 n 97, true), (eA_5 n 97, true), (eA_6 n 97, true), (eA_7 n 97, true), (eA_8 n 97, true), (eA_9 n 97, true), (eA_10 n 97, true), (eA_11 n 97, true), (eA_12 n 97, true), (eA_13 n 97, true), (eA_14 n 97, true), (eA_15 n 97, true), (eA_16 n 97, true), (eA_17 n 97, true), (eA_18 n 97, false), (eA_19 n 97, false), (eA_20 n 97, false), (eA_21 n 97, false), (eA_22 n 97, false), (eA_23 n 97, false), (eA_24 n 97, false), (eA_25 n 97, false), (eA_26 n 97, false), (eA_27 n 97, false), (eA_28 n 97, true), (eA_29 n 97, true), (eA_30 n 97, true), (eA_31 n 97, true), (eA_32 n 97, true), (eA_33 n 97, true), (eA_34 n 97, true), (eA_48 n 97, true), (eA_49 n 97, true), (eA_50 n 97, true), (eA_51 n 97, true), (eA_52 n 97, true), (eA_53 n 97, true), (eA_54 n 97, true), (eA_55 n 97, true), (eA_56 n 97, true), (eA_57 n 97, true), (eA_58 n 97, true), (eA_59 n 97, true)]
theorem nAC_all : (List.range 1000).all (fun p => Nat.blt p 256 || allB (nAC (p : Nat))) = true := by kernel_rfl
noncomputable def nBD (n : Int) : List (Bool × Bool) := [(eA_0 n 97, true), (eA_1 n 97, true), (eA_2 n 97, true), (eA_3 n 97, true), (eA_4 n 97, true), (eA_5 n 97, true), (eA_6 n 97, true), (eA_7 n 97, true), (eA_8 n 97, true), (eA_9 n 97, true), (eA_10 n 97, true), (eA_11 n 97, true), (eA_12 n 97, true), (eA_13 n 97, true), (eA_14 n 97, false), (eB_15 n 97, true), (eA_15 n 97, false), (eB_17 n 97, false), (eB_18 n 97, true), (eA_16 n 97, true), (eA_17 n 97, true), (eA_18 n 97, false), (eA_19 n 97, false), (eA_20 n 97, false), (eA_21 n 97, false), (eA_22 n 97, false), (eA_23 n 97, false), (eA_24 n 97, false), (eA_25 n 97, false), (eA_26 n 97, false), (eA_27 n 97, false), (eA_28 n 97, true), (eA_29 n 97, true), (eA_30 n 97, true), (eA_31 n 97, true), (eA_32 n 97, true), (eA_33 n 97, true), (eA_34 n 97, false), (eB_38 n 97, true), (eB_39 n 97, true), (eB_40 n 97, false), (eA_48 n 97, true), (eA_49 n 97, true), (eA_50 n 97, true), (eA_51 n 97, true), (eA_52 n 97, true), (eA_53 n 97, true), (eA_54 n 97, true), (eA_55 n 97, true), (eA_56 n 97, true), (eA_57 n 97, true), (eA_58 n 97, true), (eA_59 n 97, true)]
theorem nBD_all : (List.range 256).all (fun p => Nat.blt p 0 || allB (nBD (p : Nat))) = true := by kernel_rfl
noncomputable def cAB (c : Nat) : List (Bool × Bool) := [(eA_35 300 c, true), (eA_36 300 c, true), (eA_37 300 c, true), (eA_38 300 c, false), (eA_39 300 c, true), (eA_40 300 c, false), (eA_41 300 c, true), (eA_42 300 c, true), (eA_43 300 c, false), (eA_44 300 c, false), (eA_45 300 c, false), (eA_46 300 c, true), (eA_47 300 c, false)]
theorem cAB_all : (List.range 127).all (fun c => Nat.blt c 58 || allB (cAB c)) = true := by kernel_rfl
noncomputable def cCD (c : Nat) : List (Bool × Bool) := [(eA_35 300 c, true), (eA_36 300 c, true), (eA_37 300 c, false), (eA_39 300 c, true), (eA_40 300 c, false), (eA_41 300 c, true), (eA_42 300 c, true), (eA_43 300 c, false), (eA_44 300 c, false), (eA_45 300 c, false), (eA_46 300 c, true), (eA_47 300 c, false)]
theorem cCD_all : (List.range 48).all (fun c => Nat.blt c 33 || allB (cCD c)) = true := by kernel_rfl
noncomputable def eA_is : List (Bool × Nat) := [(true, 0), (true, 1), (true, 2), (true, 3), (true, 4), (true, 5), (true, 6), (true, 7), (true, 8), (true, 9), (true, 10), (true, 11), (true, 12), (true, 13), (true, 14), (true, 15), (true, 15), (true, 16), (true, 17), (true, 18), (true, 19), (true, 19), (true, 20), (true, 21), (true, 22), (true, 23), (true, 24), (true, 25), (true, 26), (true, 27), (true, 28), (true, 29), (true, 30), (true, 31), (true, 32), (true, 33), (true, 34), (true, 28), (true, 29), (true, 30), (true, 31), (true, 32), (true, 33), (true, 34), (false, 0), (false, 1), (false, 2), (false, 3), (false, 4), (false, 5), (false, 6), (false, 7), (false, 8), (false, 9), (false, 9), (false, 10), (false, 10), (false, 11), (false, 4), (false, 12), (true, 2), (true, 35), (true, 11), (true, 12), (true, 13), (true, 36), (true, 11), (true, 12), (true, 13), (true, 37), (true, 11), (true, 12), (true, 13), (true, 38), (true, 39), (true, 24), (true, 25), (true, 25), (true, 40), (true, 40), (true, 41), (true, 42), (true, 24), (true, 25), (true, 25), (true, 43), (true, 43), (true, 44), (true, 45), (true, 24), (true, 25), (true, 25), (true, 46), (true, 46)]
theorem eA_pick (p c : Nat) : pickI (nAC (p : Nat)) (cAB c) eA_is = eA_obs (p : Nat) c := by kernel_rfl
theorem eA_ok (p c : Nat) (h1 : allB (nAC (p : Nat)) = true) (h2 : allB (cAB c) = true) : AllOk (eA_obs (p : Nat) c) := eA_pick p c ▸ pickI_ok h1 h2 _
noncomputable def eB_is : List (Bool × Nat) := [(true, 0), (true, 1), (true, 2), (true, 3), (true, 4), (true, 5), (true, 6), (true, 7), (true, 8), (true, 9), (true, 10), (true, 11), (true, 12), (true, 13), (true, 14), (true, 15), (true, 16), (true, 17), (true, 16), (true, 18), (true, 19), (true, 20), (true, 21), (true, 22), (true, 22), (true, 23), (true, 24), (true, 25), (true, 26), (true, 27), (true, 28), (true, 29), (true, 30), (true, 31), (true, 32), (true, 33), (true, 34), (true, 35), (true, 36), (true, 37), (true, 38), (true, 31), (true, 32), (true, 33), (true, 34), (true, 35), (true, 36), (true, 37), (true, 39), (true, 40), (false, 0), (false, 1), (false, 2), (false, 3), (false, 4), (false, 5), (false, 6), (false, 7), (false, 8), (false, 9), (false, 9), (false, 10), (false, 10), (false, 11), (false, 4), (false, 12), (true, 2), (true, 41), (true, 11), (true, 12), (true, 13), (true, 42), (true, 11), (true, 12), (true, 13), (true, 43), (true, 11), (true, 12), (true, 13), (true, 44), (true, 45), (true, 27), (true, 28), (true, 28), (true, 46), (true, 46), (true, 47), (true, 48), (true, 27), (true, 28), (true, 28), (true, 49), (true, 49), (true, 50), (true, 51), (true, 27), (true, 28), (true, 28), (true, 52), (true, 52)]
theorem eB_pick (p c : Nat) : pickI (nBD (p : Nat)) (cAB c) eB_is = eB_obs (p : Nat) c := by kernel_rfl
theorem eB_ok (p c : Nat) (h1 : allB (nBD (p : Nat)) = true) (h2 : allB (cAB c) = true) : AllOk (eB_obs (p : Nat) c) := eB_pick p c ▸ pickI_ok h1 h2 _
noncomputable def eC_is : List (Bool × Nat) := [(true, 0), (true, 1), (true, 2), (true, 3), (true, 4), (true, 5), (true, 6), (true, 7), (true, 8), (true, 9), (true, 10), (true, 11), (true, 12), (true, 13), (true, 14), (true, 15), (true, 15), (true, 16), (true, 17), (true, 18), (true, 19), (true, 19), (true, 20), (true, 21), (true, 22), (true, 23), (true, 24), (true, 25), (true, 26), (true, 27), (true, 28), (true, 29), (true, 30), (true, 31), (true, 32), (true, 33), (true, 34), (true, 28), (true, 29), (true, 30), (true, 31), (true, 32), (true, 33), (true, 34), (false, 0), (false, 1), (false, 2), (false, 3), (false, 4), (false, 5), (false, 6), (false, 7), (false, 8), (false, 8), (false, 9), (false, 9), (false, 10), (false, 3), (false, 11), (true, 2), (true, 35), (true, 11), (true, 12), (true, 13), (true, 36), (true, 11), (true, 12), (true, 13), (true, 37), (true, 11), (true, 12), (true, 13), (true, 38), (true, 39), (true, 24), (true, 25), (true, 25), (true, 40), (true, 40), (true, 41), (true, 42), (true, 24), (true, 25), (true, 25), (true, 43), (true, 43), (true, 44), (true, 45), (true, 24), (true, 25), (true, 25), (true, 46), (true, 46)]
theorem eC_pick (p c : Nat) : pickI (nAC (p : Nat)) (cCD c) eC_is = eC_obs (p : Nat) c := by kernel_rfl
theorem eC_ok (p c : Nat) (h1 : allB (nAC (p : Nat)) = true) (h2 : allB (cCD c) = true) : AllOk (eC_obs (p : Nat) c) := eC_pick p c ▸ pickI_ok h1 h2 _
noncomputable def eD_is : List (Bool × Nat) := [(true, 0), (true, 1), (true, 2), (true, 3), (true, 4), (true, 5), (true, 6), (true, 7), (true, 8), (true, 9), (true, 10), (true, 11), (true, 12), (true, 13), (true, 14), (true, 15), (true, 16), (true, 17), (true, 16), (true, 18), (true, 19), (true, 20), (true, 21), (true, 22), (true, 22), (true, 23), (true, 24), (true, 25), (true, 26), (true, 27), (true, 28), (true, 29), (true, 30), (true, 31), (true, 32), (true, 33), (true, 34), (true, 35), (true, 36), (true, 37), (true, 38), (true, 31), (true, 32), (true, 33), (true, 34), (true, 35), (true, 36), (true, 37), (true, 39), (true, 40), (false, 0), (false, 1), (false, 2), (false, 3), (false, 4), (false, 5), (false, 6), (false, 7), (false, 8), (false, 8), (false, 9), (false, 9), (false, 10), (false, 3), (false, 11), (true, 2), (true, 41), (true, 11), (true, 12), (true, 13), (true, 42), (true, 11), (true, 12), (true, 13), (true, 43), (true, 11), (true, 12), (true, 13), (true, 44), (true, 45), (true, 27), (true, 28), (true, 28), (true, 46), (true, 46), (true, 47), (true, 48), (true, 27), (true, 28), (true, 28), (true, 49), (true, 49), (true, 50), (true, 51), (true, 27), (true, 28), (true, 28), (true, 52), (true, 52)]
theorem eD_pick (p c : Nat) : pickI (nBD (p : Nat)) (cCD c) eD_is = eD_obs (p : Nat) c := by kernel_rfl
theorem eD_ok (p c : Nat) (h1 : allB (nBD (p : Nat)) = true) (h2 : allB (cCD c) = true) : AllOk (eD_obs (p : Nat) c) := eD_pick p c ▸ pickI_ok h1 h2 _
theorem rangeAll {f : Nat → Bool} {n lo k : Nat} (h : (List.range n).all (fun p => Nat.blt p lo || f p) = true) (h1 : lo ≤ k) (h2 : k < n) : f k = true := by
  have := List.all_eq_true.mp h k (List.mem_range.mpr h2)
  have e : Nat.blt k lo = false := by
    cases q : Nat.blt k lo with
    | false => rfl
    | true => have := Nat.le_of_ble_eq_true q; omega
  rw [e] at this
  exact this
theorem esc_says (l : List (Nat × List MV)) (i : Int) (x : Str) (h : escOk i x = true) : Says (tl l) 958 [.int i, .str x] (.bool true) := by
  obtain ⟨⟨cs⟩⟩ := x
  unfold escOk at h
  rw [Bool.and_eq_true, decide_eq_true_eq] at h
  obtain ⟨⟨h0, h1⟩, h2⟩ := h
  cases cs with
  | nil => cases h2
  | cons c r =>
    cases r with
    | cons _ _ => cases h2
    | nil =>
      obtain ⟨n, rfl⟩ := Int.eq_ofNat_of_zero_le h0
      have hn : n < 1000 := by omega
      simp only [Bool.and_eq_true, decide_eq_true_eq, Bool.not_eq_true', Bool.and_eq_false_iff, decide_eq_false_iff_not] at h2
      obtain ⟨⟨c1, c2⟩, c3⟩ := h2
      by_cases hb : 256 ≤ n
      · by_cases hc : 58 ≤ c
        · exact ⟨eA_orc, _, eA_ok n c (rangeAll nAC_all hb hn) (rangeAll cAB_all hc (by omega)), fun loc => eA_run n c l loc⟩
        · exact ⟨eC_orc, _, eC_ok n c (rangeAll nAC_all hb hn) (rangeAll cCD_all c1 (by omega)), fun loc => eC_run n c l loc⟩
      · by_cases hc : 58 ≤ c
        · exact ⟨eB_orc, _, eB_ok n c (rangeAll nBD_all (Nat.zero_le _) (by omega)) (rangeAll cAB_all hc (by omega)), fun loc => eB_run n c l loc⟩
        · exact ⟨eD_orc, _, eD_ok n c (rangeAll nBD_all (Nat.zero_le _) (by omega)) (rangeAll cCD_all c1 (by omega)), fun loc => eD_run n c l loc⟩
end Mine
end

section
set_option maxRecDepth 1000000
set_option maxHeartbeats 0
set_option linter.unusedVariables false
open PySem PySem.W PySem.Calls PyProof.Rows
namespace Mine
noncomputable def hx (a : Nat) : Int := findB (@ite _ (((decide ((65 : Nat) ≤ (UInt8.toNat (UInt8.ofNat a)))) && (decide ((UInt8.toNat (UInt8.ofNat a)) ≤ (90 : Nat)))) = true) _ (UInt8.ofNat ((UInt8.toNat (UInt8.ofNat a)) + (32 : Nat) : Nat)) (UInt8.ofNat a)) ([(48 : UInt8), (49 : UInt8), (50 : UInt8), (51 : UInt8), (52 : UInt8), (53 : UInt8), (54 : UInt8), (55 : UInt8), (56 : UInt8), (57 : UInt8), (97 : UInt8), (98 : UInt8), (99 : UInt8), (100 : UInt8), (101 : UInt8), (102 : UInt8)] : List UInt8) (0 : Nat)
theorem hx_pair : (List.range 256).all (fun k => Nat.beq (UInt8.ofNat (Int.toNat (hx (hexc (k / 16)) * 16 + hx (hexc (k % 16))))).toNat k) = true := by kernel_rfl
theorem hex_ble (d : Nat) (h : d < 16) : Nat.ble (hexc d) 127 = true := Nat.ble_eq_true_of_le (by unfold hexc; split <;> omega)
theorem hex_ten (d : Nat) (h : d < 16) : Nat.beq (10 : UInt8).toNat (UInt8.ofNat (hexc d)).toNat = false ∧ Nat.beq (UInt8.ofNat (hexc d)).toNat (10 : UInt8).toNat = false := by
  have : ∀ d : Fin 16, Nat.beq (10 : UInt8).toNat (UInt8.ofNat (hexc d.val)).toNat = false ∧ Nat.beq (UInt8.ofNat (hexc d.val)).toNat (10 : UInt8).toNat = false := by decide +kernel
  exact this ⟨d, h⟩
theorem asc4 (p q r s : Nat) (hp : p < 16) (hq : q < 16) (hr : r < 16) (hs : s < 16) : asciiL [49, 58, 58, hexc p, hexc q, hexc r, hexc s] = true := by
  simp only [asciiL, hex_ble p hp, hex_ble q hq, hex_ble r hr, hex_ble s hs]
theorem in4 (p q r s : Nat) (hp : p < 16) (hq : q < 16) (hr : r < 16) (hs : s < 16) : inU8s 10 [49, 58, 58, UInt8.ofNat (hexc p), UInt8.ofNat (hexc q), UInt8.ofNat (hexc r), UInt8.ofNat (hexc s)] = false := by
  have e1 : ∀ l, inU8s 10 (49 :: l) = inU8s 10 l := fun l => rfl
  have e2 : ∀ l, inU8s 10 (58 :: l) = inU8s 10 l := fun l => rfl
  have e3 : ∀ d, d < 16 → ∀ l, inU8s 10 (UInt8.ofNat (hexc d) :: l) = inU8s 10 l := fun d hd l => by
    show (match Nat.beq _ _ with | true => true | false => inU8s 10 l) = _
    first
      | rw [(hex_ten d hd).1]
      | rw [(hex_ten d hd).2]
  rw [e1, e2, e2, e3 p hp, e3 q hq, e3 r hr, e3 s hs]; rfl
theorem pairAt {f : Nat → Bool} (h : (List.range 256).all f = true) {p q : Nat} (hp : p < 16) (hq : q < 16) : f (16 * p + q) = true := List.all_eq_true.mp h _ (List.mem_range.mpr (by omega))
noncomputable def iA_val (a : Nat) (b : Nat) (c : Nat) (d : Nat) : MV := (@MV.bytes ([(0 : UInt8), (1 : UInt8), (0 : UInt8), (0 : UInt8), (0 : UInt8), (0 : UInt8), (0 : UInt8), (0 : UInt8), (0 : UInt8), (0 : UInt8), (0 : UInt8), (0 : UInt8), (0 : UInt8), (0 : UInt8), (@UInt8.ofNat (@Int.toNat (((@findB (@ite _ (((decide ((65 : Nat) ≤ (@UInt8.toNat (@UInt8.ofNat a)))) && (decide ((@UInt8.toNat (@UInt8.ofNat a)) ≤ (90 : Nat)))) = true) _ (@UInt8.ofNat ((@UInt8.toNat (@UInt8.ofNat a)) + (32 : Nat) : Nat)) (@UInt8.ofNat a)) ([(48 : UInt8), (49 : UInt8), (50 : UInt8), (51 : UInt8), (52 : UInt8), (53 : UInt8), (54 : UInt8), (55 : UInt8), (56 : UInt8), (57 : UInt8), (97 : UInt8), (98 : UInt8), (99 : UInt8), (100 : UInt8), (101 : UInt8), (102 : UInt8)] : List UInt8) (0 : Nat)) * (16 : Int) : Int) + (@findB (@ite _ (((decide ((65 : Nat) ≤ (@UInt8.toNat (@UInt8.ofNat b)))) && (decide ((@UInt8.toNat (@UInt8.ofNat b)) ≤ (90 : Nat)))) = true) _ (@UInt8.ofNat ((@UInt8.toNat (@UInt8.ofNat b)) + (32 : Nat) : Nat)) (@UInt8.ofNat b)) ([(48 : UInt8), (49 : UInt8), (50 : UInt8), (51 : UInt8), (52 : UInt8), (53 : UInt8), (54 : UInt8), (55 : UInt8), (56 : UInt8), (57 : UInt8), (97 : UInt8), (98 : UInt8), (99 : UInt8), (100 : UInt8), (101 : UInt8), (102 : UInt8)] : List UInt8) (0 : Nat)) : Int))), (@UInt8.ofNat (@Int.toNat (((@findB (@ite _ (((decide ((65 : Nat) ≤ (@UInt8.toNat (@UInt8.ofNat c)))) && (decide ((@UInt8.toNat (@UInt8.ofNat c)) ≤ (90 : Nat)))) = true) _ (@UInt8.ofNat ((@UInt8.toNat (@UInt8.ofNat c)) + (32 : Nat) : Nat)) (@UInt8.ofNat c)) ([(48 : UInt8), (49 : UInt8), (50 : UInt8), (51 : UInt8), (52 : UInt8), (53 : UInt8), (54 : UInt8), (55 : UInt8), (56 : UInt8), (57 : UInt8), (97 : UInt8), (98 : UInt8), (99 : UInt8), (100 : UInt8), (101 : UInt8), (102 : UInt8)] : List UInt8) (0 : Nat)) * (16 : Int) : Int) + (@findB (@ite _ (((decide ((65 : Nat) ≤ (@UInt8.toNat (@UInt8.ofNat d)))) && (decide ((@UInt8.toNat (@UInt8.ofNat d)) ≤ (90 : Nat)))) = true) _ (@UInt8.ofNat ((@UInt8.toNat (@UInt8.ofNat d)) + (32 : Nat) : Nat)) (@UInt8.ofNat d)) ([(48 : UInt8), (49 : UInt8), (50 : UInt8), (51 : UInt8), (52 : UInt8), (53 : UInt8), (54 : UInt8), (55 : UInt8), (56 : UInt8), (57 : UInt8), (97 : UInt8), (98 : UInt8), (99 : UInt8), (100 : UInt8), (101 : UInt8), (102 : UInt8)] : List UInt8) (0 : Nat)) : Int)))] : List UInt8))
noncomputable def iA_orc : List (Option Bool) := oc [0,1,0,0,2,0,0,2,0,0,0,0,2,2,2,2,0,0,0,0,2,2,2,2,0,2,0,0,0,0,2,0,0,0,0,2,2,2,2,0,0,0,0,0,0,0,0,0,0,0,0,0,0,0,0,0,0,0,0,0,0,0,0,0,0,0,0,0,0,0,0,0,0,0,0,0,0,0,0,0,0,0,0,0,0,0,0,0,0,0,0,0,0,0,0,0,0,0,0,0,0,0,0,0,0,0,0,0,0,0,0,0,0,0,0,0,0,0,0,0,0,0,0,0,0,0,0,0,0,0,0,0,0,0,0,0,0,0,0,0,0,0,0,0,0,0,0,0,0,0,0,0,0,0,0,0,0,0,0,0,0,0,0,0,0,0,0,0,0,0,0,0,0,0,0,0,0,0,0,0,0,0,0,0,0,0,0,0,0,0,0,0,0,0,0,0,0,0,0,0,0,0,0,0,0,0,0,0,0,0,0,0,0,0,0,0,0,0,0,0,0,0,0,0,0,0,0,0,0,0,0,0,0,0,0,0,0,0,0,0,0,0,0,0,0,0,0,0,0,0,0,0,0,0,0,0,0,0,0,0,0,0,0,0,0,0,0,0,0,0,0,0,0,0,0,0,0,0,0,0,0,0,0,0,0,0,0,0,0,0,0,0,0,0,0,0,0,0,0,0,0,0,0,0,0,0,0,0,0,0,0,0,0,0,0,0,0,0,0,0,0,0,0,0,0,0,0,0,0,0,0,0,0,0,0,0,0,0,0,0,0,0,0,0,0,0,0,0,0,0,0,0,0,0,0,0,0,2,2,0,1,0,0,0,0,0,0,0,0,0,0,0,0,0,0,0,2,2,0,1,0,0]
noncomputable def iA_0 (a : Nat) (b : Nat) (c : Nat) (d : Nat) : Bool := ((@asciiL ([49, 58, 58, a, b, c, d] : List Nat)) && (decide ((@List.length _ ([49, 58, 58, a, b, c, d] : List Nat)) ≤ (16777216 : Nat))))
noncomputable def iA_1 (a : Nat) (b : Nat) (c : Nat) (d : Nat) : Bool := ((decide ((1 : Nat) ≤ (@List.length _ ([(49 : UInt8), (58 : UInt8), (58 : UInt8), (@UInt8.ofNat a), (@UInt8.ofNat b), (@UInt8.ofNat c), (@UInt8.ofNat d)] : List UInt8)))) && (@u8sEq ([(@UInt8.ofNat d)] : List UInt8) ([(58 : UInt8)] : List UInt8)))
noncomputable def iA_2 (a : Nat) (b : Nat) (c : Nat) (d : Nat) : Bool := ((decide ((1 : Nat) ≤ (@List.length _ ([(49 : UInt8), (58 : UInt8), (58 : UInt8), (@UInt8.ofNat a), (@UInt8.ofNat b), (@UInt8.ofNat c), (@UInt8.ofNat d)] : List UInt8)))) && (@u8sEq ([(@UInt8.ofNat d)] : List UInt8) ([(10 : UInt8)] : List UInt8)))
noncomputable def iA_3 (a : Nat) (b : Nat) (c : Nat) (d : Nat) : Bool := (@Nat.beq (@UInt8.toNat (@UInt8.ofNat a)) (58 : Nat))
noncomputable def iA_4 (a : Nat) (b : Nat) (c : Nat) (d : Nat) : Bool := (@Nat.beq (@UInt8.toNat (@UInt8.ofNat b)) (58 : Nat))
noncomputable def iA_5 (a : Nat) (b : Nat) (c : Nat) (d : Nat) : Bool := (@Nat.beq (@UInt8.toNat (@UInt8.ofNat c)) (58 : Nat))
noncomputable def iA_6 (a : Nat) (b : Nat) (c : Nat) (d : Nat) : Bool := (@Nat.beq (@UInt8.toNat (@UInt8.ofNat d)) (58 : Nat))
noncomputable def iA_7 (a : Nat) (b : Nat) (c : Nat) (d : Nat) : Bool := (@Nat.beq (@UInt8.toNat (@UInt8.ofNat a)) (46 : Nat))
noncomputable def iA_8 (a : Nat) (b : Nat) (c : Nat) (d : Nat) : Bool := (@Nat.beq (@UInt8.toNat (@UInt8.ofNat b)) (46 : Nat))
noncomputable def iA_9 (a : Nat) (b : Nat) (c : Nat) (d : Nat) : Bool := (@Nat.beq (@UInt8.toNat (@UInt8.ofNat c)) (46 : Nat))
noncomputable def iA_10 (a : Nat) (b : Nat) (c : Nat) (d : Nat) : Bool := (@Nat.beq (@UInt8.toNat (@UInt8.ofNat d)) (46 : Nat))
noncomputable def iA_11 (a : Nat) (b : Nat) (c : Nat) (d : Nat) : Bool := (@inU8s (10 : UInt8) ([(49 : UInt8), (58 : UInt8), (58 : UInt8), (@UInt8.ofNat a), (@UInt8.ofNat b), (@UInt8.ofNat c), (@UInt8.ofNat d)] : List UInt8))
noncomputable def iA_12 (a : Nat) (b : Nat) (c : Nat) (d : Nat) : Bool := ((decide ((2 : Nat) ≤ (@List.length _ ([(49 : UInt8), (58 : UInt8), (58 : UInt8), (@UInt8.ofNat a), (@UInt8.ofNat b), (@UInt8.ofNat c), (@UInt8.ofNat d)] : List UInt8)))) && (@u8sEq ([(@UInt8.ofNat c), (@UInt8.ofNat d)] : List UInt8) ([(58 : UInt8), (58 : UInt8)] : List UInt8)))
noncomputable def iA_13 (a : Nat) (b : Nat) (c : Nat) (d : Nat) : Bool := (decide ((@findB (@ite _ (((decide ((65 : Nat) ≤ (@UInt8.toNat (@UInt8.ofNat a)))) && (decide ((@UInt8.toNat (@UInt8.ofNat a)) ≤ (90 : Nat)))) = true) _ (@UInt8.ofNat ((@UInt8.toNat (@UInt8.ofNat a)) + (32 : Nat) : Nat)) (@UInt8.ofNat a)) ([(48 : UInt8), (49 : UInt8), (50 : UInt8), (51 : UInt8), (52 : UInt8), (53 : UInt8), (54 : UInt8), (55 : UInt8), (56 : UInt8), (57 : UInt8), (97 : UInt8), (98 : UInt8), (99 : UInt8), (100 : UInt8), (101 : UInt8), (102 : UInt8)] : List UInt8) (0 : Nat)) < (0 : Int)))
noncomputable def iA_14 (a : Nat) (b : Nat) (c : Nat) (d : Nat) : Bool := (decide ((@findB (@ite _ (((decide ((65 : Nat) ≤ (@UInt8.toNat (@UInt8.ofNat b)))) && (decide ((@UInt8.toNat (@UInt8.ofNat b)) ≤ (90 : Nat)))) = true) _ (@UInt8.ofNat ((@UInt8.toNat (@UInt8.ofNat b)) + (32 : Nat) : Nat)) (@UInt8.ofNat b)) ([(48 : UInt8), (49 : UInt8), (50 : UInt8), (51 : UInt8), (52 : UInt8), (53 : UInt8), (54 : UInt8), (55 : UInt8), (56 : UInt8), (57 : UInt8), (97 : UInt8), (98 : UInt8), (99 : UInt8), (100 : UInt8), (101 : UInt8), (102 : UInt8)] : List UInt8) (0 : Nat)) < (0 : Int)))
noncomputable def iA_15 (a : Nat) (b : Nat) (c : Nat) (d : Nat) : Bool := (decide (((0 : Int) ≤ (((@findB (@ite _ (((decide ((65 : Nat) ≤ (@UInt8.toNat (@UInt8.ofNat a)))) && (decide ((@UInt8.toNat (@UInt8.ofNat a)) ≤ (90 : Nat)))) = true) _ (@UInt8.ofNat ((@UInt8.toNat (@UInt8.ofNat a)) + (32 : Nat) : Nat)) (@UInt8.ofNat a)) ([(48 : UInt8), (49 : UInt8), (50 : UInt8), (51 : UInt8), (52 : UInt8), (53 : UInt8), (54 : UInt8), (55 : UInt8), (56 : UInt8), (57 : UInt8), (97 : UInt8), (98 : UInt8), (99 : UInt8), (100 : UInt8), (101 : UInt8), (102 : UInt8)] : List UInt8) (0 : Nat)) * (16 : Int) : Int) + (@findB (@ite _ (((decide ((65 : Nat) ≤ (@UInt8.toNat (@UInt8.ofNat b)))) && (decide ((@UInt8.toNat (@UInt8.ofNat b)) ≤ (90 : Nat)))) = true) _ (@UInt8.ofNat ((@UInt8.toNat (@UInt8.ofNat b)) + (32 : Nat) : Nat)) (@UInt8.ofNat b)) ([(48 : UInt8), (49 : UInt8), (50 : UInt8), (51 : UInt8), (52 : UInt8), (53 : UInt8), (54 : UInt8), (55 : UInt8), (56 : UInt8), (57 : UInt8), (97 : UInt8), (98 : UInt8), (99 : UInt8), (100 : UInt8), (101 : UInt8), (102 : UInt8)] : List UInt8) (0 : Nat)) : Int)) ∧ (((((@findB (@ite _ (((decide ((65 : Nat) ≤ (@UInt8.toNat (@UInt8.ofNat a)))) && (decide ((@UInt8.toNat (@UInt8.ofNat a)) ≤ (90 : Nat)))) = true) _ (@UInt8.ofNat ((@UInt8.toNat (@UInt8.ofNat a)) + (32 : Nat) : Nat)) (@UInt8.ofNat a)) ([(48 : UInt8), (49 : UInt8), (50 : UInt8), (51 : UInt8), (52 : UInt8), (53 : UInt8), (54 : UInt8), (55 : UInt8), (56 : UInt8), (57 : UInt8), (97 : UInt8), (98 : UInt8), (99 : UInt8), (100 : UInt8), (101 : UInt8), (102 : UInt8)] : List UInt8) (0 : Nat)) * (16 : Int) : Int) + (@findB (@ite _ (((decide ((65 : Nat) ≤ (@UInt8.toNat (@UInt8.ofNat b)))) && (decide ((@UInt8.toNat (@UInt8.ofNat b)) ≤ (90 : Nat)))) = true) _ (@UInt8.ofNat ((@UInt8.toNat (@UInt8.ofNat b)) + (32 : Nat) : Nat)) (@UInt8.ofNat b)) ([(48 : UInt8), (49 : UInt8), (50 : UInt8), (51 : UInt8), (52 : UInt8), (53 : UInt8), (54 : UInt8), (55 : UInt8), (56 : UInt8), (57 : UInt8), (97 : UInt8), (98 : UInt8), (99 : UInt8), (100 : UInt8), (101 : UInt8), (102 : UInt8)] : List UInt8) (0 : Nat)) : Int) < (256 : Int)) ∧ ((15 : Nat) ≤ (16777216 : Nat)))))
noncomputable def iA_16 (a : Nat) (b : Nat) (c : Nat) (d : Nat) : Bool := (decide ((@findB (@ite _ (((decide ((65 : Nat) ≤ (@UInt8.toNat (@UInt8.ofNat c)))) && (decide ((@UInt8.toNat (@UInt8.ofNat c)) ≤ (90 : Nat)))) = true) _ (@UInt8.ofNat ((@UInt8.toNat (@UInt8.ofNat c)) + (32 : Nat) : Nat)) (@UInt8.ofNat c)) ([(48 : UInt8), (49 : UInt8), (50 : UInt8), (51 : UInt8), (52 : UInt8), (53 : UInt8), (54 : UInt8), (55 : UInt8), (56 : UInt8), (57 : UInt8), (97 : UInt8), (98 : UInt8), (99 : UInt8), (100 : UInt8), (101 : UInt8), (102 : UInt8)] : List UInt8) (0 : Nat)) < (0 : Int)))
noncomputable def iA_17 (a : Nat) (b : Nat) (c : Nat) (d : Nat) : Bool := (decide ((@findB (@ite _ (((decide ((65 : Nat) ≤ (@UInt8.toNat (@UInt8.ofNat d)))) && (decide ((@UInt8.toNat (@UInt8.ofNat d)) ≤ (90 : Nat)))) = true) _ (@UInt8.ofNat ((@UInt8.toNat (@UInt8.ofNat d)) + (32 : Nat) : Nat)) (@UInt8.ofNat d)) ([(48 : UInt8), (49 : UInt8), (50 : UInt8), (51 : UInt8), (52 : UInt8), (53 : UInt8), (54 : UInt8), (55 : UInt8), (56 : UInt8), (57 : UInt8), (97 : UInt8), (98 : UInt8), (99 : UInt8), (100 : UInt8), (101 : UInt8), (102 : UInt8)] : List UInt8) (0 : Nat)) < (0 : Int)))
noncomputable def iA_18 (a : Nat) (b : Nat) (c : Nat) (d : Nat) : Bool := (decide (((0 : Int) ≤ (((@findB (@ite _ (((decide ((65 : Nat) ≤ (@UInt8.toNat (@UInt8.ofNat c)))) && (decide ((@UInt8.toNat (@UInt8.ofNat c)) ≤ (90 : Nat)))) = true) _ (@UInt8.ofNat ((@UInt8.toNat (@UInt8.ofNat c)) + (32 : Nat) : Nat)) (@UInt8.ofNat c)) ([(48 : UInt8), (49 : UInt8), (50 : UInt8), (51 : UInt8), (52 : UInt8), (53 : UInt8), (54 : UInt8), (55 : UInt8), (56 : UInt8), (57 : UInt8), (97 : UInt8), (98 : UInt8), (99 : UInt8), (100 : UInt8), (101 : UInt8), (102 : UInt8)] : List UInt8) (0 : Nat)) * (16 : Int) : Int) + (@findB (@ite _ (((decide ((65 : Nat) ≤ (@UInt8.toNat (@UInt8.ofNat d)))) && (decide ((@UInt8.toNat (@UInt8.ofNat d)) ≤ (90 : Nat)))) = true) _ (@UInt8.ofNat ((@UInt8.toNat (@UInt8.ofNat d)) + (32 : Nat) : Nat)) (@UInt8.ofNat d)) ([(48 : UInt8), (49 : UInt8), (50 : UInt8), (51 : UInt8), (52 : UInt8), (53 : UInt8), (54 : UInt8), (55 : UInt8), (56 : UInt8), (57 : UInt8), (97 : UInt8), (98 : UInt8), (99 : UInt8), (100 : UInt8), (101 : UInt8), (102 : UInt8)] : List UInt8) (0 : Nat)) : Int)) ∧ (((((@findB (@ite _ (((decide ((65 : Nat) ≤ (@UInt8.toNat (@UInt8.ofNat c)))) && (decide ((@UInt8.toNat (@UInt8.ofNat c)) ≤ (90 : Nat)))) = true) _ (@UInt8.ofNat ((@UInt8.toNat (@UInt8.ofNat c)) + (32 : Nat) : Nat)) (@UInt8.ofNat c)) ([(48 : UInt8), (49 : UInt8), (50 : UInt8), (51 : UInt8), (52 : UInt8), (53 : UInt8), (54 : UInt8), (55 : UInt8), (56 : UInt8), (57 : UInt8), (97 : UInt8), (98 : UInt8), (99 : UInt8), (100 : UInt8), (101 : UInt8), (102 : UInt8)] : List UInt8) (0 : Nat)) * (16 : Int) : Int) + (@findB (@ite _ (((decide ((65 : Nat) ≤ (@UInt8.toNat (@UInt8.ofNat d)))) && (decide ((@UInt8.toNat (@UInt8.ofNat d)) ≤ (90 : Nat)))) = true) _ (@UInt8.ofNat ((@UInt8.toNat (@UInt8.ofNat d)) + (32 : Nat) : Nat)) (@UInt8.ofNat d)) ([(48 : UInt8), (49 : UInt8), (50 : UInt8), (51 : UInt8), (52 : UInt8), (53 : UInt8), (54 : UInt8), (55 : UInt8), (56 : UInt8), (57 : UInt8), (97 : UInt8), (98 : UInt8), (99 : UInt8), (100 : UInt8), (101 : UInt8), (102 : UInt8)] : List UInt8) (0 : Nat)) : Int) < (256 : Int)) ∧ (((@List.length _ ([(0 : UInt8), (1 : UInt8), (0 : UInt8), (0 : UInt8), (0 : UInt8), (0 : UInt8), (0 : UInt8), (0 : UInt8), (0 : UInt8), (0 : UInt8), (0 : UInt8), (0 : UInt8), (0 : UInt8), (0 : UInt8), (@UInt8.ofNat (@Int.toNat (((@findB (@ite _ (((decide ((65 : Nat) ≤ (@UInt8.toNat (@UInt8.ofNat a)))) && (decide ((@UInt8.toNat (@UInt8.ofNat a)) ≤ (90 : Nat)))) = true) _ (@UInt8.ofNat ((@UInt8.toNat (@UInt8.ofNat a)) + (32 : Nat) : Nat)) (@UInt8.ofNat a)) ([(48 : UInt8), (49 : UInt8), (50 : UInt8), (51 : UInt8), (52 : UInt8), (53 : UInt8), (54 : UInt8), (55 : UInt8), (56 : UInt8), (57 : UInt8), (97 : UInt8), (98 : UInt8), (99 : UInt8), (100 : UInt8), (101 : UInt8), (102 : UInt8)] : List UInt8) (0 : Nat)) * (16 : Int) : Int) + (@findB (@ite _ (((decide ((65 : Nat) ≤ (@UInt8.toNat (@UInt8.ofNat b)))) && (decide ((@UInt8.toNat (@UInt8.ofNat b)) ≤ (90 : Nat)))) = true) _ (@UInt8.ofNat ((@UInt8.toNat (@UInt8.ofNat b)) + (32 : Nat) : Nat)) (@UInt8.ofNat b)) ([(48 : UInt8), (49 : UInt8), (50 : UInt8), (51 : UInt8), (52 : UInt8), (53 : UInt8), (54 : UInt8), (55 : UInt8), (56 : UInt8), (57 : UInt8), (97 : UInt8), (98 : UInt8), (99 : UInt8), (100 : UInt8), (101 : UInt8), (102 : UInt8)] : List UInt8) (0 : Nat)) : Int)))] : List UInt8)) + (1 : Nat) : Nat) ≤ (16777216 : Nat)))))
noncomputable def iA_obs (a : Nat) (b : Nat) (c : Nat) (d : Nat) : List (Bool × Bool) := [(iA_0 a b c d, true), (iA_1 a b c d, false), (iA_2 a b c d, false), (iA_3 a b c d, false), (iA_4 a b c d, false), (iA_5 a b c d, false), (iA_6 a b c d, false), (iA_7 a b c d, false), (iA_8 a b c d, false), (iA_9 a b c d, false), (iA_10 a b c d, false), (iA_11 a b c d, false), (iA_12 a b c d, false), (iA_3 a b c d, false), (iA_4 a b c d, false), (iA_5 a b c d, false), (iA_6 a b c d, false), (iA_13 a b c d, false), (iA_14 a b c d, false), (iA_15 a b c d, true), (iA_16 a b c d, false), (iA_17 a b c d, false), (iA_18 a b c d, true)]
theorem iA_run (a : Nat) (b : Nat) (c : Nat) (d : Nat) (l : List (Nat × List MV)) (loc : Loc) : outc ((fnsN (tl l) N0).1.ca (.gl 532) [MV.str { cps := { toList := [49, 58, 58, a, b, c, d] } }] ⟨[], loc, iA_orc⟩) = some (iA_val a b c d, loc, iA_obs a b c d) := by kernel_rfl
noncomputable def iA_ms : List Nat := [2,1,1,0,0,1,1,0,0,1,1,2,1,0,0,1,1,0,0,0,1,1,1]
theorem iA_ab : (List.range 256).all (fun k => selX 0 iA_ms (iA_obs (hexc (k / 16)) (hexc (k % 16)) 48 48)) = true := by kernel_rfl
theorem iA_cd : (List.range 256).all (fun k => selX 1 iA_ms (iA_obs 48 48 (hexc (k / 16)) (hexc (k % 16)))) = true := by kernel_rfl
theorem iA_pick (p q r s : Nat) : pickX iA_ms (iA_obs (hexc p) (hexc q) 48 48) (iA_obs 48 48 (hexc r) (hexc s)) [(iA_0 (hexc p) (hexc q) (hexc r) (hexc s), true), (iA_11 (hexc p) (hexc q) (hexc r) (hexc s), false)] = iA_obs (hexc p) (hexc q) (hexc r) (hexc s) := by kernel_rfl
theorem iA_ok (p q r s : Nat) (hp : p < 16) (hq : q < 16) (hr : r < 16) (hs : s < 16) : AllOk (iA_obs (hexc p) (hexc q) (hexc r) (hexc s)) := by
  have h1 := pairAt iA_ab hp hq
  have h2 := pairAt iA_cd hr hs
  rw [show (16 * p + q) / 16 = p by omega, show (16 * p + q) % 16 = q by omega] at h1
  rw [show (16 * r + s) / 16 = r by omega, show (16 * r + s) % 16 = s by omega] at h2
  exact iA_pick p q r s ▸ pick_ok _ _ _ [(iA_0 (hexc p) (hexc q) (hexc r) (hexc s), true), (iA_11 (hexc p) (hexc q) (hexc r) (hexc s), false)] h1 h2 (by show _ ≤ 2; decide +kernel) ⟨(by show iA_0 (hexc p) (hexc q) (hexc r) (hexc s) = true; unfold iA_0; rw [asc4 p q r s hp hq hr hs]; rfl), in4 p q r s hp hq hr hs, trivial⟩
noncomputable def iB_val (a : Nat) (b : Nat) (c : Nat) (d : Nat) : MV := (@MV.bytes ([(0 : UInt8), (1 : UInt8), (0 : UInt8), (0 : UInt8), (0 : UInt8), (0 : UInt8), (0 : UInt8), (0 : UInt8), (0 : UInt8), (0 : UInt8), (0 : UInt8), (0 : UInt8), (0 : UInt8), (0 : UInt8), (@UInt8.ofNat (@Int.toNat (((@findB (@ite _ (((decide ((65 : Nat) ≤ (@UInt8.toNat (@UInt8.ofNat a)))) && (decide ((@UInt8.toNat (@UInt8.ofNat a)) ≤ (90 : Nat)))) = true) _ (@UInt8.ofNat ((@UInt8.toNat (@UInt8.ofNat a)) + (32 : Nat) : Nat)) (@UInt8.ofNat a)) ([(48 : UInt8), (49 : UInt8), (50 : UInt8), (51 : UInt8), (52 : UInt8), (53 : UInt8), (54 : UInt8), (55 : UInt8), (56 : UInt8), (57 : UInt8), (97 : UInt8), (98 : UInt8), (99 : UInt8), (100 : UInt8), (101 : UInt8), (102 : UInt8)] : List UInt8) (0 : Nat)) * (16 : Int) : Int) + (@findB (@ite _ (((decide ((65 : Nat) ≤ (@UInt8.toNat (@UInt8.ofNat b)))) && (decide ((@UInt8.toNat (@UInt8.ofNat b)) ≤ (90 : Nat)))) = true) _ (@UInt8.ofNat ((@UInt8.toNat (@UInt8.ofNat b)) + (32 : Nat) : Nat)) (@UInt8.ofNat b)) ([(48 : UInt8), (49 : UInt8), (50 : UInt8), (51 : UInt8), (52 : UInt8), (53 : UInt8), (54 : UInt8), (55 : UInt8), (56 : UInt8), (57 : UInt8), (97 : UInt8), (98 : UInt8), (99 : UInt8), (100 : UInt8), (101 : UInt8), (102 : UInt8)] : List UInt8) (0 : Nat)) : Int))), (@UInt8.ofNat (@Int.toNat (((@findB (@ite _ (((decide ((65 : Nat) ≤ (@UInt8.toNat (@UInt8.ofNat c)))) && (decide ((@UInt8.toNat (@UInt8.ofNat c)) ≤ (90 : Nat)))) = true) _ (@UInt8.ofNat ((@UInt8.toNat (@UInt8.ofNat c)) + (32 : Nat) : Nat)) (@UInt8.ofNat c)) ([(48 : UInt8), (49 : UInt8), (50 : UInt8), (51 : UInt8), (52 : UInt8), (53 : UInt8), (54 : UInt8), (55 : UInt8), (56 : UInt8), (57 : UInt8), (97 : UInt8), (98 : UInt8), (99 : UInt8), (100 : UInt8), (101 : UInt8), (102 : UInt8)] : List UInt8) (0 : Nat)) * (16 : Int) : Int) + (@findB (@ite _ (((decide ((65 : Nat) ≤ (@UInt8.toNat (@UInt8.ofNat d)))) && (decide ((@UInt8.toNat (@UInt8.ofNat d)) ≤ (90 : Nat)))) = true) _ (@UInt8.ofNat ((@UInt8.toNat (@UInt8.ofNat d)) + (32 : Nat) : Nat)) (@UInt8.ofNat d)) ([(48 : UInt8), (49 : UInt8), (50 : UInt8), (51 : UInt8), (52 : UInt8), (53 : UInt8), (54 : UInt8), (55 : UInt8), (56 : UInt8), (57 : UInt8), (97 : UInt8), (98 : UInt8), (99 : UInt8), (100 : UInt8), (101 : UInt8), (102 : UInt8)] : List UInt8) (0 : Nat)) : Int)))] : List UInt8))
noncomputable def iB_orc : List (Option Bool) := oc [0,1,0,0,0,0,0,2,2,2,2,0,0,0,0,2,0,0,2,0,0,0,0,2,2,2,2,0,0,0,0,2,2,2,2,0,2,0,0,0,0,2,0,0,0,0,2,2,2,2,0,0,0,0,0,0,0,0,0,0,0,0,0,0,0,0,0,0,0,0,0,0,0,0,0,0,0,0,0,0,0,0,0,0,0,0,0,0,0,0,0,0,0,0,0,0,0,0,0,0,0,0,0,0,0,0,0,0,0,0,0,0,0,0,0,0,0,0,0,0,0,0,0,0,0,0,0,0,0,0,0,0,0,0,0,0,0,0,0,0,0,0,0,0,0,0,0,0,0,0,0,0,0,0,0,0,0,0,0,0,0,0,0,0,0,0,0,0,0,0,0,0,0,0,0,0,0,0,0,0,0,0,0,0,0,0,0,0,0,0,0,0,0,0,0,0,0,0,0,0,0,0,0,0,0,0,0,0,0,0,0,0,0,0,0,0,0,0,0,0,0,0,0,0,0,0,0,0,0,0,0,0,0,0,0,0,0,0,0,0,0,0,0,0,0,0,0,0,0,0,0,0,0,0,0,0,0,0,0,0,0,0,0,0,0,0,0,0,0,0,0,0,0,0,0,0,0,0,0,0,0,0,0,0,0,0,0,0,0,0,0,0,0,0,0,0,0,0,0,0,0,0,0,0,0,0,0,0,0,0,0,0,0,0,0,0,0,0,0,0,0,0,0,0,0,0,0,0,0,0,0,0,0,0,0,0,0,0,0,0,0,0,0,0,0,0,0,0,0,0,0,0,0,0,0,0,0,0,0,0,0,0,0,0,0,0,0,0,2,2,0,1,0,0,0,0,0,0,0,0,0,0,0,0,0,0,0,2,2,0,1,0,0]
noncomputable def iB_1 (a : Nat) (b : Nat) (c : Nat) (d : Nat) : Bool := (@Nat.beq (@UInt8.toNat (@UInt8.ofNat a)) (37 : Nat))
noncomputable def iB_2 (a : Nat) (b : Nat) (c : Nat) (d : Nat) : Bool := (@Nat.beq (@UInt8.toNat (@UInt8.ofNat b)) (37 : Nat))
noncomputable def iB_3 (a : Nat) (b : Nat) (c : Nat) (d : Nat) : Bool := (@Nat.beq (@UInt8.toNat (@UInt8.ofNat c)) (37 : Nat))
noncomputable def iB_4 (a : Nat) (b : Nat) (c : Nat) (d : Nat) : Bool := (@Nat.beq (@UInt8.toNat (@UInt8.ofNat d)) (37 : Nat))
noncomputable def iB_obs (a : Nat) (b : Nat) (c : Nat) (d : Nat) : List (Bool × Bool) := [(iA_0 a b c d, true), (iB_1 a b c d, false), (iB_2 a b c d, false), (iB_3 a b c d, false), (iB_4 a b c d, false), (iA_1 a b c d, false), (iA_2 a b c d, false), (iA_3 a b c d, false), (iA_4 a b c d, false), (iA_5 a b c d, false), (iA_6 a b c d, false), (iA_7 a b c d, false), (iA_8 a b c d, false), (iA_9 a b c d, false), (iA_10 a b c d, false), (iA_11 a b c d, false), (iA_12 a b c d, false), (iA_3 a b c d, false), (iA_4 a b c d, false), (iA_5 a b c d, false), (iA_6 a b c d, false), (iA_13 a b c d, false), (iA_14 a b c d, false), (iA_15 a b c d, true), (iA_16 a b c d, false), (iA_17 a b c d, false), (iA_18 a b c d, true)]
theorem iB_run (a : Nat) (b : Nat) (c : Nat) (d : Nat) (l : List (Nat × List MV)) (loc : Loc) : outc ((fnsN (tl l) N0).1.ca (.gl 532) [MV.str { cps := { toList := [49, 58, 58, a, b, c, d] } }, MV.bool true] ⟨[], loc, iB_orc⟩) = some (iB_val a b c d, loc, iB_obs a b c d) := by kernel_rfl
noncomputable def iB_ms : List Nat := [2,0,0,1,1,1,1,0,0,1,1,0,0,1,1,2,1,0,0,1,1,0,0,0,1,1,1]
theorem iB_ab : (List.range 256).all (fun k => selX 0 iB_ms (iB_obs (hexc (k / 16)) (hexc (k % 16)) 48 48)) = true := by kernel_rfl
theorem iB_cd : (List.range 256).all (fun k => selX 1 iB_ms (iB_obs 48 48 (hexc (k / 16)) (hexc (k % 16)))) = true := by kernel_rfl
theorem iB_pick (p q r s : Nat) : pickX iB_ms (iB_obs (hexc p) (hexc q) 48 48) (iB_obs 48 48 (hexc r) (hexc s)) [(iA_0 (hexc p) (hexc q) (hexc r) (hexc s), true), (iA_11 (hexc p) (hexc q) (hexc r) (hexc s), false)] = iB_obs (hexc p) (hexc q) (hexc r) (hexc s) := by kernel_rfl
theorem iB_ok (p q r s : Nat) (hp : p < 16) (hq : q < 16) (hr : r < 16) (hs : s < 16) : AllOk (iB_obs (hexc p) (hexc q) (hexc r) (hexc s)) := by
  have h1 := pairAt iB_ab hp hq
  have h2 := pairAt iB_cd hr hs
  rw [show (16 * p + q) / 16 = p by omega, show (16 * p + q) % 16 = q by omega] at h1
  rw [show (16 * r + s) / 16 = r by omega, show (16 * r + s) % 16 = s by omega] at h2
  exact iB_pick p q r s ▸ pick_ok _ _ _ [(iA_0 (hexc p) (hexc q) (hexc r) (hexc s), true), (iA_11 (hexc p) (hexc q) (hexc r) (hexc s), false)] h1 h2 (by show _ ≤ 2; decide +kernel) ⟨(by show iA_0 (hexc p) (hexc q) (hexc r) (hexc s) = true; unfold iA_0; rw [asc4 p q r s hp hq hr hs]; rfl), in4 p q r s hp hq hr hs, trivial⟩
noncomputable def iC_val (a : Nat) (b : Nat) (c : Nat) (d : Nat) : MV := (@MV.bytes ([(0 : UInt8), (1 : UInt8), (0 : UInt8), (0 : UInt8), (0 : UInt8), (0 : UInt8), (0 : UInt8), (0 : UInt8), (0 : UInt8), (0 : UInt8), (0 : UInt8), (0 : UInt8), (0 : UInt8), (0 : UInt8), (@UInt8.ofNat (@Int.toNat (((@findB (@ite _ (((decide ((65 : Nat) ≤ (@UInt8.toNat (@UInt8.ofNat a)))) && (decide ((@UInt8.toNat (@UInt8.ofNat a)) ≤ (90 : Nat)))) = true) _ (@UInt8.ofNat ((@UInt8.toNat (@UInt8.ofNat a)) + (32 : Nat) : Nat)) (@UInt8.ofNat a)) ([(48 : UInt8), (49 : UInt8), (50 : UInt8), (51 : UInt8), (52 : UInt8), (53 : UInt8), (54 : UInt8), (55 : UInt8), (56 : UInt8), (57 : UInt8), (97 : UInt8), (98 : UInt8), (99 : UInt8), (100 : UInt8), (101 : UInt8), (102 : UInt8)] : List UInt8) (0 : Nat)) * (16 : Int) : Int) + (@findB (@ite _ (((decide ((65 : Nat) ≤ (@UInt8.toNat (@UInt8.ofNat b)))) && (decide ((@UInt8.toNat (@UInt8.ofNat b)) ≤ (90 : Nat)))) = true) _ (@UInt8.ofNat ((@UInt8.toNat (@UInt8.ofNat b)) + (32 : Nat) : Nat)) (@UInt8.ofNat b)) ([(48 : UInt8), (49 : UInt8), (50 : UInt8), (51 : UInt8), (52 : UInt8), (53 : UInt8), (54 : UInt8), (55 : UInt8), (56 : UInt8), (57 : UInt8), (97 : UInt8), (98 : UInt8), (99 : UInt8), (100 : UInt8), (101 : UInt8), (102 : UInt8)] : List UInt8) (0 : Nat)) : Int))), (@UInt8.ofNat (@Int.toNat (((@findB (@ite _ (((decide ((65 : Nat) ≤ (@UInt8.toNat (@UInt8.ofNat c)))) && (decide ((@UInt8.toNat (@UInt8.ofNat c)) ≤ (90 : Nat)))) = true) _ (@UInt8.ofNat ((@UInt8.toNat (@UInt8.ofNat c)) + (32 : Nat) : Nat)) (@UInt8.ofNat c)) ([(48 : UInt8), (49 : UInt8), (50 : UInt8), (51 : UInt8), (52 : UInt8), (53 : UInt8), (54 : UInt8), (55 : UInt8), (56 : UInt8), (57 : UInt8), (97 : UInt8), (98 : UInt8), (99 : UInt8), (100 : UInt8), (101 : UInt8), (102 : UInt8)] : List UInt8) (0 : Nat)) * (16 : Int) : Int) + (@findB (@ite _ (((decide ((65 : Nat) ≤ (@UInt8.toNat (@UInt8.ofNat d)))) && (decide ((@UInt8.toNat (@UInt8.ofNat d)) ≤ (90 : Nat)))) = true) _ (@UInt8.ofNat ((@UInt8.toNat (@UInt8.ofNat d)) + (32 : Nat) : Nat)) (@UInt8.ofNat d)) ([(48 : UInt8), (49 : UInt8), (50 : UInt8), (51 : UInt8), (52 : UInt8), (53 : UInt8), (54 : UInt8), (55 : UInt8), (56 : UInt8), (57 : UInt8), (97 : UInt8), (98 : UInt8), (99 : UInt8), (100 : UInt8), (101 : UInt8), (102 : UInt8)] : List UInt8) (0 : Nat)) : Int)))] : List UInt8))
noncomputable def iC_orc : List (Option Bool) := oc [0,0,0,0,0,0,2,2,2,2,0,0,0,0,2,0,0,2,0,0,0,0,2,2,2,2,0,0,0,0,2,2,2,2,0,2,0,0,0,0,2,0,0,0,0,2,2,2,2,0,0,0,0,0,0,0,0,0,0,0,0,0,0,0,0,0,0,0,0,0,0,0,0,0,0,0,0,0,0,0,0,0,0,0,0,0,0,0,0,0,0,0,0,0,0,0,0,0,0,0,0,0,0,0,0,0,0,0,0,0,0,0,0,0,0,0,0,0,0,0,0,0,0,0,0,0,0,0,0,0,0,0,0,0,0,0,0,0,0,0,0,0,0,0,0,0,0,0,0,0,0,0,0,0,0,0,0,0,0,0,0,0,0,0,0,0,0,0,0,0,0,0,0,0,0,0,0,0,0,0,0,0,0,0,0,0,0,0,0,0,0,0,0,0,0,0,0,0,0,0,0,0,0,0,0,0,0,0,0,0,0,0,0,0,0,0,0,0,0,0,0,0,0,0,0,0,0,0,0,0,0,0,0,0,0,0,0,0,0,0,0,0,0,0,0,0,0,0,0,0,0,0,0,0,0,0,0,0,0,0,0,0,0,0,0,0,0,0,0,0,0,0,0,0,0,0,0,0,0,0,0,0,0,0,0,0,0,0,0,0,0,0,0,0,0,0,0,0,0,0,0,0,0,0,0,0,0,0,0,0,0,0,0,0,0,0,0,0,0,0,0,0,0,0,0,0,0,0,0,0,0,0,0,0,0,0,0,0,0,0,0,0,0,0,0,0,0,0,0,0,0,0,0,0,0,0,0,0,0,0,0,0,0,0,0,0,0,2,2,0,1,0,0,0,0,0,0,0,0,0,0,0,0,0,0,0,2,2,0,1,0,0]
noncomputable def iC_obs (a : Nat) (b : Nat) (c : Nat) (d : Nat) : List (Bool × Bool) := [(iB_1 a b c d, false), (iB_2 a b c d, false), (iB_3 a b c d, false), (iB_4 a b c d, false), (iA_1 a b c d, false), (iA_2 a b c d, false), (iA_3 a b c d, false), (iA_4 a b c d, false), (iA_5 a b c d, false), (iA_6 a b c d, false), (iA_7 a b c d, false), (iA_8 a b c d, false), (iA_9 a b c d, false), (iA_10 a b c d, false), (iA_11 a b c d, false), (iA_12 a b c d, false), (iA_3 a b c d, false), (iA_4 a b c d, false), (iA_5 a b c d, false), (iA_6 a b c d, false), (iA_13 a b c d, false), (iA_14 a b c d, false), (iA_15 a b c d, true), (iA_16 a b c d, false), (iA_17 a b c d, false), (iA_18 a b c d, true)]
theorem iC_run (a : Nat) (b : Nat) (c : Nat) (d : Nat) (l : List (Nat × List MV)) (loc : Loc) : outc ((fnsN (tl l) N0).1.ca (.gl 532) [MV.bytes [49, 58, 58, UInt8.ofNat a, UInt8.ofNat b, UInt8.ofNat c, UInt8.ofNat d], MV.bool true] ⟨[], loc, iC_orc⟩) = some (iC_val a b c d, loc, iC_obs a b c d) := by kernel_rfl
noncomputable def iC_ms : List Nat := [0,0,1,1,1,1,0,0,1,1,0,0,1,1,2,1,0,0,1,1,0,0,0,1,1,1]
theorem iC_ab : (List.range 256).all (fun k => selX 0 iC_ms (iC_obs (hexc (k / 16)) (hexc (k % 16)) 48 48)) = true := by kernel_rfl
theorem iC_cd : (List.range 256).all (fun k => selX 1 iC_ms (iC_obs 48 48 (hexc (k / 16)) (hexc (k % 16)))) = true := by kernel_rfl
theorem iC_pick (p q r s : Nat) : pickX iC_ms (iC_obs (hexc p) (hexc q) 48 48) (iC_obs 48 48 (hexc r) (hexc s)) [(iA_11 (hexc p) (hexc q) (hexc r) (hexc s), false)] = iC_obs (hexc p) (hexc q) (hexc r) (hexc s) := by kernel_rfl
theorem iC_ok (p q r s : Nat) (hp : p < 16) (hq : q < 16) (hr : r < 16) (hs : s < 16) : AllOk (iC_obs (hexc p) (hexc q) (hexc r) (hexc s)) := by
  have h1 := pairAt iC_ab hp hq
  have h2 := pairAt iC_cd hr hs
  rw [show (16 * p + q) / 16 = p by omega, show (16 * p + q) % 16 = q by omega] at h1
  rw [show (16 * r + s) / 16 = r by omega, show (16 * r + s) % 16 = s by omega] at h2
  exact iC_pick p q r s ▸ pick_ok _ _ _ [(iA_11 (hexc p) (hexc q) (hexc r) (hexc s), false)] h1 h2 (by show _ ≤ 1; decide +kernel) ⟨in4 p q r s hp hq hr hs, trivial⟩
theorem val_eq (a b c d : Nat) : iA_val a b c d = .bytes [0, 1, 0, 0, 0, 0, 0, 0, 0, 0, 0, 0, 0, 0, UInt8.ofNat (Int.toNat (hx a * 16 + hx b)), UInt8.ofNat (Int.toNat (hx c * 16 + hx d))] := rfl
theorem val_b (a b c d : Nat) : iB_val a b c d = iA_val a b c d := rfl
theorem val_c (a b c d : Nat) : iC_val a b c d = iA_val a b c d := rfl
theorem hx_at {p q : Nat} (hp : p < 16) (hq : q < 16) : UInt8.ofNat (Int.toNat (hx (hexc p) * 16 + hx (hexc q))) = (16 * p + q).toUInt8 := by
  have h := pairAt hx_pair hp hq
  rw [show (16 * p + q) / 16 = p by omega, show (16 * p + q) % 16 = q by omega] at h
  have e := Nat.eq_of_beq_eq_true h
  apply UInt8.toNat_inj.mp
  rw [e]
  show _ = (UInt8.ofNat (16 * p + q)).toNat
  rw [UInt8.toNat_ofNat']; omega
theorem val_oct (g : Nat) (hg : g < 65536) : iA_val (hexc (g / 4096 % 16)) (hexc (g / 256 % 16)) (hexc (g / 16 % 16)) (hexc (g % 16)) = .bytes (octOf g) := by
  rw [val_eq, hx_at (Nat.mod_lt _ (by decide)) (Nat.mod_lt _ (by decide)), hx_at (Nat.mod_lt _ (by decide)) (Nat.mod_lt _ (by decide))]
  have e1 : 16 * (g / 4096 % 16) + g / 256 % 16 = g / 256 := by omega
  have e2 : 16 * (g / 16 % 16) + g % 16 = g % 256 := by omega
  rw [e1, e2]
  rfl
theorem in_says (l : List (Nat × List MV)) (g : Nat) (hg : g < 65536) : Says (tl l) 532 [.str (textOf g)] (.bytes (octOf g)) ∧ Says (tl l) 532 [.str (textOf g), .bool true] (.bytes (octOf g)) ∧ Says (tl l) 532 [.bytes (btextOf g), .bool true] (.bytes (octOf g)) := by
  have m : ∀ x : Nat, x % 16 < 16 := fun x => Nat.mod_lt _ (by decide)
  rw [← val_oct g hg]
  exact ⟨⟨iA_orc, _, iA_ok _ _ _ _ (m _) (m _) (m _) (m _), fun loc => iA_run _ _ _ _ l loc⟩, ⟨iB_orc, _, iB_ok _ _ _ _ (m _) (m _) (m _) (m _), fun loc => iB_run _ _ _ _ l loc⟩, ⟨iC_orc, _, iC_ok _ _ _ _ (m _) (m _) (m _) (m _), fun loc => iC_run _ _ _ _ l loc⟩⟩
end Mine
end

section
set_option maxRecDepth 1000000
set_option maxHeartbeats 0
set_option linter.unusedVariables false
set_option linter.unusedSimpArgs false
open PySem PySem.W PySem.Calls PyProof.Rows
namespace Mine
theorem flat_len (k : Nat) (x : UInt8) : (List.flatten (List.replicate k [x])).length = k := by
  induction k with
  | zero => rfl
  | succ k ih => rw [List.replicate_succ, List.flatten_cons, List.length_append, ih]; simp; omega
theorem u8_nil {l : List UInt8} (h : l.length ≠ 0) : u8sEq l [] = false := by
  cases l with
  | nil => exact absurd rfl h
  | cons _ _ => rfl
theorem lower_app (a b : List UInt8) : lowerB (a ++ b) = lowerB a ++ lowerB b := by unfold lowerB; rw [List.map_append]
theorem lower_len (a : List UInt8) : (lowerB a).length = a.length := by unfold lowerB; rw [List.length_map]
theorem lt_app : ∀ (a b : List UInt8), b.length ≠ 0 → ltL a (a ++ b) = true
  | [], [], h => absurd rfl h
  | [], _ :: _, _ => rfl
  | x :: a, b, h => by
    rw [List.cons_append]
    unfold ltL
    rw [if_neg (Nat.lt_irrefl _), if_neg (Nat.lt_irrefl _)]
    exact lt_app a b h
theorem not_lt_app : ∀ (a b : List UInt8), ltL (a ++ b) a = false
  | [], [] => rfl
  | [], _ :: _ => rfl
  | x :: a, b => by
    rw [List.cons_append]
    unfold ltL
    rw [if_neg (Nat.lt_irrefl _), if_neg (Nat.lt_irrefl _)]
    exact not_lt_app a b
theorem lt_low (a b : List UInt8) (h : b.length ≠ 0) : ltL (lowerB a) (lowerB (a ++ b)) = true := by rw [lower_app]; exact lt_app _ _ (by rw [lower_len]; exact h)
theorem not_lt_low (a b : List UInt8) : ltL (lowerB (a ++ b)) (lowerB a) = false := by rw [lower_app]; exact not_lt_app _ _
theorem fm (n : Int) (k : Int) (hk : 0 < k) : 0 ≤ n.fmod k ∧ n.fmod k < k := ⟨Int.fmod_nonneg_of_pos n hk, Int.fmod_lt_of_pos n hk⟩
noncomputable def oA_val (i : Int) : MV := (@MV.bool true)
noncomputable def oA_orc : List (Option Bool) := oc [0,0,1,0,0,0,1,0,0,2,0,0,0,0,0,1,2,0,2,0,0,0,0,2,0,0,0,1,0,0,0,1,1,0,0,0,0,0,1,2,0,2,0,0,0,0,2,0,0,0,0,0,0,0,0,0,0,0,0,0,0,0,0,0,0,0,0,0,0,0,0,0,0,0,0,0,0,0,0,1,0,0,0,1,1,0,0,0,0,0,0,0,0,0,0,0,0,0,0,0,0,0,0,0,0,0,0,0,0,0,0,0,0,0,0,0,0,0,0,0,0,1,0,0,0,1,2,1,0,0,0,0,0,0,0,0,0,0,0,0,0,0,0,0,0,0,0,0,0,0,0,0,0,0,0,0,0,0,0,0,0,0,0,0,1,0,0,0,1,1,0,0,0,0,0,0,0,0,0,0,0,0,0,0,0,0,0,0,0,0,0,0,0,0,0,0,0,0,0,0,0,0,0,0,0,0,1,0,0,0,1,2,1,0,0,0,0,0,0,0,0,0,0,0,0,0,0,0,0,0,0,0,0,0,0,0,0,0,0,0,0,0,0,0,0,0,0,0,0,1,0,0,0,1,1,0,0,0,0,0,0,0,0,0,0,0,0,0,0,0,0,0,0,0,0,0,0,0,0,0,0,0,0,0,0,0,0,0,0,0,1,0,0,0,1,1,0,0,0,0,0,0,0,0,0,0,0,0,0,0,0,0,0,0,0,0,0,0,0,0,0,0,0,0,0,0,0,0,0,0,0,1,0,0,0,1,2,1,0,0,0,0,0]
noncomputable def oA_0 (i : Int) : Bool := (@List.all _ ([((97 : Int) + (@Int.fmod i (26 : Int)) : Int)] : List Int) (fun (i : Int) => (decide (((0 : Int) ≤ i) ∧ (i < (256 : Int))))))
noncomputable def oA_1 (i : Int) : Bool := (decide (((@List.length _ ([(@UInt8.ofNat (@Int.toNat ((97 : Int) + (@Int.fmod i (26 : Int)) : Int)))] : List UInt8)) = (1 : Nat)) ∧ (((0 : Int) ≤ ((1 : Int) + (@Int.fmod (@Int.fdiv i (26 : Int)) (5 : Int)) : Int)) ∧ (((1 : Int) + (@Int.fmod (@Int.fdiv i (26 : Int)) (5 : Int)) : Int) ≤ (1048576 : Int)))))
noncomputable def oA_2 (i : Int) : Bool := (decide ((64 : Int) < (@Int.fmod (@Int.fdiv i (130 : Int)) (256 : Int))))
noncomputable def oA_3 (i : Int) : Bool := (decide ((@List.length _ (@List.flatten _ (@List.replicate _ (@Int.toNat ((1 : Int) + (@Int.fmod (@Int.fdiv i (26 : Int)) (5 : Int)) : Int)) ([(@UInt8.ofNat (@Int.toNat ((97 : Int) + (@Int.fmod i (26 : Int)) : Int)))] : List UInt8)))) ≤ (16777216 : Nat)))
noncomputable def oA_4 (i : Int) : Bool := (decide ((63 : Int) < (((@List.length _ (@List.flatten _ (@List.replicate _ (@Int.toNat ((1 : Int) + (@Int.fmod (@Int.fdiv i (26 : Int)) (5 : Int)) : Int)) ([(@UInt8.ofNat (@Int.toNat ((97 : Int) + (@Int.fmod i (26 : Int)) : Int)))] : List UInt8)))) : Nat) : Int)))
noncomputable def oA_5 (i : Int) : Bool := (@u8sEq (@List.flatten _ (@List.replicate _ (@Int.toNat ((1 : Int) + (@Int.fmod (@Int.fdiv i (26 : Int)) (5 : Int)) : Int)) ([(@UInt8.ofNat (@Int.toNat ((97 : Int) + (@Int.fmod i (26 : Int)) : Int)))] : List UInt8))) ([] : List UInt8))
noncomputable def oA_6 (i : Int) : Bool := (decide ((255 : Int) < (((0 : Int) + ((((@List.length _ (@List.flatten _ (@List.replicate _ (@Int.toNat ((1 : Int) + (@Int.fmod (@Int.fdiv i (26 : Int)) (5 : Int)) : Int)) ([(@UInt8.ofNat (@Int.toNat ((97 : Int) + (@Int.fmod i (26 : Int)) : Int)))] : List UInt8)))) : Nat) : Int) + (1 : Int) : Int) : Int) + (1 : Int) : Int)))
noncomputable def oA_7 (i : Int) : Bool := (@List.all _ ([(@Int.fmod (@Int.fdiv i (130 : Int)) (256 : Int))] : List Int) (fun (i : Int) => (decide (((0 : Int) ≤ i) ∧ (i < (256 : Int))))))
noncomputable def oA_8 (i : Int) : Bool := (decide (((@List.length _ ([(@UInt8.ofNat (@Int.toNat (@Int.fmod (@Int.fdiv i (130 : Int)) (256 : Int))))] : List UInt8)) = (1 : Nat)) ∧ (((0 : Int) ≤ ((1 : Int) + (@Int.fmod (@Int.fdiv i (33280 : Int)) (3 : Int)) : Int)) ∧ (((1 : Int) + (@Int.fmod (@Int.fdiv i (33280 : Int)) (3 : Int)) : Int) ≤ (1048576 : Int)))))
noncomputable def oA_9 (i : Int) : Bool := (decide (((@List.length _ (@List.flatten _ (@List.replicate _ (@Int.toNat ((1 : Int) + (@Int.fmod (@Int.fdiv i (26 : Int)) (5 : Int)) : Int)) ([(@UInt8.ofNat (@Int.toNat ((97 : Int) + (@Int.fmod i (26 : Int)) : Int)))] : List UInt8)))) + (@List.length _ (@List.flatten _ (@List.replicate _ (@Int.toNat ((1 : Int) + (@Int.fmod (@Int.fdiv i (33280 : Int)) (3 : Int)) : Int)) ([(@UInt8.ofNat (@Int.toNat (@Int.fmod (@Int.fdiv i (130 : Int)) (256 : Int))))] : List UInt8)))) : Nat) ≤ (16777216 : Nat)))
noncomputable def oA_10 (i : Int) : Bool := (decide ((@List.length _ ((@List.flatten _ (@List.replicate _ (@Int.toNat ((1 : Int) + (@Int.fmod (@Int.fdiv i (26 : Int)) (5 : Int)) : Int)) ([(@UInt8.ofNat (@Int.toNat ((97 : Int) + (@Int.fmod i (26 : Int)) : Int)))] : List UInt8))) ++ (@List.flatten _ (@List.replicate _ (@Int.toNat ((1 : Int) + (@Int.fmod (@Int.fdiv i (33280 : Int)) (3 : Int)) : Int)) ([(@UInt8.ofNat (@Int.toNat (@Int.fmod (@Int.fdiv i (130 : Int)) (256 : Int))))] : List UInt8))))) ≤ (16777216 : Nat)))
noncomputable def oA_11 (i : Int) : Bool := (decide ((63 : Int) < (((@List.length _ ((@List.flatten _ (@List.replicate _ (@Int.toNat ((1 : Int) + (@Int.fmod (@Int.fdiv i (26 : Int)) (5 : Int)) : Int)) ([(@UInt8.ofNat (@Int.toNat ((97 : Int) + (@Int.fmod i (26 : Int)) : Int)))] : List UInt8))) ++ (@List.flatten _ (@List.replicate _ (@Int.toNat ((1 : Int) + (@Int.fmod (@Int.fdiv i (33280 : Int)) (3 : Int)) : Int)) ([(@UInt8.ofNat (@Int.toNat (@Int.fmod (@Int.fdiv i (130 : Int)) (256 : Int))))] : List UInt8))))) : Nat) : Int)))
noncomputable def oA_12 (i : Int) : Bool := (@u8sEq ((@List.flatten _ (@List.replicate _ (@Int.toNat ((1 : Int) + (@Int.fmod (@Int.fdiv i (26 : Int)) (5 : Int)) : Int)) ([(@UInt8.ofNat (@Int.toNat ((97 : Int) + (@Int.fmod i (26 : Int)) : Int)))] : List UInt8))) ++ (@List.flatten _ (@List.replicate _ (@Int.toNat ((1 : Int) + (@Int.fmod (@Int.fdiv i (33280 : Int)) (3 : Int)) : Int)) ([(@UInt8.ofNat (@Int.toNat (@Int.fmod (@Int.fdiv i (130 : Int)) (256 : Int))))] : List UInt8)))) ([] : List UInt8))
noncomputable def oA_13 (i : Int) : Bool := (decide ((255 : Int) < (((0 : Int) + ((((@List.length _ ((@List.flatten _ (@List.replicate _ (@Int.toNat ((1 : Int) + (@Int.fmod (@Int.fdiv i (26 : Int)) (5 : Int)) : Int)) ([(@UInt8.ofNat (@Int.toNat ((97 : Int) + (@Int.fmod i (26 : Int)) : Int)))] : List UInt8))) ++ (@List.flatten _ (@List.replicate _ (@Int.toNat ((1 : Int) + (@Int.fmod (@Int.fdiv i (33280 : Int)) (3 : Int)) : Int)) ([(@UInt8.ofNat (@Int.toNat (@Int.fmod (@Int.fdiv i (130 : Int)) (256 : Int))))] : List UInt8))))) : Nat) : Int) + (1 : Int) : Int) : Int) + (1 : Int) : Int)))
noncomputable def oA_14 (i : Int) : Bool := (@ltL (@lowerB (@List.flatten _ (@List.replicate _ (@Int.toNat ((1 : Int) + (@Int.fmod (@Int.fdiv i (26 : Int)) (5 : Int)) : Int)) ([(@UInt8.ofNat (@Int.toNat ((97 : Int) + (@Int.fmod i (26 : Int)) : Int)))] : List UInt8)))) (@lowerB ((@List.flatten _ (@List.replicate _ (@Int.toNat ((1 : Int) + (@Int.fmod (@Int.fdiv i (26 : Int)) (5 : Int)) : Int)) ([(@UInt8.ofNat (@Int.toNat ((97 : Int) + (@Int.fmod i (26 : Int)) : Int)))] : List UInt8))) ++ (@List.flatten _ (@List.replicate _ (@Int.toNat ((1 : Int) + (@Int.fmod (@Int.fdiv i (33280 : Int)) (3 : Int)) : Int)) ([(@UInt8.ofNat (@Int.toNat (@Int.fmod (@Int.fdiv i (130 : Int)) (256 : Int))))] : List UInt8))))))
noncomputable def oA_15 (i : Int) : Bool := (@ltL (@lowerB ((@List.flatten _ (@List.replicate _ (@Int.toNat ((1 : Int) + (@Int.fmod (@Int.fdiv i (26 : Int)) (5 : Int)) : Int)) ([(@UInt8.ofNat (@Int.toNat ((97 : Int) + (@Int.fmod i (26 : Int)) : Int)))] : List UInt8))) ++ (@List.flatten _ (@List.replicate _ (@Int.toNat ((1 : Int) + (@Int.fmod (@Int.fdiv i (33280 : Int)) (3 : Int)) : Int)) ([(@UInt8.ofNat (@Int.toNat (@Int.fmod (@Int.fdiv i (130 : Int)) (256 : Int))))] : List UInt8))))) (@lowerB (@List.flatten _ (@List.replicate _ (@Int.toNat ((1 : Int) + (@Int.fmod (@Int.fdiv i (26 : Int)) (5 : Int)) : Int)) ([(@UInt8.ofNat (@Int.toNat ((97 : Int) + (@Int.fmod i (26 : Int)) : Int)))] : List UInt8)))))
noncomputable def oA_obs (i : Int) : List (Bool × Bool) := [(oA_0 i, true), (oA_1 i, true), (oA_2 i, false), (oA_3 i, true), (oA_4 i, false), (oA_5 i, false), (oA_6 i, false), (oA_7 i, true), (oA_8 i, true), (oA_9 i, true), (oA_10 i, true), (oA_11 i, false), (oA_12 i, false), (oA_13 i, false), (oA_3 i, true), (oA_10 i, true), (oA_14 i, true), (oA_10 i, true), (oA_3 i, true), (oA_15 i, false), (oA_14 i, true), (oA_3 i, true), (oA_10 i, true), (oA_14 i, true), (oA_10 i, true), (oA_3 i, true), (oA_15 i, false), (oA_14 i, true), (oA_3 i, true), (oA_10 i, true), (oA_14 i, true), (oA_3 i, true), (oA_10 i, true), (oA_14 i, true), (oA_10 i, true), (oA_3 i, true), (oA_15 i, false), (oA_14 i, true)]
theorem oA_run (i : Int) (l : List (Nat × List MV)) (loc : Loc) : outc ((fnsN (tl l) N0).1.ca (.gl 965) [MV.int i] ⟨[], loc, oA_orc⟩) = some (oA_val i, loc, oA_obs i) := by kernel_rfl
theorem oA_ok (i : Int) (hp : ¬ 64 < (i.fdiv 130).fmod 256) : AllOk (oA_obs i) := by
  have h1 := fm i 26 (by decide)
  have h2 := fm (i.fdiv 26) 5 (by decide)
  have h3 := fm (i.fdiv 130) 256 (by decide)
  have h4 := fm (i.fdiv 33280) 3 (by decide)
  have qoA_0 : oA_0 i = true := by unfold oA_0; simp only [List.all_cons, List.all_nil, Bool.and_true, decide_eq_true_eq, List.length_append, flat_len, List.length_cons, List.length_nil, Nat.zero_add, true_and]; omega
  have qoA_1 : oA_1 i = true := by unfold oA_1; simp only [List.all_cons, List.all_nil, Bool.and_true, decide_eq_true_eq, List.length_append, flat_len, List.length_cons, List.length_nil, Nat.zero_add, true_and]; omega
  have qoA_2 : oA_2 i = false := by unfold oA_2; simp only [decide_eq_false_iff_not, List.length_append, flat_len, List.length_cons, List.length_nil, Nat.zero_add, true_and]; omega
  have qoA_3 : oA_3 i = true := by unfold oA_3; simp only [List.all_cons, List.all_nil, Bool.and_true, decide_eq_true_eq, List.length_append, flat_len, List.length_cons, List.length_nil, Nat.zero_add, true_and]; omega
  have qoA_4 : oA_4 i = false := by unfold oA_4; simp only [decide_eq_false_iff_not, List.length_append, flat_len, List.length_cons, List.length_nil, Nat.zero_add, true_and]; omega
  have qoA_5 : oA_5 i = false := by unfold oA_5; exact u8_nil (by simp only [List.length_append, flat_len]; omega)
  have qoA_6 : oA_6 i = false := by unfold oA_6; simp only [decide_eq_false_iff_not, List.length_append, flat_len, List.length_cons, List.length_nil, Nat.zero_add, true_and]; omega
  have qoA_7 : oA_7 i = true := by unfold oA_7; simp only [List.all_cons, List.all_nil, Bool.and_true, decide_eq_true_eq, List.length_append, flat_len, List.length_cons, List.length_nil, Nat.zero_add, true_and]; omega
  have qoA_8 : oA_8 i = true := by unfold oA_8; simp only [List.all_cons, List.all_nil, Bool.and_true, decide_eq_true_eq, List.length_append, flat_len, List.length_cons, List.length_nil, Nat.zero_add, true_and]; omega
  have qoA_9 : oA_9 i = true := by unfold oA_9; simp only [List.all_cons, List.all_nil, Bool.and_true, decide_eq_true_eq, List.length_append, flat_len, List.length_cons, List.length_nil, Nat.zero_add, true_and]; omega
  have qoA_10 : oA_10 i = true := by unfold oA_10; simp only [List.all_cons, List.all_nil, Bool.and_true, decide_eq_true_eq, List.length_append, flat_len, List.length_cons, List.length_nil, Nat.zero_add, true_and]; omega
  have qoA_11 : oA_11 i = false := by unfold oA_11; simp only [decide_eq_false_iff_not, List.length_append, flat_len, List.length_cons, List.length_nil, Nat.zero_add, true_and]; omega
  have qoA_12 : oA_12 i = false := by unfold oA_12; exact u8_nil (by simp only [List.length_append, flat_len]; omega)
  have qoA_13 : oA_13 i = false := by unfold oA_13; simp only [decide_eq_false_iff_not, List.length_append, flat_len, List.length_cons, List.length_nil, Nat.zero_add, true_and]; omega
  have qoA_14 : oA_14 i = true := by unfold oA_14; exact lt_low _ _ (by rw [flat_len]; omega)
  have qoA_15 : oA_15 i = false := by unfold oA_15; exact not_lt_low _ _
  exact ⟨qoA_0, qoA_1, qoA_2, qoA_3, qoA_4, qoA_5, qoA_6, qoA_7, qoA_8, qoA_9, qoA_10, qoA_11, qoA_12, qoA_13, qoA_3, qoA_10, qoA_14, qoA_10, qoA_3, qoA_15, qoA_14, qoA_3, qoA_10, qoA_14, qoA_10, qoA_3, qoA_15, qoA_14, qoA_3, qoA_10, qoA_14, qoA_3, qoA_10, qoA_14, qoA_10, qoA_3, qoA_15, qoA_14, trivial⟩
noncomputable def oB_val (i : Int) : MV := (@MV.bool true)
noncomputable def oB_orc : List (Option Bool) := oc [0,0,1,0,0,0,1,0,0,1,1,0,0,0,0,0,1,2,0,2,0,0,0,0,2,0,0,0,1,0,0,0,1,1,0,0,0,0,0,1,2,0,2,0,0,0,0,2,0,0,0,0,0,0,0,0,0,0,0,0,0,0,0,0,0,0,0,0,0,0,0,0,0,0,0,0,0,0,0,0,1,0,0,0,1,1,0,0,0,0,0,0,0,0,0,0,0,0,0,0,0,0,0,0,0,0,0,0,0,0,0,0,0,0,0,0,0,0,0,0,0,0,1,0,0,0,1,2,1,0,0,0,0,0,0,0,0,0,0,0,0,0,0,0,0,0,0,0,0,0,0,0,0,0,0,0,0,0,0,0,0,0,0,0,0,1,0,0,0,1,1,0,0,0,0,0,0,0,0,0,0,0,0,0,0,0,0,0,0,0,0,0,0,0,0,0,0,0,0,0,0,0,0,0,0,0,0,1,0,0,0,1,2,1,0,0,0,0,0,0,0,0,0,0,0,0,0,0,0,0,0,0,0,0,0,0,0,0,0,0,0,0,0,0,0,0,0,0,0,0,1,0,0,0,1,1,0,0,0,0,0,0,0,0,0,0,0,0,0,0,0,0,0,0,0,0,0,0,0,0,0,0,0,0,0,0,0,0,0,0,0,1,0,0,0,1,1,0,0,0,0,0,0,0,0,0,0,0,0,0,0,0,0,0,0,0,0,0,0,0,0,0,0,0,0,0,0,0,0,0,0,0,1,0,0,0,1,2,1,0,0,0,0,0]
noncomputable def oB_0 (i : Int) : Bool := (@List.all _ ([((97 : Int) + (@Int.fmod i (26 : Int)) : Int)] : List Int) (fun (i : Int) => (decide (((0 : Int) ≤ i) ∧ (i < (256 : Int))))))
noncomputable def oB_1 (i : Int) : Bool := (decide (((@List.length _ ([(@UInt8.ofNat (@Int.toNat ((97 : Int) + (@Int.fmod i (26 : Int)) : Int)))] : List UInt8)) = (1 : Nat)) ∧ (((0 : Int) ≤ ((1 : Int) + (@Int.fmod (@Int.fdiv i (26 : Int)) (5 : Int)) : Int)) ∧ (((1 : Int) + (@Int.fmod (@Int.fdiv i (26 : Int)) (5 : Int)) : Int) ≤ (1048576 : Int)))))
noncomputable def oB_2 (i : Int) : Bool := (decide ((64 : Int) < (@Int.fmod (@Int.fdiv i (130 : Int)) (256 : Int))))
noncomputable def oB_3 (i : Int) : Bool := (decide ((@Int.fmod (@Int.fdiv i (130 : Int)) (256 : Int)) < (91 : Int)))
noncomputable def oB_4 (i : Int) : Bool := (decide ((@List.length _ (@List.flatten _ (@List.replicate _ (@Int.toNat ((1 : Int) + (@Int.fmod (@Int.fdiv i (26 : Int)) (5 : Int)) : Int)) ([(@UInt8.ofNat (@Int.toNat ((97 : Int) + (@Int.fmod i (26 : Int)) : Int)))] : List UInt8)))) ≤ (16777216 : Nat)))
noncomputable def oB_5 (i : Int) : Bool := (decide ((63 : Int) < (((@List.length _ (@List.flatten _ (@List.replicate _ (@Int.toNat ((1 : Int) + (@Int.fmod (@Int.fdiv i (26 : Int)) (5 : Int)) : Int)) ([(@UInt8.ofNat (@Int.toNat ((97 : Int) + (@Int.fmod i (26 : Int)) : Int)))] : List UInt8)))) : Nat) : Int)))
noncomputable def oB_6 (i : Int) : Bool := (@u8sEq (@List.flatten _ (@List.replicate _ (@Int.toNat ((1 : Int) + (@Int.fmod (@Int.fdiv i (26 : Int)) (5 : Int)) : Int)) ([(@UInt8.ofNat (@Int.toNat ((97 : Int) + (@Int.fmod i (26 : Int)) : Int)))] : List UInt8))) ([] : List UInt8))
noncomputable def oB_7 (i : Int) : Bool := (decide ((255 : Int) < (((0 : Int) + ((((@List.length _ (@List.flatten _ (@List.replicate _ (@Int.toNat ((1 : Int) + (@Int.fmod (@Int.fdiv i (26 : Int)) (5 : Int)) : Int)) ([(@UInt8.ofNat (@Int.toNat ((97 : Int) + (@Int.fmod i (26 : Int)) : Int)))] : List UInt8)))) : Nat) : Int) + (1 : Int) : Int) : Int) + (1 : Int) : Int)))
noncomputable def oB_8 (i : Int) : Bool := (@List.all _ ([((@Int.fmod (@Int.fdiv i (130 : Int)) (256 : Int)) + (32 : Int) : Int)] : List Int) (fun (i : Int) => (decide (((0 : Int) ≤ i) ∧ (i < (256 : Int))))))
noncomputable def oB_9 (i : Int) : Bool := (decide (((@List.length _ ([(@UInt8.ofNat (@Int.toNat ((@Int.fmod (@Int.fdiv i (130 : Int)) (256 : Int)) + (32 : Int) : Int)))] : List UInt8)) = (1 : Nat)) ∧ (((0 : Int) ≤ ((1 : Int) + (@Int.fmod (@Int.fdiv i (33280 : Int)) (3 : Int)) : Int)) ∧ (((1 : Int) + (@Int.fmod (@Int.fdiv i (33280 : Int)) (3 : Int)) : Int) ≤ (1048576 : Int)))))
noncomputable def oB_10 (i : Int) : Bool := (decide (((@List.length _ (@List.flatten _ (@List.replicate _ (@Int.toNat ((1 : Int) + (@Int.fmod (@Int.fdiv i (26 : Int)) (5 : Int)) : Int)) ([(@UInt8.ofNat (@Int.toNat ((97 : Int) + (@Int.fmod i (26 : Int)) : Int)))] : List UInt8)))) + (@List.length _ (@List.flatten _ (@List.replicate _ (@Int.toNat ((1 : Int) + (@Int.fmod (@Int.fdiv i (33280 : Int)) (3 : Int)) : Int)) ([(@UInt8.ofNat (@Int.toNat ((@Int.fmod (@Int.fdiv i (130 : Int)) (256 : Int)) + (32 : Int) : Int)))] : List UInt8)))) : Nat) ≤ (16777216 : Nat)))
noncomputable def oB_11 (i : Int) : Bool := (decide ((@List.length _ ((@List.flatten _ (@List.replicate _ (@Int.toNat ((1 : Int) + (@Int.fmod (@Int.fdiv i (26 : Int)) (5 : Int)) : Int)) ([(@UInt8.ofNat (@Int.toNat ((97 : Int) + (@Int.fmod i (26 : Int)) : Int)))] : List UInt8))) ++ (@List.flatten _ (@List.replicate _ (@Int.toNat ((1 : Int) + (@Int.fmod (@Int.fdiv i (33280 : Int)) (3 : Int)) : Int)) ([(@UInt8.ofNat (@Int.toNat ((@Int.fmod (@Int.fdiv i (130 : Int)) (256 : Int)) + (32 : Int) : Int)))] : List UInt8))))) ≤ (16777216 : Nat)))
noncomputable def oB_12 (i : Int) : Bool := (decide ((63 : Int) < (((@List.length _ ((@List.flatten _ (@List.replicate _ (@Int.toNat ((1 : Int) + (@Int.fmod (@Int.fdiv i (26 : Int)) (5 : Int)) : Int)) ([(@UInt8.ofNat (@Int.toNat ((97 : Int) + (@Int.fmod i (26 : Int)) : Int)))] : List UInt8))) ++ (@List.flatten _ (@List.replicate _ (@Int.toNat ((1 : Int) + (@Int.fmod (@Int.fdiv i (33280 : Int)) (3 : Int)) : Int)) ([(@UInt8.ofNat (@Int.toNat ((@Int.fmod (@Int.fdiv i (130 : Int)) (256 : Int)) + (32 : Int) : Int)))] : List UInt8))))) : Nat) : Int)))
noncomputable def oB_13 (i : Int) : Bool := (@u8sEq ((@List.flatten _ (@List.replicate _ (@Int.toNat ((1 : Int) + (@Int.fmod (@Int.fdiv i (26 : Int)) (5 : Int)) : Int)) ([(@UInt8.ofNat (@Int.toNat ((97 : Int) + (@Int.fmod i (26 : Int)) : Int)))] : List UInt8))) ++ (@List.flatten _ (@List.replicate _ (@Int.toNat ((1 : Int) + (@Int.fmod (@Int.fdiv i (33280 : Int)) (3 : Int)) : Int)) ([(@UInt8.ofNat (@Int.toNat ((@Int.fmod (@Int.fdiv i (130 : Int)) (256 : Int)) + (32 : Int) : Int)))] : List UInt8)))) ([] : List UInt8))
noncomputable def oB_14 (i : Int) : Bool := (decide ((255 : Int) < (((0 : Int) + ((((@List.length _ ((@List.flatten _ (@List.replicate _ (@Int.toNat ((1 : Int) + (@Int.fmod (@Int.fdiv i (26 : Int)) (5 : Int)) : Int)) ([(@UInt8.ofNat (@Int.toNat ((97 : Int) + (@Int.fmod i (26 : Int)) : Int)))] : List UInt8))) ++ (@List.flatten _ (@List.replicate _ (@Int.toNat ((1 : Int) + (@Int.fmod (@Int.fdiv i (33280 : Int)) (3 : Int)) : Int)) ([(@UInt8.ofNat (@Int.toNat ((@Int.fmod (@Int.fdiv i (130 : Int)) (256 : Int)) + (32 : Int) : Int)))] : List UInt8))))) : Nat) : Int) + (1 : Int) : Int) : Int) + (1 : Int) : Int)))
noncomputable def oB_15 (i : Int) : Bool := (@ltL (@lowerB (@List.flatten _ (@List.replicate _ (@Int.toNat ((1 : Int) + (@Int.fmod (@Int.fdiv i (26 : Int)) (5 : Int)) : Int)) ([(@UInt8.ofNat (@Int.toNat ((97 : Int) + (@Int.fmod i (26 : Int)) : Int)))] : List UInt8)))) (@lowerB ((@List.flatten _ (@List.replicate _ (@Int.toNat ((1 : Int) + (@Int.fmod (@Int.fdiv i (26 : Int)) (5 : Int)) : Int)) ([(@UInt8.ofNat (@Int.toNat ((97 : Int) + (@Int.fmod i (26 : Int)) : Int)))] : List UInt8))) ++ (@List.flatten _ (@List.replicate _ (@Int.toNat ((1 : Int) + (@Int.fmod (@Int.fdiv i (33280 : Int)) (3 : Int)) : Int)) ([(@UInt8.ofNat (@Int.toNat ((@Int.fmod (@Int.fdiv i (130 : Int)) (256 : Int)) + (32 : Int) : Int)))] : List UInt8))))))
noncomputable def oB_16 (i : Int) : Bool := (@ltL (@lowerB ((@List.flatten _ (@List.replicate _ (@Int.toNat ((1 : Int) + (@Int.fmod (@Int.fdiv i (26 : Int)) (5 : Int)) : Int)) ([(@UInt8.ofNat (@Int.toNat ((97 : Int) + (@Int.fmod i (26 : Int)) : Int)))] : List UInt8))) ++ (@List.flatten _ (@List.replicate _ (@Int.toNat ((1 : Int) + (@Int.fmod (@Int.fdiv i (33280 : Int)) (3 : Int)) : Int)) ([(@UInt8.ofNat (@Int.toNat ((@Int.fmod (@Int.fdiv i (130 : Int)) (256 : Int)) + (32 : Int) : Int)))] : List UInt8))))) (@lowerB (@List.flatten _ (@List.replicate _ (@Int.toNat ((1 : Int) + (@Int.fmod (@Int.fdiv i (26 : Int)) (5 : Int)) : Int)) ([(@UInt8.ofNat (@Int.toNat ((97 : Int) + (@Int.fmod i (26 : Int)) : Int)))] : List UInt8)))))
noncomputable def oB_obs (i : Int) : List (Bool × Bool) := [(oB_0 i, true), (oB_1 i, true), (oB_2 i, true), (oB_3 i, true), (oB_4 i, true), (oB_5 i, false), (oB_6 i, false), (oB_7 i, false), (oB_8 i, true), (oB_9 i, true), (oB_10 i, true), (oB_11 i, true), (oB_12 i, false), (oB_13 i, false), (oB_14 i, false), (oB_4 i, true), (oB_11 i, true), (oB_15 i, true), (oB_11 i, true), (oB_4 i, true), (oB_16 i, false), (oB_15 i, true), (oB_4 i, true), (oB_11 i, true), (oB_15 i, true), (oB_11 i, true), (oB_4 i, true), (oB_16 i, false), (oB_15 i, true), (oB_4 i, true), (oB_11 i, true), (oB_15 i, true), (oB_4 i, true), (oB_11 i, true), (oB_15 i, true), (oB_11 i, true), (oB_4 i, true), (oB_16 i, false), (oB_15 i, true)]
theorem oB_run (i : Int) (l : List (Nat × List MV)) (loc : Loc) : outc ((fnsN (tl l) N0).1.ca (.gl 965) [MV.int i] ⟨[], loc, oB_orc⟩) = some (oB_val i, loc, oB_obs i) := by kernel_rfl
theorem oB_ok (i : Int) (hp : 64 < (i.fdiv 130).fmod 256) (hp2 : (i.fdiv 130).fmod 256 < 91) : AllOk (oB_obs i) := by
  have h1 := fm i 26 (by decide)
  have h2 := fm (i.fdiv 26) 5 (by decide)
  have h3 := fm (i.fdiv 130) 256 (by decide)
  have h4 := fm (i.fdiv 33280) 3 (by decide)
  have qoB_0 : oB_0 i = true := by unfold oB_0; simp only [List.all_cons, List.all_nil, Bool.and_true, decide_eq_true_eq, List.length_append, flat_len, List.length_cons, List.length_nil, Nat.zero_add, true_and]; omega
  have qoB_1 : oB_1 i = true := by unfold oB_1; simp only [List.all_cons, List.all_nil, Bool.and_true, decide_eq_true_eq, List.length_append, flat_len, List.length_cons, List.length_nil, Nat.zero_add, true_and]; omega
  have qoB_2 : oB_2 i = true := by unfold oB_2; simp only [List.all_cons, List.all_nil, Bool.and_true, decide_eq_true_eq, List.length_append, flat_len, List.length_cons, List.length_nil, Nat.zero_add, true_and]; omega
  have qoB_3 : oB_3 i = true := by unfold oB_3; simp only [List.all_cons, List.all_nil, Bool.and_true, decide_eq_true_eq, List.length_append, flat_len, List.length_cons, List.length_nil, Nat.zero_add, true_and]; omega
  have qoB_4 : oB_4 i = true := by unfold oB_4; simp only [List.all_cons, List.all_nil, Bool.and_true, decide_eq_true_eq, List.length_append, flat_len, List.length_cons, List.length_nil, Nat.zero_add, true_and]; omega
  have qoB_5 : oB_5 i = false := by unfold oB_5; simp only [decide_eq_false_iff_not, List.length_append, flat_len, List.length_cons, List.length_nil, Nat.zero_add, true_and]; omega
  have qoB_6 : oB_6 i = false := by unfold oB_6; exact u8_nil (by simp only [List.length_append, flat_len]; omega)
  have qoB_7 : oB_7 i = false := by unfold oB_7; simp only [decide_eq_false_iff_not, List.length_append, flat_len, List.length_cons, List.length_nil, Nat.zero_add, true_and]; omega
  have qoB_8 : oB_8 i = true := by unfold oB_8; simp only [List.all_cons, List.all_nil, Bool.and_true, decide_eq_true_eq, List.length_append, flat_len, List.length_cons, List.length_nil, Nat.zero_add, true_and]; omega
  have qoB_9 : oB_9 i = true := by unfold oB_9; simp only [List.all_cons, List.all_nil, Bool.and_true, decide_eq_true_eq, List.length_append, flat_len, List.length_cons, List.length_nil, Nat.zero_add, true_and]; omega
  have qoB_10 : oB_10 i = true := by unfold oB_10; simp only [List.all_cons, List.all_nil, Bool.and_true, decide_eq_true_eq, List.length_append, flat_len, List.length_cons, List.length_nil, Nat.zero_add, true_and]; omega
  have qoB_11 : oB_11 i = true := by unfold oB_11; simp only [List.all_cons, List.all_nil, Bool.and_true, decide_eq_true_eq, List.length_append, flat_len, List.length_cons, List.length_nil, Nat.zero_add, true_and]; omega
  have qoB_12 : oB_12 i = false := by unfold oB_12; simp only [decide_eq_false_iff_not, List.length_append, flat_len, List.length_cons, List.length_nil, Nat.zero_add, true_and]; omega
  have qoB_13 : oB_13 i = false := by unfold oB_13; exact u8_nil (by simp only [List.length_append, flat_len]; omega)
  have qoB_14 : oB_14 i = false := by unfold oB_14; simp only [decide_eq_false_iff_not, List.length_append, flat_len, List.length_cons, List.length_nil, Nat.zero_add, true_and]; omega
  have qoB_15 : oB_15 i = true := by unfold oB_15; exact lt_low _ _ (by rw [flat_len]; omega)
  have qoB_16 : oB_16 i = false := by unfold oB_16; exact not_lt_low _ _
  exact ⟨qoB_0, qoB_1, qoB_2, qoB_3, qoB_4, qoB_5, qoB_6, qoB_7, qoB_8, qoB_9, qoB_10, qoB_11, qoB_12, qoB_13, qoB_14, qoB_4, qoB_11, qoB_15, qoB_11, qoB_4, qoB_16, qoB_15, qoB_4, qoB_11, qoB_15, qoB_11, qoB_4, qoB_16, qoB_15, qoB_4, qoB_11, qoB_15, qoB_4, qoB_11, qoB_15, qoB_11, qoB_4, qoB_16, qoB_15, trivial⟩
noncomputable def oC_val (i : Int) : MV := (@MV.bool true)
noncomputable def oC_orc : List (Option Bool) := oc [0,0,1,0,0,0,1,0,0,1,2,0,0,0,0,0,1,2,0,2,0,0,0,0,2,0,0,0,1,0,0,0,1,1,0,0,0,0,0,1,2,0,2,0,0,0,0,2,0,0,0,0,0,0,0,0,0,0,0,0,0,0,0,0,0,0,0,0,0,0,0,0,0,0,0,0,0,0,0,0,1,0,0,0,1,1,0,0,0,0,0,0,0,0,0,0,0,0,0,0,0,0,0,0,0,0,0,0,0,0,0,0,0,0,0,0,0,0,0,0,0,0,1,0,0,0,1,2,1,0,0,0,0,0,0,0,0,0,0,0,0,0,0,0,0,0,0,0,0,0,0,0,0,0,0,0,0,0,0,0,0,0,0,0,0,1,0,0,0,1,1,0,0,0,0,0,0,0,0,0,0,0,0,0,0,0,0,0,0,0,0,0,0,0,0,0,0,0,0,0,0,0,0,0,0,0,0,1,0,0,0,1,2,1,0,0,0,0,0,0,0,0,0,0,0,0,0,0,0,0,0,0,0,0,0,0,0,0,0,0,0,0,0,0,0,0,0,0,0,0,1,0,0,0,1,1,0,0,0,0,0,0,0,0,0,0,0,0,0,0,0,0,0,0,0,0,0,0,0,0,0,0,0,0,0,0,0,0,0,0,0,1,0,0,0,1,1,0,0,0,0,0,0,0,0,0,0,0,0,0,0,0,0,0,0,0,0,0,0,0,0,0,0,0,0,0,0,0,0,0,0,0,1,0,0,0,1,2,1,0,0,0,0,0]
noncomputable def oC_0 (i : Int) : Bool := (@List.all _ ([((97 : Int) + (@Int.fmod i (26 : Int)) : Int)] : List Int) (fun (i : Int) => (decide (((0 : Int) ≤ i) ∧ (i < (256 : Int))))))
noncomputable def oC_1 (i : Int) : Bool := (decide (((@List.length _ ([(@UInt8.ofNat (@Int.toNat ((97 : Int) + (@Int.fmod i (26 : Int)) : Int)))] : List UInt8)) = (1 : Nat)) ∧ (((0 : Int) ≤ ((1 : Int) + (@Int.fmod (@Int.fdiv i (26 : Int)) (5 : Int)) : Int)) ∧ (((1 : Int) + (@Int.fmod (@Int.fdiv i (26 : Int)) (5 : Int)) : Int) ≤ (1048576 : Int)))))
noncomputable def oC_2 (i : Int) : Bool := (decide ((64 : Int) < (@Int.fmod (@Int.fdiv i (130 : Int)) (256 : Int))))
noncomputable def oC_3 (i : Int) : Bool := (decide ((@Int.fmod (@Int.fdiv i (130 : Int)) (256 : Int)) < (91 : Int)))
noncomputable def oC_4 (i : Int) : Bool := (decide ((@List.length _ (@List.flatten _ (@List.replicate _ (@Int.toNat ((1 : Int) + (@Int.fmod (@Int.fdiv i (26 : Int)) (5 : Int)) : Int)) ([(@UInt8.ofNat (@Int.toNat ((97 : Int) + (@Int.fmod i (26 : Int)) : Int)))] : List UInt8)))) ≤ (16777216 : Nat)))
noncomputable def oC_5 (i : Int) : Bool := (decide ((63 : Int) < (((@List.length _ (@List.flatten _ (@List.replicate _ (@Int.toNat ((1 : Int) + (@Int.fmod (@Int.fdiv i (26 : Int)) (5 : Int)) : Int)) ([(@UInt8.ofNat (@Int.toNat ((97 : Int) + (@Int.fmod i (26 : Int)) : Int)))] : List UInt8)))) : Nat) : Int)))
noncomputable def oC_6 (i : Int) : Bool := (@u8sEq (@List.flatten _ (@List.replicate _ (@Int.toNat ((1 : Int) + (@Int.fmod (@Int.fdiv i (26 : Int)) (5 : Int)) : Int)) ([(@UInt8.ofNat (@Int.toNat ((97 : Int) + (@Int.fmod i (26 : Int)) : Int)))] : List UInt8))) ([] : List UInt8))
noncomputable def oC_7 (i : Int) : Bool := (decide ((255 : Int) < (((0 : Int) + ((((@List.length _ (@List.flatten _ (@List.replicate _ (@Int.toNat ((1 : Int) + (@Int.fmod (@Int.fdiv i (26 : Int)) (5 : Int)) : Int)) ([(@UInt8.ofNat (@Int.toNat ((97 : Int) + (@Int.fmod i (26 : Int)) : Int)))] : List UInt8)))) : Nat) : Int) + (1 : Int) : Int) : Int) + (1 : Int) : Int)))
noncomputable def oC_8 (i : Int) : Bool := (@List.all _ ([(@Int.fmod (@Int.fdiv i (130 : Int)) (256 : Int))] : List Int) (fun (i : Int) => (decide (((0 : Int) ≤ i) ∧ (i < (256 : Int))))))
noncomputable def oC_9 (i : Int) : Bool := (decide (((@List.length _ ([(@UInt8.ofNat (@Int.toNat (@Int.fmod (@Int.fdiv i (130 : Int)) (256 : Int))))] : List UInt8)) = (1 : Nat)) ∧ (((0 : Int) ≤ ((1 : Int) + (@Int.fmod (@Int.fdiv i (33280 : Int)) (3 : Int)) : Int)) ∧ (((1 : Int) + (@Int.fmod (@Int.fdiv i (33280 : Int)) (3 : Int)) : Int) ≤ (1048576 : Int)))))
noncomputable def oC_10 (i : Int) : Bool := (decide (((@List.length _ (@List.flatten _ (@List.replicate _ (@Int.toNat ((1 : Int) + (@Int.fmod (@Int.fdiv i (26 : Int)) (5 : Int)) : Int)) ([(@UInt8.ofNat (@Int.toNat ((97 : Int) + (@Int.fmod i (26 : Int)) : Int)))] : List UInt8)))) + (@List.length _ (@List.flatten _ (@List.replicate _ (@Int.toNat ((1 : Int) + (@Int.fmod (@Int.fdiv i (33280 : Int)) (3 : Int)) : Int)) ([(@UInt8.ofNat (@Int.toNat (@Int.fmod (@Int.fdiv i (130 : Int)) (256 : Int))))] : List UInt8)))) : Nat) ≤ (16777216 : Nat)))
noncomputable def oC_11 (i : Int) : Bool := (decide ((@List.length _ ((@List.flatten _ (@List.replicate _ (@Int.toNat ((1 : Int) + (@Int.fmod (@Int.fdiv i (26 : Int)) (5 : Int)) : Int)) ([(@UInt8.ofNat (@Int.toNat ((97 : Int) + (@Int.fmod i (26 : Int)) : Int)))] : List UInt8))) ++ (@List.flatten _ (@List.replicate _ (@Int.toNat ((1 : Int) + (@Int.fmod (@Int.fdiv i (33280 : Int)) (3 : Int)) : Int)) ([(@UInt8.ofNat (@Int.toNat (@Int.fmod (@Int.fdiv i (130 : Int)) (256 : Int))))] : List UInt8))))) ≤ (16777216 : Nat)))
noncomputable def oC_12 (i : Int) : Bool := (decide ((63 : Int) < (((@List.length _ ((@List.flatten _ (@List.replicate _ (@Int.toNat ((1 : Int) + (@Int.fmod (@Int.fdiv i (26 : Int)) (5 : Int)) : Int)) ([(@UInt8.ofNat (@Int.toNat ((97 : Int) + (@Int.fmod i (26 : Int)) : Int)))] : List UInt8))) ++ (@List.flatten _ (@List.replicate _ (@Int.toNat ((1 : Int) + (@Int.fmod (@Int.fdiv i (33280 : Int)) (3 : Int)) : Int)) ([(@UInt8.ofNat (@Int.toNat (@Int.fmod (@Int.fdiv i (130 : Int)) (256 : Int))))] : List UInt8))))) : Nat) : Int)))
noncomputable def oC_13 (i : Int) : Bool := (@u8sEq ((@List.flatten _ (@List.replicate _ (@Int.toNat ((1 : Int) + (@Int.fmod (@Int.fdiv i (26 : Int)) (5 : Int)) : Int)) ([(@UInt8.ofNat (@Int.toNat ((97 : Int) + (@Int.fmod i (26 : Int)) : Int)))] : List UInt8))) ++ (@List.flatten _ (@List.replicate _ (@Int.toNat ((1 : Int) + (@Int.fmod (@Int.fdiv i (33280 : Int)) (3 : Int)) : Int)) ([(@UInt8.ofNat (@Int.toNat (@Int.fmod (@Int.fdiv i (130 : Int)) (256 : Int))))] : List UInt8)))) ([] : List UInt8))
noncomputable def oC_14 (i : Int) : Bool := (decide ((255 : Int) < (((0 : Int) + ((((@List.length _ ((@List.flatten _ (@List.replicate _ (@Int.toNat ((1 : Int) + (@Int.fmod (@Int.fdiv i (26 : Int)) (5 : Int)) : Int)) ([(@UInt8.ofNat (@Int.toNat ((97 : Int) + (@Int.fmod i (26 : Int)) : Int)))] : List UInt8))) ++ (@List.flatten _ (@List.replicate _ (@Int.toNat ((1 : Int) + (@Int.fmod (@Int.fdiv i (33280 : Int)) (3 : Int)) : Int)) ([(@UInt8.ofNat (@Int.toNat (@Int.fmod (@Int.fdiv i (130 : Int)) (256 : Int))))] : List UInt8))))) : Nat) : Int) + (1 : Int) : Int) : Int) + (1 : Int) : Int)))
noncomputable def oC_15 (i : Int) : Bool := (@ltL (@lowerB (@List.flatten _ (@List.replicate _ (@Int.toNat ((1 : Int) + (@Int.fmod (@Int.fdiv i (26 : Int)) (5 : Int)) : Int)) ([(@UInt8.ofNat (@Int.toNat ((97 : Int) + (@Int.fmod i (26 : Int)) : Int)))] : List UInt8)))) (@lowerB ((@List.flatten _ (@List.replicate _ (@Int.toNat ((1 : Int) + (@Int.fmod (@Int.fdiv i (26 : Int)) (5 : Int)) : Int)) ([(@UInt8.ofNat (@Int.toNat ((97 : Int) + (@Int.fmod i (26 : Int)) : Int)))] : List UInt8))) ++ (@List.flatten _ (@List.replicate _ (@Int.toNat ((1 : Int) + (@Int.fmod (@Int.fdiv i (33280 : Int)) (3 : Int)) : Int)) ([(@UInt8.ofNat (@Int.toNat (@Int.fmod (@Int.fdiv i (130 : Int)) (256 : Int))))] : List UInt8))))))
noncomputable def oC_16 (i : Int) : Bool := (@ltL (@lowerB ((@List.flatten _ (@List.replicate _ (@Int.toNat ((1 : Int) + (@Int.fmod (@Int.fdiv i (26 : Int)) (5 : Int)) : Int)) ([(@UInt8.ofNat (@Int.toNat ((97 : Int) + (@Int.fmod i (26 : Int)) : Int)))] : List UInt8))) ++ (@List.flatten _ (@List.replicate _ (@Int.toNat ((1 : Int) + (@Int.fmod (@Int.fdiv i (33280 : Int)) (3 : Int)) : Int)) ([(@UInt8.ofNat (@Int.toNat (@Int.fmod (@Int.fdiv i (130 : Int)) (256 : Int))))] : List UInt8))))) (@lowerB (@List.flatten _ (@List.replicate _ (@Int.toNat ((1 : Int) + (@Int.fmod (@Int.fdiv i (26 : Int)) (5 : Int)) : Int)) ([(@UInt8.ofNat (@Int.toNat ((97 : Int) + (@Int.fmod i (26 : Int)) : Int)))] : List UInt8)))))
noncomputable def oC_obs (i : Int) : List (Bool × Bool) := [(oC_0 i, true), (oC_1 i, true), (oC_2 i, true), (oC_3 i, false), (oC_4 i, true), (oC_5 i, false), (oC_6 i, false), (oC_7 i, false), (oC_8 i, true), (oC_9 i, true), (oC_10 i, true), (oC_11 i, true), (oC_12 i, false), (oC_13 i, false), (oC_14 i, false), (oC_4 i, true), (oC_11 i, true), (oC_15 i, true), (oC_11 i, true), (oC_4 i, true), (oC_16 i, false), (oC_15 i, true), (oC_4 i, true), (oC_11 i, true), (oC_15 i, true), (oC_11 i, true), (oC_4 i, true), (oC_16 i, false), (oC_15 i, true), (oC_4 i, true), (oC_11 i, true), (oC_15 i, true), (oC_4 i, true), (oC_11 i, true), (oC_15 i, true), (oC_11 i, true), (oC_4 i, true), (oC_16 i, false), (oC_15 i, true)]
theorem oC_run (i : Int) (l : List (Nat × List MV)) (loc : Loc) : outc ((fnsN (tl l) N0).1.ca (.gl 965) [MV.int i] ⟨[], loc, oC_orc⟩) = some (oC_val i, loc, oC_obs i) := by kernel_rfl
theorem oC_ok (i : Int) (hp : 64 < (i.fdiv 130).fmod 256) (hp2 : ¬ (i.fdiv 130).fmod 256 < 91) : AllOk (oC_obs i) := by
  have h1 := fm i 26 (by decide)
  have h2 := fm (i.fdiv 26) 5 (by decide)
  have h3 := fm (i.fdiv 130) 256 (by decide)
  have h4 := fm (i.fdiv 33280) 3 (by decide)
  have qoC_0 : oC_0 i = true := by unfold oC_0; simp only [List.all_cons, List.all_nil, Bool.and_true, decide_eq_true_eq, List.length_append, flat_len, List.length_cons, List.length_nil, Nat.zero_add, true_and]; omega
  have qoC_1 : oC_1 i = true := by unfold oC_1; simp only [List.all_cons, List.all_nil, Bool.and_true, decide_eq_true_eq, List.length_append, flat_len, List.length_cons, List.length_nil, Nat.zero_add, true_and]; omega
  have qoC_2 : oC_2 i = true := by unfold oC_2; simp only [List.all_cons, List.all_nil, Bool.and_true, decide_eq_true_eq, List.length_append, flat_len, List.length_cons, List.length_nil, Nat.zero_add, true_and]; omega
  have qoC_3 : oC_3 i = false := by unfold oC_3; simp only [decide_eq_false_iff_not, List.length_append, flat_len, List.length_cons, List.length_nil, Nat.zero_add, true_and]; omega
  have qoC_4 : oC_4 i = true := by unfold oC_4; simp only [List.all_cons, List.all_nil, Bool.and_true, decide_eq_true_eq, List.length_append, flat_len, List.length_cons, List.length_nil, Nat.zero_add, true_and]; omega
  have qoC_5 : oC_5 i = false := by unfold oC_5; simp only [decide_eq_false_iff_not, List.length_append, flat_len, List.length_cons, List.length_nil, Nat.zero_add, true_and]; omega
  have qoC_6 : oC_6 i = false := by unfold oC_6; exact u8_nil (by simp only [List.length_append, flat_len]; omega)
  have qoC_7 : oC_7 i = false := by unfold oC_7; simp only [decide_eq_false_iff_not, List.length_append, flat_len, List.length_cons, List.length_nil, Nat.zero_add, true_and]; omega
  have qoC_8 : oC_8 i = true := by unfold oC_8; simp only [List.all_cons, List.all_nil, Bool.and_true, decide_eq_true_eq, List.length_append, flat_len, List.length_cons, List.length_nil, Nat.zero_add, true_and]; omega
  have qoC_9 : oC_9 i = true := by unfold oC_9; simp only [List.all_cons, List.all_nil, Bool.and_true, decide_eq_true_eq, List.length_append, flat_len, List.length_cons, List.length_nil, Nat.zero_add, true_and]; omega
  have qoC_10 : oC_10 i = true := by unfold oC_10; simp only [List.all_cons, List.all_nil, Bool.and_true, decide_eq_true_eq, List.length_append, flat_len, List.length_cons, List.length_nil, Nat.zero_add, true_and]; omega
  have qoC_11 : oC_11 i = true := by unfold oC_11; simp only [List.all_cons, List.all_nil, Bool.and_true, decide_eq_true_eq, List.length_append, flat_len, List.length_cons, List.length_nil, Nat.zero_add, true_and]; omega
  have qoC_12 : oC_12 i = false := by unfold oC_12; simp only [decide_eq_false_iff_not, List.length_append, flat_len, List.length_cons, List.length_nil, Nat.zero_add, true_and]; omega
  have qoC_13 : oC_13 i = false := by unfold oC_13; exact u8_nil (by simp only [List.length_append, flat_len]; omega)
  have qoC_14 : oC_14 i = false := by unfold oC_14; simp only [decide_eq_false_iff_not, List.length_append, flat_len, List.length_cons, List.length_nil, Nat.zero_add, true_and]; omega
  have qoC_15 : oC_15 i = true := by unfold oC_15; exact lt_low _ _ (by rw [flat_len]; omega)
  have qoC_16 : oC_16 i = false := by unfold oC_16; exact not_lt_low _ _
  exact ⟨qoC_0, qoC_1, qoC_2, qoC_3, qoC_4, qoC_5, qoC_6, qoC_7, qoC_8, qoC_9, qoC_10, qoC_11, qoC_12, qoC_13, qoC_14, qoC_4, qoC_11, qoC_15, qoC_11, qoC_4, qoC_16, qoC_15, qoC_4, qoC_11, qoC_15, qoC_11, qoC_4, qoC_16, qoC_15, qoC_4, qoC_11, qoC_15, qoC_4, qoC_11, qoC_15, qoC_11, qoC_4, qoC_16, qoC_15, trivial⟩
theorem ord_says (l : List (Nat × List MV)) (i : Int) : Says (tl l) 965 [.int i] (.bool true) := by
  by_cases h1 : 64 < (i.fdiv 130).fmod 256
  · by_cases h2 : (i.fdiv 130).fmod 256 < 91
    · exact ⟨oB_orc, _, oB_ok i h1 h2, fun loc => oB_run i l loc⟩
    · exact ⟨oC_orc, _, oC_ok i h1 h2, fun loc => oC_run i l loc⟩
  · exact ⟨oA_orc, _, oA_ok i h1, fun loc => oA_run i l loc⟩
end Mine
end

section
set_option maxRecDepth 1000000
set_option maxHeartbeats 0
set_option linter.unusedVariables false
set_option linter.unusedSimpArgs false
open PySem PySem.W PySem.Calls PyProof.Rows
namespace Mine
theorem lt_irr (a : List UInt8) : ltL a a = false := by
  have := not_lt_app a []
  rw [List.append_nil] at this
  exact this
theorem lt_bang (k : Nat) (h : 1 ≤ k) : ltL [33] (lowerB (List.flatten (List.replicate k [111]))) = true := by
  obtain ⟨j, rfl⟩ : ∃ j, k = j + 1 := ⟨k - 1, by omega⟩
  rw [List.replicate_succ, List.flatten_cons]
  rfl
theorem u8_self (a : List UInt8) : u8sEq a a = true := u8sEq_iff.mpr rfl
noncomputable def nA_val (n : Int) (m : Int) : MV := (@MV.bool true)
noncomputable def nA_orc : List (Option Bool) := oc [0,1,0,0,1,2,0,0,0,0,1,2,0,2,0,0,0,0,2,0,0,0,0,0,0,1,2,0,2,0,0,0,0,2,0,0,0,0,0,0,0,0,0,0,0,0,0,0,0,0,0,0,0,0,0,0,0,0,0,0,0,0,0,0,0,0,0,0,0,0,0,0,0,0,0,0,0,0,1,0,0,0,1,2,2,0,0,0,0,0,0,0,0,0,0,0,0,0,0,0,0,0,0,0,0,0,0,0,0,0,0,0,0,0,0,0,0,0,0,0,0,0,0,0,0,1,0,0,0,1,2,2,0,0,0,0,0,0,0,0,0,0,0,0,0,0,0,2,0,1,0,2,0,0,0,0,0,0,0,0,0,0,0,0,0,0,0,0,0,0,0,0,0,0,0,0,0,0,0,0,0,0,0,0,0,0,0,0,0,0,0,0,0,0,1,0,0,0,1,2,2,0,0,0,0,0,0,0,0,0,0,0,0,0,0,0,0,0,0,0,0,0,0,0,0,0,0,0,0,0,0,0,0,0,0,0,0,0,0,0,0,1,0,0,0,1,2,2,0,0,0,0,0,0,0,0,0,0,0,2,0,0,0,0,0,0,0,0,0,0,0,0,0,0,0,0,0,0,0,0,0,0,0,0,0,0,0,0,0,0,0,0,0,0,0,0,0,0,0,0,0,0,0,0,0,0,0,0,0,0,0,0,0,0,0,0,0,0,0,0,0,0,1,1,0,0,0,0,0,0,0,0,0,0,0,1,2,0,2,0,0,0,0,2,0,0,0,0,0,0,0,0,0,0,0,0,0,0,0,0,0,0,0]
noncomputable def nA_0 (n : Int) (m : Int) : Bool := (decide (((1 : Nat) = (1 : Nat)) ∧ (((0 : Int) ≤ ((1 : Int) + (@Int.fmod m (63 : Int)) : Int)) ∧ (((1 : Int) + (@Int.fmod m (63 : Int)) : Int) ≤ (1048576 : Int)))))
noncomputable def nA_1 (n : Int) (m : Int) : Bool := ((((true && ((decide ((-(9223372036854775808 : Int) : Int) ≤ (@Int.fmod n (4 : Int)))) && (decide ((@Int.fmod n (4 : Int)) < (9223372036854775808 : Int))))) && true) && ((decide ((-(9223372036854775808 : Int) : Int) ≤ (@ite _ ((0 : Int) < (1 : Int)) _ (@ite _ ((0 : Int) < (@Int.fmod n (4 : Int))) _ (((((@Int.fmod n (4 : Int)) - (0 : Int) : Int) - (1 : Int) : Int) / (1 : Int) : Int) + (1 : Int) : Int) (0 : Int)) (@ite _ ((@Int.fmod n (4 : Int)) < (0 : Int)) _ (((((0 : Int) - (@Int.fmod n (4 : Int)) : Int) - (1 : Int) : Int) / (-(1 : Int) : Int) : Int) + (1 : Int) : Int) (0 : Int))))) && (decide ((@ite _ ((0 : Int) < (1 : Int)) _ (@ite _ ((0 : Int) < (@Int.fmod n (4 : Int))) _ (((((@Int.fmod n (4 : Int)) - (0 : Int) : Int) - (1 : Int) : Int) / (1 : Int) : Int) + (1 : Int) : Int) (0 : Int)) (@ite _ ((@Int.fmod n (4 : Int)) < (0 : Int)) _ (((((0 : Int) - (@Int.fmod n (4 : Int)) : Int) - (1 : Int) : Int) / (-(1 : Int) : Int) : Int) + (1 : Int) : Int) (0 : Int))) < (9223372036854775808 : Int))))) && ((decide ((@ite _ ((0 : Int) < (1 : Int)) _ (@ite _ ((0 : Int) < (@Int.fmod n (4 : Int))) _ (((((@Int.fmod n (4 : Int)) - (0 : Int) : Int) - (1 : Int) : Int) / (1 : Int) : Int) + (1 : Int) : Int) (0 : Int)) (@ite _ ((@Int.fmod n (4 : Int)) < (0 : Int)) _ (((((0 : Int) - (@Int.fmod n (4 : Int)) : Int) - (1 : Int) : Int) / (-(1 : Int) : Int) : Int) + (1 : Int) : Int) (0 : Int))) = (0 : Int))) || (@ite _ ((0 : Int) < (1 : Int)) _ ((decide ((-(9223372036854775808 : Int) : Int) ≤ ((@Int.fmod n (4 : Int)) + (0 : Int) : Int))) && (decide (((@Int.fmod n (4 : Int)) + (0 : Int) : Int) < (9223372036854775808 : Int)))) ((decide ((-(9223372036854775808 : Int) : Int) ≤ ((@Int.fmod n (4 : Int)) + (2 : Int) : Int))) && (decide (((@Int.fmod n (4 : Int)) + (2 : Int) : Int) < (9223372036854775808 : Int)))))))
noncomputable def nA_2 (n : Int) (m : Int) : Bool := (decide ((0 : Int) < (@ite _ ((0 : Int) < (1 : Int)) _ (@ite _ ((0 : Int) < (@Int.fmod n (4 : Int))) _ (((((@Int.fmod n (4 : Int)) - (0 : Int) : Int) - (1 : Int) : Int) / (1 : Int) : Int) + (1 : Int) : Int) (0 : Int)) (@ite _ ((@Int.fmod n (4 : Int)) < (0 : Int)) _ (((((0 : Int) - (@Int.fmod n (4 : Int)) : Int) - (1 : Int) : Int) / (-(1 : Int) : Int) : Int) + (1 : Int) : Int) (0 : Int)))))
noncomputable def nA_3 (n : Int) (m : Int) : Bool := (decide ((@List.length _ (@List.flatten _ (@List.replicate _ (@Int.toNat ((1 : Int) + (@Int.fmod m (63 : Int)) : Int)) ([(111 : UInt8)] : List UInt8)))) ≤ (16777216 : Nat)))
noncomputable def nA_4 (n : Int) (m : Int) : Bool := (decide ((63 : Int) < (((@List.length _ (@List.flatten _ (@List.replicate _ (@Int.toNat ((1 : Int) + (@Int.fmod m (63 : Int)) : Int)) ([(111 : UInt8)] : List UInt8)))) : Nat) : Int)))
noncomputable def nA_5 (n : Int) (m : Int) : Bool := (@u8sEq (@List.flatten _ (@List.replicate _ (@Int.toNat ((1 : Int) + (@Int.fmod m (63 : Int)) : Int)) ([(111 : UInt8)] : List UInt8))) ([] : List UInt8))
noncomputable def nA_6 (n : Int) (m : Int) : Bool := (decide ((255 : Int) < (((0 : Int) + ((((@List.length _ (@List.flatten _ (@List.replicate _ (@Int.toNat ((1 : Int) + (@Int.fmod m (63 : Int)) : Int)) ([(111 : UInt8)] : List UInt8)))) : Nat) : Int) + (1 : Int) : Int) : Int) + (1 : Int) : Int)))
noncomputable def nA_7 (n : Int) (m : Int) : Bool := (@ltL (@lowerB (@List.flatten _ (@List.replicate _ (@Int.toNat ((1 : Int) + (@Int.fmod m (63 : Int)) : Int)) ([(111 : UInt8)] : List UInt8)))) (@lowerB (@List.flatten _ (@List.replicate _ (@Int.toNat ((1 : Int) + (@Int.fmod m (63 : Int)) : Int)) ([(111 : UInt8)] : List UInt8)))))
noncomputable def nA_8 (n : Int) (m : Int) : Bool := (!((@u8sEq (@List.flatten _ (@List.replicate _ (@Int.toNat ((1 : Int) + (@Int.fmod m (63 : Int)) : Int)) ([(111 : UInt8)] : List UInt8))) (@List.flatten _ (@List.replicate _ (@Int.toNat ((1 : Int) + (@Int.fmod m (63 : Int)) : Int)) ([(111 : UInt8)] : List UInt8)))) && true))
noncomputable def nA_9 (n : Int) (m : Int) : Bool := ((@u8sEq (@List.flatten _ (@List.replicate _ (@Int.toNat ((1 : Int) + (@Int.fmod m (63 : Int)) : Int)) ([(111 : UInt8)] : List UInt8))) (@List.flatten _ (@List.replicate _ (@Int.toNat ((1 : Int) + (@Int.fmod m (63 : Int)) : Int)) ([(111 : UInt8)] : List UInt8)))) && true)
noncomputable def nA_10 (n : Int) (m : Int) : Bool := (@ltL ([(33 : UInt8)] : List UInt8) (@lowerB (@List.flatten _ (@List.replicate _ (@Int.toNat ((1 : Int) + (@Int.fmod m (63 : Int)) : Int)) ([(111 : UInt8)] : List UInt8)))))
noncomputable def nA_obs (n : Int) (m : Int) : List (Bool × Bool) := [(nA_0 n m, true), (nA_1 n m, true), (nA_2 n m, false), (nA_3 n m, true), (nA_4 n m, false), (nA_5 n m, false), (nA_6 n m, false), (nA_3 n m, true), (nA_4 n m, false), (nA_5 n m, false), (nA_6 n m, false), (nA_3 n m, true), (nA_3 n m, true), (nA_7 n m, false), (nA_7 n m, false), (nA_3 n m, true), (nA_3 n m, true), (nA_7 n m, false), (nA_7 n m, false), (nA_8 n m, false), (nA_9 n m, true), (nA_8 n m, false), (nA_3 n m, true), (nA_3 n m, true), (nA_7 n m, false), (nA_7 n m, false), (nA_3 n m, true), (nA_3 n m, true), (nA_7 n m, false), (nA_7 n m, false), (nA_8 n m, false), (nA_3 n m, true), (nA_10 n m, true), (nA_3 n m, true), (nA_4 n m, false), (nA_5 n m, false), (nA_6 n m, false)]
theorem nA_run (n : Int) (m : Int) (l : List (Nat × List MV)) (loc : Loc) : outc ((fnsN (tl l) N0).1.ca (.gl 979) [MV.int n, MV.int m] ⟨[], loc, nA_orc⟩) = some (nA_val n m, loc, nA_obs n m) := by kernel_rfl
theorem nA_ok (n m : Int) (hv : n.fmod 4 = 0) : AllOk (nA_obs n m) := by
  have f0 := fm m 63 (by decide)
  have f1 := fm n 4 (by decide)
  have qnA_0 : nA_0 n m = true := by unfold nA_0; simp only [List.all_cons, List.all_nil, Bool.and_true, decide_eq_true_eq, List.length_append, flat_len, List.length_cons, List.length_nil, Nat.zero_add, true_and]; omega
  have qnA_1 : nA_1 n m = true := by unfold nA_1; rw [hv]; decide
  have qnA_2 : nA_2 n m = false := by unfold nA_2; rw [hv]; decide
  have qnA_3 : nA_3 n m = true := by unfold nA_3; simp only [List.all_cons, List.all_nil, Bool.and_true, decide_eq_true_eq, List.length_append, flat_len, List.length_cons, List.length_nil, Nat.zero_add, true_and]; omega
  have qnA_4 : nA_4 n m = false := by unfold nA_4; simp only [decide_eq_false_iff_not, List.length_append, flat_len, List.length_cons, List.length_nil]; omega
  have qnA_5 : nA_5 n m = false := by unfold nA_5; exact u8_nil (by simp only [List.length_append, flat_len, List.length_cons, List.length_nil]; omega)
  have qnA_6 : nA_6 n m = false := by unfold nA_6; simp only [decide_eq_false_iff_not, List.length_append, flat_len, List.length_cons, List.length_nil]; omega
  have qnA_7 : nA_7 n m = false := by unfold nA_7; exact lt_irr _
  have qnA_8 : nA_8 n m = false := by unfold nA_8; rw [u8_self]; rfl
  have qnA_9 : nA_9 n m = true := by unfold nA_9; rw [u8_self]; rfl
  have qnA_10 : nA_10 n m = true := by unfold nA_10; exact lt_bang _ (by omega)
  exact ⟨qnA_0, qnA_1, qnA_2, qnA_3, qnA_4, qnA_5, qnA_6, qnA_3, qnA_4, qnA_5, qnA_6, qnA_3, qnA_3, qnA_7, qnA_7, qnA_3, qnA_3, qnA_7, qnA_7, qnA_8, qnA_9, qnA_8, qnA_3, qnA_3, qnA_7, qnA_7, qnA_3, qnA_3, qnA_7, qnA_7, qnA_8, qnA_3, qnA_10, qnA_3, qnA_4, qnA_5, qnA_6, trivial⟩
noncomputable def nB_val (n : Int) (m : Int) : MV := (@MV.bool true)
noncomputable def nB_orc : List (Option Bool) := oc [0,1,0,0,1,1,0,0,0,1,0,0,0,1,0,0,2,0,0,0,0,1,2,0,2,0,0,0,0,2,0,0,0,0,0,0,1,2,0,2,1,2,0,2,0,0,0,0,2,0,0,0,0,0,0,0,0,0,0,0,0,0,0,0,0,0,0,0,0,0,0,0,0,0,0,0,0,0,0,0,0,0,0,0,0,0,0,0,0,0,0,0,0,1,0,0,0,1,2,2,0,0,0,0,0,0,0,0,0,0,0,0,0,0,0,0,0,0,0,0,0,0,0,0,0,0,0,0,0,0,0,0,0,0,0,0,0,0,0,1,0,0,0,1,2,2,0,0,0,0,0,0,0,0,0,0,0,1,1,1,0,0,0,0,0,0,0,0,1,2,0,2,1,2,0,2,0,0,0,0,2,0,0,0,0,0,0,0,0,0,2,0,2,0,0,0,0,0,0,0,0,0,0,0,0,0,0,0,0,0,0,0,0,0,0,0,0,0,0,0,0,0,0,0,0,0,0,0,0,0,0,0,0,0,0,1,0,0,0,1,2,2,0,0,0,0,0,0,0,0,0,0,0,0,0,0,0,0,0,0,0,0,0,0,0,0,0,0,0,0,0,0,0,0,0,0,0,0,0,0,0,0,1,0,0,0,1,2,2,0,0,0,0,0,0,0,0,0,0,0,2,0,0,0,0,0,0,0,0,0,0,0,0,0,0,0,0,0,0,0,0,0,0,0,0,0,0,0,0,0,0,0,0,0,0,0,0,0,0,0,0,0,0,0,0,0,0,0,0,0,0,0,0,0,0,0,0,0,0,0,0,0,0,1,1,0,0,0,0,0,0,0,0,0,0,0,1,2,0,2,1,2,0,2,0,0,0,0,2,0,0,0,0,0,0,0,0,0,0,0,0,0,0,0,0,0,0,0]
noncomputable def nB_0 (n : Int) (m : Int) : Bool := (decide (((1 : Nat) = (1 : Nat)) ∧ (((0 : Int) ≤ ((1 : Int) + (@Int.fmod m (63 : Int)) : Int)) ∧ (((1 : Int) + (@Int.fmod m (63 : Int)) : Int) ≤ (1048576 : Int)))))
noncomputable def nB_1 (n : Int) (m : Int) : Bool := ((((true && ((decide ((-(9223372036854775808 : Int) : Int) ≤ (@Int.fmod n (4 : Int)))) && (decide ((@Int.fmod n (4 : Int)) < (9223372036854775808 : Int))))) && true) && ((decide ((-(9223372036854775808 : Int) : Int) ≤ (@ite _ ((0 : Int) < (1 : Int)) _ (@ite _ ((0 : Int) < (@Int.fmod n (4 : Int))) _ (((((@Int.fmod n (4 : Int)) - (0 : Int) : Int) - (1 : Int) : Int) / (1 : Int) : Int) + (1 : Int) : Int) (0 : Int)) (@ite _ ((@Int.fmod n (4 : Int)) < (0 : Int)) _ (((((0 : Int) - (@Int.fmod n (4 : Int)) : Int) - (1 : Int) : Int) / (-(1 : Int) : Int) : Int) + (1 : Int) : Int) (0 : Int))))) && (decide ((@ite _ ((0 : Int) < (1 : Int)) _ (@ite _ ((0 : Int) < (@Int.fmod n (4 : Int))) _ (((((@Int.fmod n (4 : Int)) - (0 : Int) : Int) - (1 : Int) : Int) / (1 : Int) : Int) + (1 : Int) : Int) (0 : Int)) (@ite _ ((@Int.fmod n (4 : Int)) < (0 : Int)) _ (((((0 : Int) - (@Int.fmod n (4 : Int)) : Int) - (1 : Int) : Int) / (-(1 : Int) : Int) : Int) + (1 : Int) : Int) (0 : Int))) < (9223372036854775808 : Int))))) && ((decide ((@ite _ ((0 : Int) < (1 : Int)) _ (@ite _ ((0 : Int) < (@Int.fmod n (4 : Int))) _ (((((@Int.fmod n (4 : Int)) - (0 : Int) : Int) - (1 : Int) : Int) / (1 : Int) : Int) + (1 : Int) : Int) (0 : Int)) (@ite _ ((@Int.fmod n (4 : Int)) < (0 : Int)) _ (((((0 : Int) - (@Int.fmod n (4 : Int)) : Int) - (1 : Int) : Int) / (-(1 : Int) : Int) : Int) + (1 : Int) : Int) (0 : Int))) = (0 : Int))) || (@ite _ ((0 : Int) < (1 : Int)) _ ((decide ((-(9223372036854775808 : Int) : Int) ≤ ((@Int.fmod n (4 : Int)) + (0 : Int) : Int))) && (decide (((@Int.fmod n (4 : Int)) + (0 : Int) : Int) < (9223372036854775808 : Int)))) ((decide ((-(9223372036854775808 : Int) : Int) ≤ ((@Int.fmod n (4 : Int)) + (2 : Int) : Int))) && (decide (((@Int.fmod n (4 : Int)) + (2 : Int) : Int) < (9223372036854775808 : Int)))))))
noncomputable def nB_2 (n : Int) (m : Int) : Bool := (decide ((0 : Int) < (@ite _ ((0 : Int) < (1 : Int)) _ (@ite _ ((0 : Int) < (@Int.fmod n (4 : Int))) _ (((((@Int.fmod n (4 : Int)) - (0 : Int) : Int) - (1 : Int) : Int) / (1 : Int) : Int) + (1 : Int) : Int) (0 : Int)) (@ite _ ((@Int.fmod n (4 : Int)) < (0 : Int)) _ (((((0 : Int) - (@Int.fmod n (4 : Int)) : Int) - (1 : Int) : Int) / (-(1 : Int) : Int) : Int) + (1 : Int) : Int) (0 : Int)))))
noncomputable def nB_3 (n : Int) (m : Int) : Bool := (@List.all _ ([((97 : Int) + (@Int.fmod (@Int.fdiv n (4 : Int)) (26 : Int)) : Int)] : List Int) (fun (i : Int) => (decide (((0 : Int) ≤ i) ∧ (i < (256 : Int))))))
noncomputable def nB_4 (n : Int) (m : Int) : Bool := (decide (((@List.length _ ([(@UInt8.ofNat (@Int.toNat ((97 : Int) + (@Int.fmod (@Int.fdiv n (4 : Int)) (26 : Int)) : Int)))] : List UInt8)) = (1 : Nat)) ∧ (((0 : Int) ≤ ((1 : Int) + (@Int.fmod (@Int.fdiv (@Int.fdiv n (4 : Int)) (26 : Int)) (40 : Int)) : Int)) ∧ (((1 : Int) + (@Int.fmod (@Int.fdiv (@Int.fdiv n (4 : Int)) (26 : Int)) (40 : Int)) : Int) ≤ (1048576 : Int)))))
noncomputable def nB_5 (n : Int) (m : Int) : Bool := (decide ((0 : Int) < ((@ite _ ((0 : Int) < (1 : Int)) _ (@ite _ ((0 : Int) < (@Int.fmod n (4 : Int))) _ (((((@Int.fmod n (4 : Int)) - (0 : Int) : Int) - (1 : Int) : Int) / (1 : Int) : Int) + (1 : Int) : Int) (0 : Int)) (@ite _ ((@Int.fmod n (4 : Int)) < (0 : Int)) _ (((((0 : Int) - (@Int.fmod n (4 : Int)) : Int) - (1 : Int) : Int) / (-(1 : Int) : Int) : Int) + (1 : Int) : Int) (0 : Int))) - (1 : Int) : Int)))
noncomputable def nB_6 (n : Int) (m : Int) : Bool := (decide ((@List.length _ (@List.flatten _ (@List.replicate _ (@Int.toNat ((1 : Int) + (@Int.fmod m (63 : Int)) : Int)) ([(111 : UInt8)] : List UInt8)))) ≤ (16777216 : Nat)))
noncomputable def nB_7 (n : Int) (m : Int) : Bool := (decide ((63 : Int) < (((@List.length _ (@List.flatten _ (@List.replicate _ (@Int.toNat ((1 : Int) + (@Int.fmod m (63 : Int)) : Int)) ([(111 : UInt8)] : List UInt8)))) : Nat) : Int)))
noncomputable def nB_8 (n : Int) (m : Int) : Bool := (@u8sEq (@List.flatten _ (@List.replicate _ (@Int.toNat ((1 : Int) + (@Int.fmod m (63 : Int)) : Int)) ([(111 : UInt8)] : List UInt8))) ([] : List UInt8))
noncomputable def nB_9 (n : Int) (m : Int) : Bool := (decide ((255 : Int) < (((0 : Int) + ((((@List.length _ (@List.flatten _ (@List.replicate _ (@Int.toNat ((1 : Int) + (@Int.fmod m (63 : Int)) : Int)) ([(111 : UInt8)] : List UInt8)))) : Nat) : Int) + (1 : Int) : Int) : Int) + (1 : Int) : Int)))
noncomputable def nB_10 (n : Int) (m : Int) : Bool := (decide ((@List.length _ (@List.flatten _ (@List.replicate _ (@Int.toNat ((1 : Int) + (@Int.fmod (@Int.fdiv (@Int.fdiv n (4 : Int)) (26 : Int)) (40 : Int)) : Int)) ([(@UInt8.ofNat (@Int.toNat ((97 : Int) + (@Int.fmod (@Int.fdiv n (4 : Int)) (26 : Int)) : Int)))] : List UInt8)))) ≤ (16777216 : Nat)))
noncomputable def nB_11 (n : Int) (m : Int) : Bool := (decide ((63 : Int) < (((@List.length _ (@List.flatten _ (@List.replicate _ (@Int.toNat ((1 : Int) + (@Int.fmod (@Int.fdiv (@Int.fdiv n (4 : Int)) (26 : Int)) (40 : Int)) : Int)) ([(@UInt8.ofNat (@Int.toNat ((97 : Int) + (@Int.fmod (@Int.fdiv n (4 : Int)) (26 : Int)) : Int)))] : List UInt8)))) : Nat) : Int)))
noncomputable def nB_12 (n : Int) (m : Int) : Bool := (@u8sEq (@List.flatten _ (@List.replicate _ (@Int.toNat ((1 : Int) + (@Int.fmod (@Int.fdiv (@Int.fdiv n (4 : Int)) (26 : Int)) (40 : Int)) : Int)) ([(@UInt8.ofNat (@Int.toNat ((97 : Int) + (@Int.fmod (@Int.fdiv n (4 : Int)) (26 : Int)) : Int)))] : List UInt8))) ([] : List UInt8))
noncomputable def nB_13 (n : Int) (m : Int) : Bool := (decide ((255 : Int) < ((((0 : Int) + ((((@List.length _ (@List.flatten _ (@List.replicate _ (@Int.toNat ((1 : Int) + (@Int.fmod (@Int.fdiv (@Int.fdiv n (4 : Int)) (26 : Int)) (40 : Int)) : Int)) ([(@UInt8.ofNat (@Int.toNat ((97 : Int) + (@Int.fmod (@Int.fdiv n (4 : Int)) (26 : Int)) : Int)))] : List UInt8)))) : Nat) : Int) + (1 : Int) : Int) : Int) + ((((@List.length _ (@List.flatten _ (@List.replicate _ (@Int.toNat ((1 : Int) + (@Int.fmod m (63 : Int)) : Int)) ([(111 : UInt8)] : List UInt8)))) : Nat) : Int) + (1 : Int) : Int) : Int) + (1 : Int) : Int)))
noncomputable def nB_14 (n : Int) (m : Int) : Bool := (@ltL (@lowerB (@List.flatten _ (@List.replicate _ (@Int.toNat ((1 : Int) + (@Int.fmod m (63 : Int)) : Int)) ([(111 : UInt8)] : List UInt8)))) (@lowerB (@List.flatten _ (@List.replicate _ (@Int.toNat ((1 : Int) + (@Int.fmod m (63 : Int)) : Int)) ([(111 : UInt8)] : List UInt8)))))
noncomputable def nB_15 (n : Int) (m : Int) : Bool := (decide ((((@List.length _ (@List.flatten _ (@List.replicate _ (@Int.toNat ((1 : Int) + (@Int.fmod (@Int.fdiv (@Int.fdiv n (4 : Int)) (26 : Int)) (40 : Int)) : Int)) ([(@UInt8.ofNat (@Int.toNat ((97 : Int) + (@Int.fmod (@Int.fdiv n (4 : Int)) (26 : Int)) : Int)))] : List UInt8)))) : Nat) : Int) < (63 : Int)))
noncomputable def nB_16 (n : Int) (m : Int) : Bool := (decide (((@List.length _ (@List.flatten _ (@List.replicate _ (@Int.toNat ((1 : Int) + (@Int.fmod (@Int.fdiv (@Int.fdiv n (4 : Int)) (26 : Int)) (40 : Int)) : Int)) ([(@UInt8.ofNat (@Int.toNat ((97 : Int) + (@Int.fmod (@Int.fdiv n (4 : Int)) (26 : Int)) : Int)))] : List UInt8)))) + (1 : Nat) : Nat) ≤ (16777216 : Nat)))
noncomputable def nB_17 (n : Int) (m : Int) : Bool := (decide ((@List.length _ ((@List.flatten _ (@List.replicate _ (@Int.toNat ((1 : Int) + (@Int.fmod (@Int.fdiv (@Int.fdiv n (4 : Int)) (26 : Int)) (40 : Int)) : Int)) ([(@UInt8.ofNat (@Int.toNat ((97 : Int) + (@Int.fmod (@Int.fdiv n (4 : Int)) (26 : Int)) : Int)))] : List UInt8))) ++ ([(0 : UInt8)] : List UInt8))) ≤ (16777216 : Nat)))
noncomputable def nB_18 (n : Int) (m : Int) : Bool := (decide ((63 : Int) < (((@List.length _ ((@List.flatten _ (@List.replicate _ (@Int.toNat ((1 : Int) + (@Int.fmod (@Int.fdiv (@Int.fdiv n (4 : Int)) (26 : Int)) (40 : Int)) : Int)) ([(@UInt8.ofNat (@Int.toNat ((97 : Int) + (@Int.fmod (@Int.fdiv n (4 : Int)) (26 : Int)) : Int)))] : List UInt8))) ++ ([(0 : UInt8)] : List UInt8))) : Nat) : Int)))
noncomputable def nB_19 (n : Int) (m : Int) : Bool := (@u8sEq ((@List.flatten _ (@List.replicate _ (@Int.toNat ((1 : Int) + (@Int.fmod (@Int.fdiv (@Int.fdiv n (4 : Int)) (26 : Int)) (40 : Int)) : Int)) ([(@UInt8.ofNat (@Int.toNat ((97 : Int) + (@Int.fmod (@Int.fdiv n (4 : Int)) (26 : Int)) : Int)))] : List UInt8))) ++ ([(0 : UInt8)] : List UInt8)) ([] : List UInt8))
noncomputable def nB_20 (n : Int) (m : Int) : Bool := (decide ((255 : Int) < ((((0 : Int) + ((((@List.length _ ((@List.flatten _ (@List.replicate _ (@Int.toNat ((1 : Int) + (@Int.fmod (@Int.fdiv (@Int.fdiv n (4 : Int)) (26 : Int)) (40 : Int)) : Int)) ([(@UInt8.ofNat (@Int.toNat ((97 : Int) + (@Int.fmod (@Int.fdiv n (4 : Int)) (26 : Int)) : Int)))] : List UInt8))) ++ ([(0 : UInt8)] : List UInt8))) : Nat) : Int) + (1 : Int) : Int) : Int) + ((((@List.length _ (@List.flatten _ (@List.replicate _ (@Int.toNat ((1 : Int) + (@Int.fmod m (63 : Int)) : Int)) ([(111 : UInt8)] : List UInt8)))) : Nat) : Int) + (1 : Int) : Int) : Int) + (1 : Int) : Int)))
noncomputable def nB_21 (n : Int) (m : Int) : Bool := (!((@u8sEq (@List.flatten _ (@List.replicate _ (@Int.toNat ((1 : Int) + (@Int.fmod m (63 : Int)) : Int)) ([(111 : UInt8)] : List UInt8))) (@List.flatten _ (@List.replicate _ (@Int.toNat ((1 : Int) + (@Int.fmod m (63 : Int)) : Int)) ([(111 : UInt8)] : List UInt8)))) && true))
noncomputable def nB_22 (n : Int) (m : Int) : Bool := ((@u8sEq (@List.flatten _ (@List.replicate _ (@Int.toNat ((1 : Int) + (@Int.fmod (@Int.fdiv (@Int.fdiv n (4 : Int)) (26 : Int)) (40 : Int)) : Int)) ([(@UInt8.ofNat (@Int.toNat ((97 : Int) + (@Int.fmod (@Int.fdiv n (4 : Int)) (26 : Int)) : Int)))] : List UInt8))) (@List.flatten _ (@List.replicate _ (@Int.toNat ((1 : Int) + (@Int.fmod m (63 : Int)) : Int)) ([(111 : UInt8)] : List UInt8)))) && ((@u8sEq (@List.flatten _ (@List.replicate _ (@Int.toNat ((1 : Int) + (@Int.fmod m (63 : Int)) : Int)) ([(111 : UInt8)] : List UInt8))) ([] : List UInt8)) && false))
noncomputable def nB_23 (n : Int) (m : Int) : Bool := (@ltL ([(33 : UInt8)] : List UInt8) (@lowerB (@List.flatten _ (@List.replicate _ (@Int.toNat ((1 : Int) + (@Int.fmod m (63 : Int)) : Int)) ([(111 : UInt8)] : List UInt8)))))
noncomputable def nB_obs (n : Int) (m : Int) : List (Bool × Bool) := [(nB_0 n m, true), (nB_1 n m, true), (nB_2 n m, true), (nB_3 n m, true), (nB_4 n m, true), (nB_5 n m, false), (nB_6 n m, true), (nB_7 n m, false), (nB_8 n m, false), (nB_9 n m, false), (nB_10 n m, true), (nB_11 n m, false), (nB_12 n m, false), (nB_6 n m, true), (nB_7 n m, false), (nB_8 n m, false), (nB_13 n m, false), (nB_6 n m, true), (nB_6 n m, true), (nB_14 n m, false), (nB_14 n m, false), (nB_6 n m, true), (nB_6 n m, true), (nB_14 n m, false), (nB_14 n m, false), (nB_10 n m, true), (nB_15 n m, true), (nB_16 n m, true), (nB_17 n m, true), (nB_18 n m, false), (nB_19 n m, false), (nB_6 n m, true), (nB_7 n m, false), (nB_8 n m, false), (nB_20 n m, false), (nB_21 n m, false), (nB_22 n m, false), (nB_6 n m, true), (nB_6 n m, true), (nB_14 n m, false), (nB_14 n m, false), (nB_6 n m, true), (nB_6 n m, true), (nB_14 n m, false), (nB_14 n m, false), (nB_21 n m, false), (nB_6 n m, true), (nB_23 n m, true), (nB_10 n m, true), (nB_11 n m, false), (nB_12 n m, false), (nB_6 n m, true), (nB_7 n m, false), (nB_8 n m, false), (nB_13 n m, false)]
theorem nB_run (n : Int) (m : Int) (l : List (Nat × List MV)) (loc : Loc) : outc ((fnsN (tl l) N0).1.ca (.gl 979) [MV.int n, MV.int m] ⟨[], loc, nB_orc⟩) = some (nB_val n m, loc, nB_obs n m) := by kernel_rfl
theorem nB_ok (n m : Int) (hv : n.fmod 4 = 1) : AllOk (nB_obs n m) := by
  have f0 := fm (@Int.fdiv (@Int.fdiv n (4 : Int)) (26 : Int)) 40 (by decide)
  have f1 := fm (@Int.fdiv n (4 : Int)) 26 (by decide)
  have f2 := fm m 63 (by decide)
  have f3 := fm n 4 (by decide)
  have qnB_0 : nB_0 n m = true := by unfold nB_0; simp only [List.all_cons, List.all_nil, Bool.and_true, decide_eq_true_eq, List.length_append, flat_len, List.length_cons, List.length_nil, Nat.zero_add, true_and]; omega
  have qnB_1 : nB_1 n m = true := by unfold nB_1; rw [hv]; decide
  have qnB_2 : nB_2 n m = true := by unfold nB_2; rw [hv]; decide
  have qnB_3 : nB_3 n m = true := by unfold nB_3; simp only [List.all_cons, List.all_nil, Bool.and_true, decide_eq_true_eq, List.length_append, flat_len, List.length_cons, List.length_nil, Nat.zero_add, true_and]; omega
  have qnB_4 : nB_4 n m = true := by unfold nB_4; simp only [List.all_cons, List.all_nil, Bool.and_true, decide_eq_true_eq, List.length_append, flat_len, List.length_cons, List.length_nil, Nat.zero_add, true_and]; omega
  have qnB_5 : nB_5 n m = false := by unfold nB_5; rw [hv]; decide
  have qnB_6 : nB_6 n m = true := by unfold nB_6; simp only [List.all_cons, List.all_nil, Bool.and_true, decide_eq_true_eq, List.length_append, flat_len, List.length_cons, List.length_nil, Nat.zero_add, true_and]; omega
  have qnB_7 : nB_7 n m = false := by unfold nB_7; simp only [decide_eq_false_iff_not, List.length_append, flat_len, List.length_cons, List.length_nil]; omega
  have qnB_8 : nB_8 n m = false := by unfold nB_8; exact u8_nil (by simp only [List.length_append, flat_len, List.length_cons, List.length_nil]; omega)
  have qnB_9 : nB_9 n m = false := by unfold nB_9; simp only [decide_eq_false_iff_not, List.length_append, flat_len, List.length_cons, List.length_nil]; omega
  have qnB_10 : nB_10 n m = true := by unfold nB_10; simp only [List.all_cons, List.all_nil, Bool.and_true, decide_eq_true_eq, List.length_append, flat_len, List.length_cons, List.length_nil, Nat.zero_add, true_and]; omega
  have qnB_11 : nB_11 n m = false := by unfold nB_11; simp only [decide_eq_false_iff_not, List.length_append, flat_len, List.length_cons, List.length_nil]; omega
  have qnB_12 : nB_12 n m = false := by unfold nB_12; exact u8_nil (by simp only [List.length_append, flat_len, List.length_cons, List.length_nil]; omega)
  have qnB_13 : nB_13 n m = false := by unfold nB_13; simp only [decide_eq_false_iff_not, List.length_append, flat_len, List.length_cons, List.length_nil]; omega
  have qnB_14 : nB_14 n m = false := by unfold nB_14; exact lt_irr _
  have qnB_15 : nB_15 n m = true := by unfold nB_15; simp only [List.all_cons, List.all_nil, Bool.and_true, decide_eq_true_eq, List.length_append, flat_len, List.length_cons, List.length_nil, Nat.zero_add, true_and]; omega
  have qnB_16 : nB_16 n m = true := by unfold nB_16; simp only [List.all_cons, List.all_nil, Bool.and_true, decide_eq_true_eq, List.length_append, flat_len, List.length_cons, List.length_nil, Nat.zero_add, true_and]; omega
  have qnB_17 : nB_17 n m = true := by unfold nB_17; simp only [List.all_cons, List.all_nil, Bool.and_true, decide_eq_true_eq, List.length_append, flat_len, List.length_cons, List.length_nil, Nat.zero_add, true_and]; omega
  have qnB_18 : nB_18 n m = false := by unfold nB_18; simp only [decide_eq_false_iff_not, List.length_append, flat_len, List.length_cons, List.length_nil]; omega
  have qnB_19 : nB_19 n m = false := by unfold nB_19; exact u8_nil (by simp only [List.length_append, flat_len, List.length_cons, List.length_nil]; omega)
  have qnB_20 : nB_20 n m = false := by unfold nB_20; simp only [decide_eq_false_iff_not, List.length_append, flat_len, List.length_cons, List.length_nil]; omega
  have qnB_21 : nB_21 n m = false := by unfold nB_21; rw [u8_self]; rfl
  have qnB_22 : nB_22 n m = false := by unfold nB_22; simp only [Bool.and_false]
  have qnB_23 : nB_23 n m = true := by unfold nB_23; exact lt_bang _ (by omega)
  exact ⟨qnB_0, qnB_1, qnB_2, qnB_3, qnB_4, qnB_5, qnB_6, qnB_7, qnB_8, qnB_9, qnB_10, qnB_11, qnB_12, qnB_6, qnB_7, qnB_8, qnB_13, qnB_6, qnB_6, qnB_14, qnB_14, qnB_6, qnB_6, qnB_14, qnB_14, qnB_10, qnB_15, qnB_16, qnB_17, qnB_18, qnB_19, qnB_6, qnB_7, qnB_8, qnB_20, qnB_21, qnB_22, qnB_6, qnB_6, qnB_14, qnB_14, qnB_6, qnB_6, qnB_14, qnB_14, qnB_21, qnB_6, qnB_23, qnB_10, qnB_11, qnB_12, qnB_6, qnB_7, qnB_8, qnB_13, trivial⟩
noncomputable def nC_val (n : Int) (m : Int) : MV := (@MV.bool true)
noncomputable def nC_orc : List (Option Bool) := oc [0,1,0,0,1,1,0,0,0,1,0,0,0,1,0,0,1,0,0,0,1,0,0,0,1,0,0,2,0,0,0,0,1,2,0,2,0,0,0,0,2,0,0,0,0,0,0,1,2,0,2,1,2,0,2,1,2,0,2,0,0,0,0,2,0,0,0,0,0,0,0,0,0,0,0,0,0,0,0,0,0,0,0,0,0,0,0,0,0,0,0,0,0,0,0,0,0,0,0,0,0,0,0,0,0,0,0,0,1,0,0,0,1,2,2,0,0,0,0,0,0,0,0,0,0,0,0,0,0,0,0,0,0,0,0,0,0,0,0,0,0,0,0,0,0,0,0,0,0,0,0,0,0,0,1,0,0,0,1,2,2,0,0,0,0,0,0,0,0,0,0,0,1,1,1,0,0,0,0,0,0,0,0,1,2,0,2,1,2,0,2,1,2,0,2,0,0,0,0,2,0,0,0,0,0,0,0,0,0,2,0,2,0,0,0,0,0,0,0,0,0,0,0,0,0,0,0,0,0,0,0,0,0,0,0,0,0,0,0,0,0,0,0,0,0,0,0,0,0,0,0,0,0,0,1,0,0,0,1,2,2,0,0,0,0,0,0,0,0,0,0,0,0,0,0,0,0,0,0,0,0,0,0,0,0,0,0,0,0,0,0,0,0,0,0,0,0,0,0,0,0,1,0,0,0,1,2,2,0,0,0,0,0,0,0,0,0,0,0,2,0,0,0,0,0,0,0,0,0,0,0,0,0,0,0,0,0,0,0,0,0,0,0,0,0,0,0,0,0,0,0,0,0,0,0,0,0,0,0,0,0,0,0,0,0,0,0,0,0,0,0,0,0,0,0,0,0,0,0,0,0,0,1,1,0,0,0,0,0,0,0,0,0,0,0,1,2,0,2,1,2,0,2,1,2,0,2,0,0,0,0,2,0,0,0,0,0,0,0,0,0,0,0,0,0,0,0,0,0,0,0]
noncomputable def nC_0 (n : Int) (m : Int) : Bool := (decide (((1 : Nat) = (1 : Nat)) ∧ (((0 : Int) ≤ ((1 : Int) + (@Int.fmod m (63 : Int)) : Int)) ∧ (((1 : Int) + (@Int.fmod m (63 : Int)) : Int) ≤ (1048576 : Int)))))
noncomputable def nC_1 (n : Int) (m : Int) : Bool := ((((true && ((decide ((-(9223372036854775808 : Int) : Int) ≤ (@Int.fmod n (4 : Int)))) && (decide ((@Int.fmod n (4 : Int)) < (9223372036854775808 : Int))))) && true) && ((decide ((-(9223372036854775808 : Int) : Int) ≤ (@ite _ ((0 : Int) < (1 : Int)) _ (@ite _ ((0 : Int) < (@Int.fmod n (4 : Int))) _ (((((@Int.fmod n (4 : Int)) - (0 : Int) : Int) - (1 : Int) : Int) / (1 : Int) : Int) + (1 : Int) : Int) (0 : Int)) (@ite _ ((@Int.fmod n (4 : Int)) < (0 : Int)) _ (((((0 : Int) - (@Int.fmod n (4 : Int)) : Int) - (1 : Int) : Int) / (-(1 : Int) : Int) : Int) + (1 : Int) : Int) (0 : Int))))) && (decide ((@ite _ ((0 : Int) < (1 : Int)) _ (@ite _ ((0 : Int) < (@Int.fmod n (4 : Int))) _ (((((@Int.fmod n (4 : Int)) - (0 : Int) : Int) - (1 : Int) : Int) / (1 : Int) : Int) + (1 : Int) : Int) (0 : Int)) (@ite _ ((@Int.fmod n (4 : Int)) < (0 : Int)) _ (((((0 : Int) - (@Int.fmod n (4 : Int)) : Int) - (1 : Int) : Int) / (-(1 : Int) : Int) : Int) + (1 : Int) : Int) (0 : Int))) < (9223372036854775808 : Int))))) && ((decide ((@ite _ ((0 : Int) < (1 : Int)) _ (@ite _ ((0 : Int) < (@Int.fmod n (4 : Int))) _ (((((@Int.fmod n (4 : Int)) - (0 : Int) : Int) - (1 : Int) : Int) / (1 : Int) : Int) + (1 : Int) : Int) (0 : Int)) (@ite _ ((@Int.fmod n (4 : Int)) < (0 : Int)) _ (((((0 : Int) - (@Int.fmod n (4 : Int)) : Int) - (1 : Int) : Int) / (-(1 : Int) : Int) : Int) + (1 : Int) : Int) (0 : Int))) = (0 : Int))) || (@ite _ ((0 : Int) < (1 : Int)) _ ((decide ((-(9223372036854775808 : Int) : Int) ≤ ((@Int.fmod n (4 : Int)) + (0 : Int) : Int))) && (decide (((@Int.fmod n (4 : Int)) + (0 : Int) : Int) < (9223372036854775808 : Int)))) ((decide ((-(9223372036854775808 : Int) : Int) ≤ ((@Int.fmod n (4 : Int)) + (2 : Int) : Int))) && (decide (((@Int.fmod n (4 : Int)) + (2 : Int) : Int) < (9223372036854775808 : Int)))))))
noncomputable def nC_2 (n : Int) (m : Int) : Bool := (decide ((0 : Int) < (@ite _ ((0 : Int) < (1 : Int)) _ (@ite _ ((0 : Int) < (@Int.fmod n (4 : Int))) _ (((((@Int.fmod n (4 : Int)) - (0 : Int) : Int) - (1 : Int) : Int) / (1 : Int) : Int) + (1 : Int) : Int) (0 : Int)) (@ite _ ((@Int.fmod n (4 : Int)) < (0 : Int)) _ (((((0 : Int) - (@Int.fmod n (4 : Int)) : Int) - (1 : Int) : Int) / (-(1 : Int) : Int) : Int) + (1 : Int) : Int) (0 : Int)))))
noncomputable def nC_3 (n : Int) (m : Int) : Bool := (@List.all _ ([((97 : Int) + (@Int.fmod (@Int.fdiv n (4 : Int)) (26 : Int)) : Int)] : List Int) (fun (i : Int) => (decide (((0 : Int) ≤ i) ∧ (i < (256 : Int))))))
noncomputable def nC_4 (n : Int) (m : Int) : Bool := (decide (((@List.length _ ([(@UInt8.ofNat (@Int.toNat ((97 : Int) + (@Int.fmod (@Int.fdiv n (4 : Int)) (26 : Int)) : Int)))] : List UInt8)) = (1 : Nat)) ∧ (((0 : Int) ≤ ((1 : Int) + (@Int.fmod (@Int.fdiv (@Int.fdiv n (4 : Int)) (26 : Int)) (40 : Int)) : Int)) ∧ (((1 : Int) + (@Int.fmod (@Int.fdiv (@Int.fdiv n (4 : Int)) (26 : Int)) (40 : Int)) : Int) ≤ (1048576 : Int)))))
noncomputable def nC_5 (n : Int) (m : Int) : Bool := (decide ((0 : Int) < ((@ite _ ((0 : Int) < (1 : Int)) _ (@ite _ ((0 : Int) < (@Int.fmod n (4 : Int))) _ (((((@Int.fmod n (4 : Int)) - (0 : Int) : Int) - (1 : Int) : Int) / (1 : Int) : Int) + (1 : Int) : Int) (0 : Int)) (@ite _ ((@Int.fmod n (4 : Int)) < (0 : Int)) _ (((((0 : Int) - (@Int.fmod n (4 : Int)) : Int) - (1 : Int) : Int) / (-(1 : Int) : Int) : Int) + (1 : Int) : Int) (0 : Int))) - (1 : Int) : Int)))
noncomputable def nC_6 (n : Int) (m : Int) : Bool := (@List.all _ ([((97 : Int) + (@Int.fmod (@Int.fdiv (@Int.fdiv n (4 : Int)) (4 : Int)) (26 : Int)) : Int)] : List Int) (fun (i : Int) => (decide (((0 : Int) ≤ i) ∧ (i < (256 : Int))))))
noncomputable def nC_7 (n : Int) (m : Int) : Bool := (decide (((@List.length _ ([(@UInt8.ofNat (@Int.toNat ((97 : Int) + (@Int.fmod (@Int.fdiv (@Int.fdiv n (4 : Int)) (4 : Int)) (26 : Int)) : Int)))] : List UInt8)) = (1 : Nat)) ∧ (((0 : Int) ≤ ((1 : Int) + (@Int.fmod (@Int.fdiv (@Int.fdiv (@Int.fdiv n (4 : Int)) (4 : Int)) (26 : Int)) (40 : Int)) : Int)) ∧ (((1 : Int) + (@Int.fmod (@Int.fdiv (@Int.fdiv (@Int.fdiv n (4 : Int)) (4 : Int)) (26 : Int)) (40 : Int)) : Int) ≤ (1048576 : Int)))))
noncomputable def nC_8 (n : Int) (m : Int) : Bool := (decide ((0 : Int) < (((@ite _ ((0 : Int) < (1 : Int)) _ (@ite _ ((0 : Int) < (@Int.fmod n (4 : Int))) _ (((((@Int.fmod n (4 : Int)) - (0 : Int) : Int) - (1 : Int) : Int) / (1 : Int) : Int) + (1 : Int) : Int) (0 : Int)) (@ite _ ((@Int.fmod n (4 : Int)) < (0 : Int)) _ (((((0 : Int) - (@Int.fmod n (4 : Int)) : Int) - (1 : Int) : Int) / (-(1 : Int) : Int) : Int) + (1 : Int) : Int) (0 : Int))) - (1 : Int) : Int) - (1 : Int) : Int)))
noncomputable def nC_9 (n : Int) (m : Int) : Bool := (decide ((@List.length _ (@List.flatten _ (@List.replicate _ (@Int.toNat ((1 : Int) + (@Int.fmod m (63 : Int)) : Int)) ([(111 : UInt8)] : List UInt8)))) ≤ (16777216 : Nat)))
noncomputable def nC_10 (n : Int) (m : Int) : Bool := (decide ((63 : Int) < (((@List.length _ (@List.flatten _ (@List.replicate _ (@Int.toNat ((1 : Int) + (@Int.fmod m (63 : Int)) : Int)) ([(111 : UInt8)] : List UInt8)))) : Nat) : Int)))
noncomputable def nC_11 (n : Int) (m : Int) : Bool := (@u8sEq (@List.flatten _ (@List.replicate _ (@Int.toNat ((1 : Int) + (@Int.fmod m (63 : Int)) : Int)) ([(111 : UInt8)] : List UInt8))) ([] : List UInt8))
noncomputable def nC_12 (n : Int) (m : Int) : Bool := (decide ((255 : Int) < (((0 : Int) + ((((@List.length _ (@List.flatten _ (@List.replicate _ (@Int.toNat ((1 : Int) + (@Int.fmod m (63 : Int)) : Int)) ([(111 : UInt8)] : List UInt8)))) : Nat) : Int) + (1 : Int) : Int) : Int) + (1 : Int) : Int)))
noncomputable def nC_13 (n : Int) (m : Int) : Bool := (decide ((@List.length _ (@List.flatten _ (@List.replicate _ (@Int.toNat ((1 : Int) + (@Int.fmod (@Int.fdiv (@Int.fdiv (@Int.fdiv n (4 : Int)) (4 : Int)) (26 : Int)) (40 : Int)) : Int)) ([(@UInt8.ofNat (@Int.toNat ((97 : Int) + (@Int.fmod (@Int.fdiv (@Int.fdiv n (4 : Int)) (4 : Int)) (26 : Int)) : Int)))] : List UInt8)))) ≤ (16777216 : Nat)))
noncomputable def nC_14 (n : Int) (m : Int) : Bool := (decide ((63 : Int) < (((@List.length _ (@List.flatten _ (@List.replicate _ (@Int.toNat ((1 : Int) + (@Int.fmod (@Int.fdiv (@Int.fdiv (@Int.fdiv n (4 : Int)) (4 : Int)) (26 : Int)) (40 : Int)) : Int)) ([(@UInt8.ofNat (@Int.toNat ((97 : Int) + (@Int.fmod (@Int.fdiv (@Int.fdiv n (4 : Int)) (4 : Int)) (26 : Int)) : Int)))] : List UInt8)))) : Nat) : Int)))
noncomputable def nC_15 (n : Int) (m : Int) : Bool := (@u8sEq (@List.flatten _ (@List.replicate _ (@Int.toNat ((1 : Int) + (@Int.fmod (@Int.fdiv (@Int.fdiv (@Int.fdiv n (4 : Int)) (4 : Int)) (26 : Int)) (40 : Int)) : Int)) ([(@UInt8.ofNat (@Int.toNat ((97 : Int) + (@Int.fmod (@Int.fdiv (@Int.fdiv n (4 : Int)) (4 : Int)) (26 : Int)) : Int)))] : List UInt8))) ([] : List UInt8))
noncomputable def nC_16 (n : Int) (m : Int) : Bool := (decide ((@List.length _ (@List.flatten _ (@List.replicate _ (@Int.toNat ((1 : Int) + (@Int.fmod (@Int.fdiv (@Int.fdiv n (4 : Int)) (26 : Int)) (40 : Int)) : Int)) ([(@UInt8.ofNat (@Int.toNat ((97 : Int) + (@Int.fmod (@Int.fdiv n (4 : Int)) (26 : Int)) : Int)))] : List UInt8)))) ≤ (16777216 : Nat)))
noncomputable def nC_17 (n : Int) (m : Int) : Bool := (decide ((63 : Int) < (((@List.length _ (@List.flatten _ (@List.replicate _ (@Int.toNat ((1 : Int) + (@Int.fmod (@Int.fdiv (@Int.fdiv n (4 : Int)) (26 : Int)) (40 : Int)) : Int)) ([(@UInt8.ofNat (@Int.toNat ((97 : Int) + (@Int.fmod (@Int.fdiv n (4 : Int)) (26 : Int)) : Int)))] : List UInt8)))) : Nat) : Int)))
noncomputable def nC_18 (n : Int) (m : Int) : Bool := (@u8sEq (@List.flatten _ (@List.replicate _ (@Int.toNat ((1 : Int) + (@Int.fmod (@Int.fdiv (@Int.fdiv n (4 : Int)) (26 : Int)) (40 : Int)) : Int)) ([(@UInt8.ofNat (@Int.toNat ((97 : Int) + (@Int.fmod (@Int.fdiv n (4 : Int)) (26 : Int)) : Int)))] : List UInt8))) ([] : List UInt8))
noncomputable def nC_19 (n : Int) (m : Int) : Bool := (decide ((255 : Int) < (((((0 : Int) + ((((@List.length _ (@List.flatten _ (@List.replicate _ (@Int.toNat ((1 : Int) + (@Int.fmod (@Int.fdiv (@Int.fdiv (@Int.fdiv n (4 : Int)) (4 : Int)) (26 : Int)) (40 : Int)) : Int)) ([(@UInt8.ofNat (@Int.toNat ((97 : Int) + (@Int.fmod (@Int.fdiv (@Int.fdiv n (4 : Int)) (4 : Int)) (26 : Int)) : Int)))] : List UInt8)))) : Nat) : Int) + (1 : Int) : Int) : Int) + ((((@List.length _ (@List.flatten _ (@List.replicate _ (@Int.toNat ((1 : Int) + (@Int.fmod (@Int.fdiv (@Int.fdiv n (4 : Int)) (26 : Int)) (40 : Int)) : Int)) ([(@UInt8.ofNat (@Int.toNat ((97 : Int) + (@Int.fmod (@Int.fdiv n (4 : Int)) (26 : Int)) : Int)))] : List UInt8)))) : Nat) : Int) + (1 : Int) : Int) : Int) + ((((@List.length _ (@List.flatten _ (@List.replicate _ (@Int.toNat ((1 : Int) + (@Int.fmod m (63 : Int)) : Int)) ([(111 : UInt8)] : List UInt8)))) : Nat) : Int) + (1 : Int) : Int) : Int) + (1 : Int) : Int)))
noncomputable def nC_20 (n : Int) (m : Int) : Bool := (@ltL (@lowerB (@List.flatten _ (@List.replicate _ (@Int.toNat ((1 : Int) + (@Int.fmod m (63 : Int)) : Int)) ([(111 : UInt8)] : List UInt8)))) (@lowerB (@List.flatten _ (@List.replicate _ (@Int.toNat ((1 : Int) + (@Int.fmod m (63 : Int)) : Int)) ([(111 : UInt8)] : List UInt8)))))
noncomputable def nC_21 (n : Int) (m : Int) : Bool := (decide ((((@List.length _ (@List.flatten _ (@List.replicate _ (@Int.toNat ((1 : Int) + (@Int.fmod (@Int.fdiv (@Int.fdiv (@Int.fdiv n (4 : Int)) (4 : Int)) (26 : Int)) (40 : Int)) : Int)) ([(@UInt8.ofNat (@Int.toNat ((97 : Int) + (@Int.fmod (@Int.fdiv (@Int.fdiv n (4 : Int)) (4 : Int)) (26 : Int)) : Int)))] : List UInt8)))) : Nat) : Int) < (63 : Int)))
noncomputable def nC_22 (n : Int) (m : Int) : Bool := (decide (((@List.length _ (@List.flatten _ (@List.replicate _ (@Int.toNat ((1 : Int) + (@Int.fmod (@Int.fdiv (@Int.fdiv (@Int.fdiv n (4 : Int)) (4 : Int)) (26 : Int)) (40 : Int)) : Int)) ([(@UInt8.ofNat (@Int.toNat ((97 : Int) + (@Int.fmod (@Int.fdiv (@Int.fdiv n (4 : Int)) (4 : Int)) (26 : Int)) : Int)))] : List UInt8)))) + (1 : Nat) : Nat) ≤ (16777216 : Nat)))
noncomputable def nC_23 (n : Int) (m : Int) : Bool := (decide ((@List.length _ ((@List.flatten _ (@List.replicate _ (@Int.toNat ((1 : Int) + (@Int.fmod (@Int.fdiv (@Int.fdiv (@Int.fdiv n (4 : Int)) (4 : Int)) (26 : Int)) (40 : Int)) : Int)) ([(@UInt8.ofNat (@Int.toNat ((97 : Int) + (@Int.fmod (@Int.fdiv (@Int.fdiv n (4 : Int)) (4 : Int)) (26 : Int)) : Int)))] : List UInt8))) ++ ([(0 : UInt8)] : List UInt8))) ≤ (16777216 : Nat)))
noncomputable def nC_24 (n : Int) (m : Int) : Bool := (decide ((63 : Int) < (((@List.length _ ((@List.flatten _ (@List.replicate _ (@Int.toNat ((1 : Int) + (@Int.fmod (@Int.fdiv (@Int.fdiv (@Int.fdiv n (4 : Int)) (4 : Int)) (26 : Int)) (40 : Int)) : Int)) ([(@UInt8.ofNat (@Int.toNat ((97 : Int) + (@Int.fmod (@Int.fdiv (@Int.fdiv n (4 : Int)) (4 : Int)) (26 : Int)) : Int)))] : List UInt8))) ++ ([(0 : UInt8)] : List UInt8))) : Nat) : Int)))
noncomputable def nC_25 (n : Int) (m : Int) : Bool := (@u8sEq ((@List.flatten _ (@List.replicate _ (@Int.toNat ((1 : Int) + (@Int.fmod (@Int.fdiv (@Int.fdiv (@Int.fdiv n (4 : Int)) (4 : Int)) (26 : Int)) (40 : Int)) : Int)) ([(@UInt8.ofNat (@Int.toNat ((97 : Int) + (@Int.fmod (@Int.fdiv (@Int.fdiv n (4 : Int)) (4 : Int)) (26 : Int)) : Int)))] : List UInt8))) ++ ([(0 : UInt8)] : List UInt8)) ([] : List UInt8))
noncomputable def nC_26 (n : Int) (m : Int) : Bool := (decide ((255 : Int) < (((((0 : Int) + ((((@List.length _ ((@List.flatten _ (@List.replicate _ (@Int.toNat ((1 : Int) + (@Int.fmod (@Int.fdiv (@Int.fdiv (@Int.fdiv n (4 : Int)) (4 : Int)) (26 : Int)) (40 : Int)) : Int)) ([(@UInt8.ofNat (@Int.toNat ((97 : Int) + (@Int.fmod (@Int.fdiv (@Int.fdiv n (4 : Int)) (4 : Int)) (26 : Int)) : Int)))] : List UInt8))) ++ ([(0 : UInt8)] : List UInt8))) : Nat) : Int) + (1 : Int) : Int) : Int) + ((((@List.length _ (@List.flatten _ (@List.replicate _ (@Int.toNat ((1 : Int) + (@Int.fmod (@Int.fdiv (@Int.fdiv n (4 : Int)) (26 : Int)) (40 : Int)) : Int)) ([(@UInt8.ofNat (@Int.toNat ((97 : Int) + (@Int.fmod (@Int.fdiv n (4 : Int)) (26 : Int)) : Int)))] : List UInt8)))) : Nat) : Int) + (1 : Int) : Int) : Int) + ((((@List.length _ (@List.flatten _ (@List.replicate _ (@Int.toNat ((1 : Int) + (@Int.fmod m (63 : Int)) : Int)) ([(111 : UInt8)] : List UInt8)))) : Nat) : Int) + (1 : Int) : Int) : Int) + (1 : Int) : Int)))
noncomputable def nC_27 (n : Int) (m : Int) : Bool := (!((@u8sEq (@List.flatten _ (@List.replicate _ (@Int.toNat ((1 : Int) + (@Int.fmod m (63 : Int)) : Int)) ([(111 : UInt8)] : List UInt8))) (@List.flatten _ (@List.replicate _ (@Int.toNat ((1 : Int) + (@Int.fmod m (63 : Int)) : Int)) ([(111 : UInt8)] : List UInt8)))) && true))
noncomputable def nC_28 (n : Int) (m : Int) : Bool := ((@u8sEq (@List.flatten _ (@List.replicate _ (@Int.toNat ((1 : Int) + (@Int.fmod (@Int.fdiv (@Int.fdiv (@Int.fdiv n (4 : Int)) (4 : Int)) (26 : Int)) (40 : Int)) : Int)) ([(@UInt8.ofNat (@Int.toNat ((97 : Int) + (@Int.fmod (@Int.fdiv (@Int.fdiv n (4 : Int)) (4 : Int)) (26 : Int)) : Int)))] : List UInt8))) (@List.flatten _ (@List.replicate _ (@Int.toNat ((1 : Int) + (@Int.fmod m (63 : Int)) : Int)) ([(111 : UInt8)] : List UInt8)))) && ((@u8sEq (@List.flatten _ (@List.replicate _ (@Int.toNat ((1 : Int) + (@Int.fmod (@Int.fdiv (@Int.fdiv n (4 : Int)) (26 : Int)) (40 : Int)) : Int)) ([(@UInt8.ofNat (@Int.toNat ((97 : Int) + (@Int.fmod (@Int.fdiv n (4 : Int)) (26 : Int)) : Int)))] : List UInt8))) ([] : List UInt8)) && false))
noncomputable def nC_29 (n : Int) (m : Int) : Bool := (@ltL ([(33 : UInt8)] : List UInt8) (@lowerB (@List.flatten _ (@List.replicate _ (@Int.toNat ((1 : Int) + (@Int.fmod m (63 : Int)) : Int)) ([(111 : UInt8)] : List UInt8)))))
noncomputable def nC_obs (n : Int) (m : Int) : List (Bool × Bool) := [(nC_0 n m, true), (nC_1 n m, true), (nC_2 n m, true), (nC_3 n m, true), (nC_4 n m, true), (nC_5 n m, true), (nC_6 n m, true), (nC_7 n m, true), (nC_8 n m, false), (nC_9 n m, true), (nC_10 n m, false), (nC_11 n m, false), (nC_12 n m, false), (nC_13 n m, true), (nC_14 n m, false), (nC_15 n m, false), (nC_16 n m, true), (nC_17 n m, false), (nC_18 n m, false), (nC_9 n m, true), (nC_10 n m, false), (nC_11 n m, false), (nC_19 n m, false), (nC_9 n m, true), (nC_9 n m, true), (nC_20 n m, false), (nC_20 n m, false), (nC_9 n m, true), (nC_9 n m, true), (nC_20 n m, false), (nC_20 n m, false), (nC_13 n m, true), (nC_21 n m, true), (nC_22 n m, true), (nC_23 n m, true), (nC_24 n m, false), (nC_25 n m, false), (nC_16 n m, true), (nC_17 n m, false), (nC_18 n m, false), (nC_9 n m, true), (nC_10 n m, false), (nC_11 n m, false), (nC_26 n m, false), (nC_27 n m, false), (nC_28 n m, false), (nC_9 n m, true), (nC_9 n m, true), (nC_20 n m, false), (nC_20 n m, false), (nC_9 n m, true), (nC_9 n m, true), (nC_20 n m, false), (nC_20 n m, false), (nC_27 n m, false), (nC_9 n m, true), (nC_29 n m, true), (nC_13 n m, true), (nC_14 n m, false), (nC_15 n m, false), (nC_16 n m, true), (nC_17 n m, false), (nC_18 n m, false), (nC_9 n m, true), (nC_10 n m, false), (nC_11 n m, false), (nC_19 n m, false)]
theorem nC_run (n : Int) (m : Int) (l : List (Nat × List MV)) (loc : Loc) : outc ((fnsN (tl l) N0).1.ca (.gl 979) [MV.int n, MV.int m] ⟨[], loc, nC_orc⟩) = some (nC_val n m, loc, nC_obs n m) := by kernel_rfl
theorem nC_ok (n m : Int) (hv : n.fmod 4 = 2) : AllOk (nC_obs n m) := by
  have f0 := fm (@Int.fdiv (@Int.fdiv (@Int.fdiv n (4 : Int)) (4 : Int)) (26 : Int)) 40 (by decide)
  have f1 := fm (@Int.fdiv (@Int.fdiv n (4 : Int)) (26 : Int)) 40 (by decide)
  have f2 := fm (@Int.fdiv (@Int.fdiv n (4 : Int)) (4 : Int)) 26 (by decide)
  have f3 := fm (@Int.fdiv n (4 : Int)) 26 (by decide)
  have f4 := fm m 63 (by decide)
  have f5 := fm n 4 (by decide)
  have qnC_0 : nC_0 n m = true := by unfold nC_0; simp only [List.all_cons, List.all_nil, Bool.and_true, decide_eq_true_eq, List.length_append, flat_len, List.length_cons, List.length_nil, Nat.zero_add, true_and]; omega
  have qnC_1 : nC_1 n m = true := by unfold nC_1; rw [hv]; decide
  have qnC_2 : nC_2 n m = true := by unfold nC_2; rw [hv]; decide
  have qnC_3 : nC_3 n m = true := by unfold nC_3; simp only [List.all_cons, List.all_nil, Bool.and_true, decide_eq_true_eq, List.length_append, flat_len, List.length_cons, List.length_nil, Nat.zero_add, true_and]; omega
  have qnC_4 : nC_4 n m = true := by unfold nC_4; simp only [List.all_cons, List.all_nil, Bool.and_true, decide_eq_true_eq, List.length_append, flat_len, List.length_cons, List.length_nil, Nat.zero_add, true_and]; omega
  have qnC_5 : nC_5 n m = true := by unfold nC_5; rw [hv]; decide
  have qnC_6 : nC_6 n m = true := by unfold nC_6; simp only [List.all_cons, List.all_nil, Bool.and_true, decide_eq_true_eq, List.length_append, flat_len, List.length_cons, List.length_nil, Nat.zero_add, true_and]; omega
  have qnC_7 : nC_7 n m = true := by unfold nC_7; simp only [List.all_cons, List.all_nil, Bool.and_true, decide_eq_true_eq, List.length_append, flat_len, List.length_cons, List.length_nil, Nat.zero_add, true_and]; omega
  have qnC_8 : nC_8 n m = false := by unfold nC_8; rw [hv]; decide
  have qnC_9 : nC_9 n m = true := by unfold nC_9; simp only [List.all_cons, List.all_nil, Bool.and_true, decide_eq_true_eq, List.length_append, flat_len, List.length_cons, List.length_nil, Nat.zero_add, true_and]; omega
  have qnC_10 : nC_10 n m = false := by unfold nC_10; simp only [decide_eq_false_iff_not, List.length_append, flat_len, List.length_cons, List.length_nil]; omega
  have qnC_11 : nC_11 n m = false := by unfold nC_11; exact u8_nil (by simp only [List.length_append, flat_len, List.length_cons, List.length_nil]; omega)
  have qnC_12 : nC_12 n m = false := by unfold nC_12; simp only [decide_eq_false_iff_not, List.length_append, flat_len, List.length_cons, List.length_nil]; omega
  have qnC_13 : nC_13 n m = true := by unfold nC_13; simp only [List.all_cons, List.all_nil, Bool.and_true, decide_eq_true_eq, List.length_append, flat_len, List.length_cons, List.length_nil, Nat.zero_add, true_and]; omega
  have qnC_14 : nC_14 n m = false := by unfold nC_14; simp only [decide_eq_false_iff_not, List.length_append, flat_len, List.length_cons, List.length_nil]; omega
  have qnC_15 : nC_15 n m = false := by unfold nC_15; exact u8_nil (by simp only [List.length_append, flat_len, List.length_cons, List.length_nil]; omega)
  have qnC_16 : nC_16 n m = true := by unfold nC_16; simp only [List.all_cons, List.all_nil, Bool.and_true, decide_eq_true_eq, List.length_append, flat_len, List.length_cons, List.length_nil, Nat.zero_add, true_and]; omega
  have qnC_17 : nC_17 n m = false := by unfold nC_17; simp only [decide_eq_false_iff_not, List.length_append, flat_len, List.length_cons, List.length_nil]; omega
  have qnC_18 : nC_18 n m = false := by unfold nC_18; exact u8_nil (by simp only [List.length_append, flat_len, List.length_cons, List.length_nil]; omega)
  have qnC_19 : nC_19 n m = false := by unfold nC_19; simp only [decide_eq_false_iff_not, List.length_append, flat_len, List.length_cons, List.length_nil]; omega
  have qnC_20 : nC_20 n m = false := by unfold nC_20; exact lt_irr _
  have qnC_21 : nC_21 n m = true := by unfold nC_21; simp only [List.all_cons, List.all_nil, Bool.and_true, decide_eq_true_eq, List.length_append, flat_len, List.length_cons, List.length_nil, Nat.zero_add, true_and]; omega
  have qnC_22 : nC_22 n m = true := by unfold nC_22; simp only [List.all_cons, List.all_nil, Bool.and_true, decide_eq_true_eq, List.length_append, flat_len, List.length_cons, List.length_nil, Nat.zero_add, true_and]; omega
  have qnC_23 : nC_23 n m = true := by unfold nC_23; simp only [List.all_cons, List.all_nil, Bool.and_true, decide_eq_true_eq, List.length_append, flat_len, List.length_cons, List.length_nil, Nat.zero_add, true_and]; omega
  have qnC_24 : nC_24 n m = false := by unfold nC_24; simp only [decide_eq_false_iff_not, List.length_append, flat_len, List.length_cons, List.length_nil]; omega
  have qnC_25 : nC_25 n m = false := by unfold nC_25; exact u8_nil (by simp only [List.length_append, flat_len, List.length_cons, List.length_nil]; omega)
  have qnC_26 : nC_26 n m = false := by unfold nC_26; simp only [decide_eq_false_iff_not, List.length_append, flat_len, List.length_cons, List.length_nil]; omega
  have qnC_27 : nC_27 n m = false := by unfold nC_27; rw [u8_self]; rfl
  have qnC_28 : nC_28 n m = false := by unfold nC_28; simp only [Bool.and_false]
  have qnC_29 : nC_29 n m = true := by unfold nC_29; exact lt_bang _ (by omega)
  exact ⟨qnC_0, qnC_1, qnC_2, qnC_3, qnC_4, qnC_5, qnC_6, qnC_7, qnC_8, qnC_9, qnC_10, qnC_11, qnC_12, qnC_13, qnC_14, qnC_15, qnC_16, qnC_17, qnC_18, qnC_9, qnC_10, qnC_11, qnC_19, qnC_9, qnC_9, qnC_20, qnC_20, qnC_9, qnC_9, qnC_20, qnC_20, qnC_13, qnC_21, qnC_22, qnC_23, qnC_24, qnC_25, qnC_16, qnC_17, qnC_18, qnC_9, qnC_10, qnC_11, qnC_26, qnC_27, qnC_28, qnC_9, qnC_9, qnC_20, qnC_20, qnC_9, qnC_9, qnC_20, qnC_20, qnC_27, qnC_9, qnC_29, qnC_13, qnC_14, qnC_15, qnC_16, qnC_17, qnC_18, qnC_9, qnC_10, qnC_11, qnC_19, trivial⟩
noncomputable def nD_val (n : Int) (m : Int) : MV := (@MV.bool true)
noncomputable def nD_orc : List (Option Bool) := oc [0,1,0,0,1,1,0,0,0,1,0,0,0,1,0,0,1,0,0,0,1,0,0,0,1,0,0,1,0,0,0,1,0,0,0,1,0,0,2,0,0,0,0,1,2,0,2,0,0,0,0,2,0,0,0,0,0,0,1,2,0,2,1,2,0,2,1,2,0,2,1,2,0,2,0,0,0,0,2,0,0,0,0,0,0,0,0,0,0,0,0,0,0,0,0,0,0,0,0,0,0,0,0,0,0,0,0,0,0,0,0,0,0,0,0,0,0,0,0,0,0,0,0,1,0,0,0,1,2,2,0,0,0,0,0,0,0,0,0,0,0,0,0,0,0,0,0,0,0,0,0,0,0,0,0,0,0,0,0,0,0,0,0,0,0,0,0,0,0,1,0,0,0,1,2,2,0,0,0,0,0,0,0,0,0,0,0,1,1,1,0,0,0,0,0,0,0,0,1,2,0,2,1,2,0,2,1,2,0,2,1,2,0,2,0,0,0,0,2,0,0,0,0,0,0,0,0,0,2,0,2,0,0,0,0,0,0,0,0,0,0,0,0,0,0,0,0,0,0,0,0,0,0,0,0,0,0,0,0,0,0,0,0,0,0,0,0,0,0,0,0,0,0,1,0,0,0,1,2,2,0,0,0,0,0,0,0,0,0,0,0,0,0,0,0,0,0,0,0,0,0,0,0,0,0,0,0,0,0,0,0,0,0,0,0,0,0,0,0,0,1,0,0,0,1,2,2,0,0,0,0,0,0,0,0,0,0,0,2,0,0,0,0,0,0,0,0,0,0,0,0,0,0,0,0,0,0,0,0,0,0,0,0,0,0,0,0,0,0,0,0,0,0,0,0,0,0,0,0,0,0,0,0,0,0,0,0,0,0,0,0,0,0,0,0,0,0,0,0,0,0,1,1,0,0,0,0,0,0,0,0,0,0,0,1,2,0,2,1,2,0,2,1,2,0,2,1,2,0,2,0,0,0,0,2,0,0,0,0,0,0,0,0,0,0,0,0,0,0,0,0,0,0,0]
noncomputable def nD_0 (n : Int) (m : Int) : Bool := (decide (((1 : Nat) = (1 : Nat)) ∧ (((0 : Int) ≤ ((1 : Int) + (@Int.fmod m (63 : Int)) : Int)) ∧ (((1 : Int) + (@Int.fmod m (63 : Int)) : Int) ≤ (1048576 : Int)))))
noncomputable def nD_1 (n : Int) (m : Int) : Bool := ((((true && ((decide ((-(9223372036854775808 : Int) : Int) ≤ (@Int.fmod n (4 : Int)))) && (decide ((@Int.fmod n (4 : Int)) < (9223372036854775808 : Int))))) && true) && ((decide ((-(9223372036854775808 : Int) : Int) ≤ (@ite _ ((0 : Int) < (1 : Int)) _ (@ite _ ((0 : Int) < (@Int.fmod n (4 : Int))) _ (((((@Int.fmod n (4 : Int)) - (0 : Int) : Int) - (1 : Int) : Int) / (1 : Int) : Int) + (1 : Int) : Int) (0 : Int)) (@ite _ ((@Int.fmod n (4 : Int)) < (0 : Int)) _ (((((0 : Int) - (@Int.fmod n (4 : Int)) : Int) - (1 : Int) : Int) / (-(1 : Int) : Int) : Int) + (1 : Int) : Int) (0 : Int))))) && (decide ((@ite _ ((0 : Int) < (1 : Int)) _ (@ite _ ((0 : Int) < (@Int.fmod n (4 : Int))) _ (((((@Int.fmod n (4 : Int)) - (0 : Int) : Int) - (1 : Int) : Int) / (1 : Int) : Int) + (1 : Int) : Int) (0 : Int)) (@ite _ ((@Int.fmod n (4 : Int)) < (0 : Int)) _ (((((0 : Int) - (@Int.fmod n (4 : Int)) : Int) - (1 : Int) : Int) / (-(1 : Int) : Int) : Int) + (1 : Int) : Int) (0 : Int))) < (9223372036854775808 : Int))))) && ((decide ((@ite _ ((0 : Int) < (1 : Int)) _ (@ite _ ((0 : Int) < (@Int.fmod n (4 : Int))) _ (((((@Int.fmod n (4 : Int)) - (0 : Int) : Int) - (1 : Int) : Int) / (1 : Int) : Int) + (1 : Int) : Int) (0 : Int)) (@ite _ ((@Int.fmod n (4 : Int)) < (0 : Int)) _ (((((0 : Int) - (@Int.fmod n (4 : Int)) : Int) - (1 : Int) : Int) / (-(1 : Int) : Int) : Int) + (1 : Int) : Int) (0 : Int))) = (0 : Int))) || (@ite _ ((0 : Int) < (1 : Int)) _ ((decide ((-(9223372036854775808 : Int) : Int) ≤ ((@Int.fmod n (4 : Int)) + (0 : Int) : Int))) && (decide (((@Int.fmod n (4 : Int)) + (0 : Int) : Int) < (9223372036854775808 : Int)))) ((decide ((-(9223372036854775808 : Int) : Int) ≤ ((@Int.fmod n (4 : Int)) + (2 : Int) : Int))) && (decide (((@Int.fmod n (4 : Int)) + (2 : Int) : Int) < (9223372036854775808 : Int)))))))
noncomputable def nD_2 (n : Int) (m : Int) : Bool := (decide ((0 : Int) < (@ite _ ((0 : Int) < (1 : Int)) _ (@ite _ ((0 : Int) < (@Int.fmod n (4 : Int))) _ (((((@Int.fmod n (4 : Int)) - (0 : Int) : Int) - (1 : Int) : Int) / (1 : Int) : Int) + (1 : Int) : Int) (0 : Int)) (@ite _ ((@Int.fmod n (4 : Int)) < (0 : Int)) _ (((((0 : Int) - (@Int.fmod n (4 : Int)) : Int) - (1 : Int) : Int) / (-(1 : Int) : Int) : Int) + (1 : Int) : Int) (0 : Int)))))
noncomputable def nD_3 (n : Int) (m : Int) : Bool := (@List.all _ ([((97 : Int) + (@Int.fmod (@Int.fdiv n (4 : Int)) (26 : Int)) : Int)] : List Int) (fun (i : Int) => (decide (((0 : Int) ≤ i) ∧ (i < (256 : Int))))))
noncomputable def nD_4 (n : Int) (m : Int) : Bool := (decide (((@List.length _ ([(@UInt8.ofNat (@Int.toNat ((97 : Int) + (@Int.fmod (@Int.fdiv n (4 : Int)) (26 : Int)) : Int)))] : List UInt8)) = (1 : Nat)) ∧ (((0 : Int) ≤ ((1 : Int) + (@Int.fmod (@Int.fdiv (@Int.fdiv n (4 : Int)) (26 : Int)) (40 : Int)) : Int)) ∧ (((1 : Int) + (@Int.fmod (@Int.fdiv (@Int.fdiv n (4 : Int)) (26 : Int)) (40 : Int)) : Int) ≤ (1048576 : Int)))))
noncomputable def nD_5 (n : Int) (m : Int) : Bool := (decide ((0 : Int) < ((@ite _ ((0 : Int) < (1 : Int)) _ (@ite _ ((0 : Int) < (@Int.fmod n (4 : Int))) _ (((((@Int.fmod n (4 : Int)) - (0 : Int) : Int) - (1 : Int) : Int) / (1 : Int) : Int) + (1 : Int) : Int) (0 : Int)) (@ite _ ((@Int.fmod n (4 : Int)) < (0 : Int)) _ (((((0 : Int) - (@Int.fmod n (4 : Int)) : Int) - (1 : Int) : Int) / (-(1 : Int) : Int) : Int) + (1 : Int) : Int) (0 : Int))) - (1 : Int) : Int)))
noncomputable def nD_6 (n : Int) (m : Int) : Bool := (@List.all _ ([((97 : Int) + (@Int.fmod (@Int.fdiv (@Int.fdiv n (4 : Int)) (4 : Int)) (26 : Int)) : Int)] : List Int) (fun (i : Int) => (decide (((0 : Int) ≤ i) ∧ (i < (256 : Int))))))
noncomputable def nD_7 (n : Int) (m : Int) : Bool := (decide (((@List.length _ ([(@UInt8.ofNat (@Int.toNat ((97 : Int) + (@Int.fmod (@Int.fdiv (@Int.fdiv n (4 : Int)) (4 : Int)) (26 : Int)) : Int)))] : List UInt8)) = (1 : Nat)) ∧ (((0 : Int) ≤ ((1 : Int) + (@Int.fmod (@Int.fdiv (@Int.fdiv (@Int.fdiv n (4 : Int)) (4 : Int)) (26 : Int)) (40 : Int)) : Int)) ∧ (((1 : Int) + (@Int.fmod (@Int.fdiv (@Int.fdiv (@Int.fdiv n (4 : Int)) (4 : Int)) (26 : Int)) (40 : Int)) : Int) ≤ (1048576 : Int)))))
noncomputable def nD_8 (n : Int) (m : Int) : Bool := (decide ((0 : Int) < (((@ite _ ((0 : Int) < (1 : Int)) _ (@ite _ ((0 : Int) < (@Int.fmod n (4 : Int))) _ (((((@Int.fmod n (4 : Int)) - (0 : Int) : Int) - (1 : Int) : Int) / (1 : Int) : Int) + (1 : Int) : Int) (0 : Int)) (@ite _ ((@Int.fmod n (4 : Int)) < (0 : Int)) _ (((((0 : Int) - (@Int.fmod n (4 : Int)) : Int) - (1 : Int) : Int) / (-(1 : Int) : Int) : Int) + (1 : Int) : Int) (0 : Int))) - (1 : Int) : Int) - (1 : Int) : Int)))
noncomputable def nD_9 (n : Int) (m : Int) : Bool := (@List.all _ ([((97 : Int) + (@Int.fmod (@Int.fdiv (@Int.fdiv (@Int.fdiv n (4 : Int)) (4 : Int)) (4 : Int)) (26 : Int)) : Int)] : List Int) (fun (i : Int) => (decide (((0 : Int) ≤ i) ∧ (i < (256 : Int))))))
noncomputable def nD_10 (n : Int) (m : Int) : Bool := (decide (((@List.length _ ([(@UInt8.ofNat (@Int.toNat ((97 : Int) + (@Int.fmod (@Int.fdiv (@Int.fdiv (@Int.fdiv n (4 : Int)) (4 : Int)) (4 : Int)) (26 : Int)) : Int)))] : List UInt8)) = (1 : Nat)) ∧ (((0 : Int) ≤ ((1 : Int) + (@Int.fmod (@Int.fdiv (@Int.fdiv (@Int.fdiv (@Int.fdiv n (4 : Int)) (4 : Int)) (4 : Int)) (26 : Int)) (40 : Int)) : Int)) ∧ (((1 : Int) + (@Int.fmod (@Int.fdiv (@Int.fdiv (@Int.fdiv (@Int.fdiv n (4 : Int)) (4 : Int)) (4 : Int)) (26 : Int)) (40 : Int)) : Int) ≤ (1048576 : Int)))))
noncomputable def nD_11 (n : Int) (m : Int) : Bool := (decide ((0 : Int) < ((((@ite _ ((0 : Int) < (1 : Int)) _ (@ite _ ((0 : Int) < (@Int.fmod n (4 : Int))) _ (((((@Int.fmod n (4 : Int)) - (0 : Int) : Int) - (1 : Int) : Int) / (1 : Int) : Int) + (1 : Int) : Int) (0 : Int)) (@ite _ ((@Int.fmod n (4 : Int)) < (0 : Int)) _ (((((0 : Int) - (@Int.fmod n (4 : Int)) : Int) - (1 : Int) : Int) / (-(1 : Int) : Int) : Int) + (1 : Int) : Int) (0 : Int))) - (1 : Int) : Int) - (1 : Int) : Int) - (1 : Int) : Int)))
noncomputable def nD_12 (n : Int) (m : Int) : Bool := (decide ((@List.length _ (@List.flatten _ (@List.replicate _ (@Int.toNat ((1 : Int) + (@Int.fmod m (63 : Int)) : Int)) ([(111 : UInt8)] : List UInt8)))) ≤ (16777216 : Nat)))
noncomputable def nD_13 (n : Int) (m : Int) : Bool := (decide ((63 : Int) < (((@List.length _ (@List.flatten _ (@List.replicate _ (@Int.toNat ((1 : Int) + (@Int.fmod m (63 : Int)) : Int)) ([(111 : UInt8)] : List UInt8)))) : Nat) : Int)))
noncomputable def nD_14 (n : Int) (m : Int) : Bool := (@u8sEq (@List.flatten _ (@List.replicate _ (@Int.toNat ((1 : Int) + (@Int.fmod m (63 : Int)) : Int)) ([(111 : UInt8)] : List UInt8))) ([] : List UInt8))
noncomputable def nD_15 (n : Int) (m : Int) : Bool := (decide ((255 : Int) < (((0 : Int) + ((((@List.length _ (@List.flatten _ (@List.replicate _ (@Int.toNat ((1 : Int) + (@Int.fmod m (63 : Int)) : Int)) ([(111 : UInt8)] : List UInt8)))) : Nat) : Int) + (1 : Int) : Int) : Int) + (1 : Int) : Int)))
noncomputable def nD_16 (n : Int) (m : Int) : Bool := (decide ((@List.length _ (@List.flatten _ (@List.replicate _ (@Int.toNat ((1 : Int) + (@Int.fmod (@Int.fdiv (@Int.fdiv (@Int.fdiv (@Int.fdiv n (4 : Int)) (4 : Int)) (4 : Int)) (26 : Int)) (40 : Int)) : Int)) ([(@UInt8.ofNat (@Int.toNat ((97 : Int) + (@Int.fmod (@Int.fdiv (@Int.fdiv (@Int.fdiv n (4 : Int)) (4 : Int)) (4 : Int)) (26 : Int)) : Int)))] : List UInt8)))) ≤ (16777216 : Nat)))
noncomputable def nD_17 (n : Int) (m : Int) : Bool := (decide ((63 : Int) < (((@List.length _ (@List.flatten _ (@List.replicate _ (@Int.toNat ((1 : Int) + (@Int.fmod (@Int.fdiv (@Int.fdiv (@Int.fdiv (@Int.fdiv n (4 : Int)) (4 : Int)) (4 : Int)) (26 : Int)) (40 : Int)) : Int)) ([(@UInt8.ofNat (@Int.toNat ((97 : Int) + (@Int.fmod (@Int.fdiv (@Int.fdiv (@Int.fdiv n (4 : Int)) (4 : Int)) (4 : Int)) (26 : Int)) : Int)))] : List UInt8)))) : Nat) : Int)))
noncomputable def nD_18 (n : Int) (m : Int) : Bool := (@u8sEq (@List.flatten _ (@List.replicate _ (@Int.toNat ((1 : Int) + (@Int.fmod (@Int.fdiv (@Int.fdiv (@Int.fdiv (@Int.fdiv n (4 : Int)) (4 : Int)) (4 : Int)) (26 : Int)) (40 : Int)) : Int)) ([(@UInt8.ofNat (@Int.toNat ((97 : Int) + (@Int.fmod (@Int.fdiv (@Int.fdiv (@Int.fdiv n (4 : Int)) (4 : Int)) (4 : Int)) (26 : Int)) : Int)))] : List UInt8))) ([] : List UInt8))
noncomputable def nD_19 (n : Int) (m : Int) : Bool := (decide ((@List.length _ (@List.flatten _ (@List.replicate _ (@Int.toNat ((1 : Int) + (@Int.fmod (@Int.fdiv (@Int.fdiv (@Int.fdiv n (4 : Int)) (4 : Int)) (26 : Int)) (40 : Int)) : Int)) ([(@UInt8.ofNat (@Int.toNat ((97 : Int) + (@Int.fmod (@Int.fdiv (@Int.fdiv n (4 : Int)) (4 : Int)) (26 : Int)) : Int)))] : List UInt8)))) ≤ (16777216 : Nat)))
noncomputable def nD_20 (n : Int) (m : Int) : Bool := (decide ((63 : Int) < (((@List.length _ (@List.flatten _ (@List.replicate _ (@Int.toNat ((1 : Int) + (@Int.fmod (@Int.fdiv (@Int.fdiv (@Int.fdiv n (4 : Int)) (4 : Int)) (26 : Int)) (40 : Int)) : Int)) ([(@UInt8.ofNat (@Int.toNat ((97 : Int) + (@Int.fmod (@Int.fdiv (@Int.fdiv n (4 : Int)) (4 : Int)) (26 : Int)) : Int)))] : List UInt8)))) : Nat) : Int)))
noncomputable def nD_21 (n : Int) (m : Int) : Bool := (@u8sEq (@List.flatten _ (@List.replicate _ (@Int.toNat ((1 : Int) + (@Int.fmod (@Int.fdiv (@Int.fdiv (@Int.fdiv n (4 : Int)) (4 : Int)) (26 : Int)) (40 : Int)) : Int)) ([(@UInt8.ofNat (@Int.toNat ((97 : Int) + (@Int.fmod (@Int.fdiv (@Int.fdiv n (4 : Int)) (4 : Int)) (26 : Int)) : Int)))] : List UInt8))) ([] : List UInt8))
noncomputable def nD_22 (n : Int) (m : Int) : Bool := (decide ((@List.length _ (@List.flatten _ (@List.replicate _ (@Int.toNat ((1 : Int) + (@Int.fmod (@Int.fdiv (@Int.fdiv n (4 : Int)) (26 : Int)) (40 : Int)) : Int)) ([(@UInt8.ofNat (@Int.toNat ((97 : Int) + (@Int.fmod (@Int.fdiv n (4 : Int)) (26 : Int)) : Int)))] : List UInt8)))) ≤ (16777216 : Nat)))
noncomputable def nD_23 (n : Int) (m : Int) : Bool := (decide ((63 : Int) < (((@List.length _ (@List.flatten _ (@List.replicate _ (@Int.toNat ((1 : Int) + (@Int.fmod (@Int.fdiv (@Int.fdiv n (4 : Int)) (26 : Int)) (40 : Int)) : Int)) ([(@UInt8.ofNat (@Int.toNat ((97 : Int) + (@Int.fmod (@Int.fdiv n (4 : Int)) (26 : Int)) : Int)))] : List UInt8)))) : Nat) : Int)))
noncomputable def nD_24 (n : Int) (m : Int) : Bool := (@u8sEq (@List.flatten _ (@List.replicate _ (@Int.toNat ((1 : Int) + (@Int.fmod (@Int.fdiv (@Int.fdiv n (4 : Int)) (26 : Int)) (40 : Int)) : Int)) ([(@UInt8.ofNat (@Int.toNat ((97 : Int) + (@Int.fmod (@Int.fdiv n (4 : Int)) (26 : Int)) : Int)))] : List UInt8))) ([] : List UInt8))
noncomputable def nD_25 (n : Int) (m : Int) : Bool := (decide ((255 : Int) < ((((((0 : Int) + ((((@List.length _ (@List.flatten _ (@List.replicate _ (@Int.toNat ((1 : Int) + (@Int.fmod (@Int.fdiv (@Int.fdiv (@Int.fdiv (@Int.fdiv n (4 : Int)) (4 : Int)) (4 : Int)) (26 : Int)) (40 : Int)) : Int)) ([(@UInt8.ofNat (@Int.toNat ((97 : Int) + (@Int.fmod (@Int.fdiv (@Int.fdiv (@Int.fdiv n (4 : Int)) (4 : Int)) (4 : Int)) (26 : Int)) : Int)))] : List UInt8)))) : Nat) : Int) + (1 : Int) : Int) : Int) + ((((@List.length _ (@List.flatten _ (@List.replicate _ (@Int.toNat ((1 : Int) + (@Int.fmod (@Int.fdiv (@Int.fdiv (@Int.fdiv n (4 : Int)) (4 : Int)) (26 : Int)) (40 : Int)) : Int)) ([(@UInt8.ofNat (@Int.toNat ((97 : Int) + (@Int.fmod (@Int.fdiv (@Int.fdiv n (4 : Int)) (4 : Int)) (26 : Int)) : Int)))] : List UInt8)))) : Nat) : Int) + (1 : Int) : Int) : Int) + ((((@List.length _ (@List.flatten _ (@List.replicate _ (@Int.toNat ((1 : Int) + (@Int.fmod (@Int.fdiv (@Int.fdiv n (4 : Int)) (26 : Int)) (40 : Int)) : Int)) ([(@UInt8.ofNat (@Int.toNat ((97 : Int) + (@Int.fmod (@Int.fdiv n (4 : Int)) (26 : Int)) : Int)))] : List UInt8)))) : Nat) : Int) + (1 : Int) : Int) : Int) + ((((@List.length _ (@List.flatten _ (@List.replicate _ (@Int.toNat ((1 : Int) + (@Int.fmod m (63 : Int)) : Int)) ([(111 : UInt8)] : List UInt8)))) : Nat) : Int) + (1 : Int) : Int) : Int) + (1 : Int) : Int)))
noncomputable def nD_26 (n : Int) (m : Int) : Bool := (@ltL (@lowerB (@List.flatten _ (@List.replicate _ (@Int.toNat ((1 : Int) + (@Int.fmod m (63 : Int)) : Int)) ([(111 : UInt8)] : List UInt8)))) (@lowerB (@List.flatten _ (@List.replicate _ (@Int.toNat ((1 : Int) + (@Int.fmod m (63 : Int)) : Int)) ([(111 : UInt8)] : List UInt8)))))
noncomputable def nD_27 (n : Int) (m : Int) : Bool := (decide ((((@List.length _ (@List.flatten _ (@List.replicate _ (@Int.toNat ((1 : Int) + (@Int.fmod (@Int.fdiv (@Int.fdiv (@Int.fdiv (@Int.fdiv n (4 : Int)) (4 : Int)) (4 : Int)) (26 : Int)) (40 : Int)) : Int)) ([(@UInt8.ofNat (@Int.toNat ((97 : Int) + (@Int.fmod (@Int.fdiv (@Int.fdiv (@Int.fdiv n (4 : Int)) (4 : Int)) (4 : Int)) (26 : Int)) : Int)))] : List UInt8)))) : Nat) : Int) < (63 : Int)))
noncomputable def nD_28 (n : Int) (m : Int) : Bool := (decide (((@List.length _ (@List.flatten _ (@List.replicate _ (@Int.toNat ((1 : Int) + (@Int.fmod (@Int.fdiv (@Int.fdiv (@Int.fdiv (@Int.fdiv n (4 : Int)) (4 : Int)) (4 : Int)) (26 : Int)) (40 : Int)) : Int)) ([(@UInt8.ofNat (@Int.toNat ((97 : Int) + (@Int.fmod (@Int.fdiv (@Int.fdiv (@Int.fdiv n (4 : Int)) (4 : Int)) (4 : Int)) (26 : Int)) : Int)))] : List UInt8)))) + (1 : Nat) : Nat) ≤ (16777216 : Nat)))
noncomputable def nD_29 (n : Int) (m : Int) : Bool := (decide ((@List.length _ ((@List.flatten _ (@List.replicate _ (@Int.toNat ((1 : Int) + (@Int.fmod (@Int.fdiv (@Int.fdiv (@Int.fdiv (@Int.fdiv n (4 : Int)) (4 : Int)) (4 : Int)) (26 : Int)) (40 : Int)) : Int)) ([(@UInt8.ofNat (@Int.toNat ((97 : Int) + (@Int.fmod (@Int.fdiv (@Int.fdiv (@Int.fdiv n (4 : Int)) (4 : Int)) (4 : Int)) (26 : Int)) : Int)))] : List UInt8))) ++ ([(0 : UInt8)] : List UInt8))) ≤ (16777216 : Nat)))
noncomputable def nD_30 (n : Int) (m : Int) : Bool := (decide ((63 : Int) < (((@List.length _ ((@List.flatten _ (@List.replicate _ (@Int.toNat ((1 : Int) + (@Int.fmod (@Int.fdiv (@Int.fdiv (@Int.fdiv (@Int.fdiv n (4 : Int)) (4 : Int)) (4 : Int)) (26 : Int)) (40 : Int)) : Int)) ([(@UInt8.ofNat (@Int.toNat ((97 : Int) + (@Int.fmod (@Int.fdiv (@Int.fdiv (@Int.fdiv n (4 : Int)) (4 : Int)) (4 : Int)) (26 : Int)) : Int)))] : List UInt8))) ++ ([(0 : UInt8)] : List UInt8))) : Nat) : Int)))
noncomputable def nD_31 (n : Int) (m : Int) : Bool := (@u8sEq ((@List.flatten _ (@List.replicate _ (@Int.toNat ((1 : Int) + (@Int.fmod (@Int.fdiv (@Int.fdiv (@Int.fdiv (@Int.fdiv n (4 : Int)) (4 : Int)) (4 : Int)) (26 : Int)) (40 : Int)) : Int)) ([(@UInt8.ofNat (@Int.toNat ((97 : Int) + (@Int.fmod (@Int.fdiv (@Int.fdiv (@Int.fdiv n (4 : Int)) (4 : Int)) (4 : Int)) (26 : Int)) : Int)))] : List UInt8))) ++ ([(0 : UInt8)] : List UInt8)) ([] : List UInt8))
noncomputable def nD_32 (n : Int) (m : Int) : Bool := (decide ((255 : Int) < ((((((0 : Int) + ((((@List.length _ ((@List.flatten _ (@List.replicate _ (@Int.toNat ((1 : Int) + (@Int.fmod (@Int.fdiv (@Int.fdiv (@Int.fdiv (@Int.fdiv n (4 : Int)) (4 : Int)) (4 : Int)) (26 : Int)) (40 : Int)) : Int)) ([(@UInt8.ofNat (@Int.toNat ((97 : Int) + (@Int.fmod (@Int.fdiv (@Int.fdiv (@Int.fdiv n (4 : Int)) (4 : Int)) (4 : Int)) (26 : Int)) : Int)))] : List UInt8))) ++ ([(0 : UInt8)] : List UInt8))) : Nat) : Int) + (1 : Int) : Int) : Int) + ((((@List.length _ (@List.flatten _ (@List.replicate _ (@Int.toNat ((1 : Int) + (@Int.fmod (@Int.fdiv (@Int.fdiv (@Int.fdiv n (4 : Int)) (4 : Int)) (26 : Int)) (40 : Int)) : Int)) ([(@UInt8.ofNat (@Int.toNat ((97 : Int) + (@Int.fmod (@Int.fdiv (@Int.fdiv n (4 : Int)) (4 : Int)) (26 : Int)) : Int)))] : List UInt8)))) : Nat) : Int) + (1 : Int) : Int) : Int) + ((((@List.length _ (@List.flatten _ (@List.replicate _ (@Int.toNat ((1 : Int) + (@Int.fmod (@Int.fdiv (@Int.fdiv n (4 : Int)) (26 : Int)) (40 : Int)) : Int)) ([(@UInt8.ofNat (@Int.toNat ((97 : Int) + (@Int.fmod (@Int.fdiv n (4 : Int)) (26 : Int)) : Int)))] : List UInt8)))) : Nat) : Int) + (1 : Int) : Int) : Int) + ((((@List.length _ (@List.flatten _ (@List.replicate _ (@Int.toNat ((1 : Int) + (@Int.fmod m (63 : Int)) : Int)) ([(111 : UInt8)] : List UInt8)))) : Nat) : Int) + (1 : Int) : Int) : Int) + (1 : Int) : Int)))
noncomputable def nD_33 (n : Int) (m : Int) : Bool := (!((@u8sEq (@List.flatten _ (@List.replicate _ (@Int.toNat ((1 : Int) + (@Int.fmod m (63 : Int)) : Int)) ([(111 : UInt8)] : List UInt8))) (@List.flatten _ (@List.replicate _ (@Int.toNat ((1 : Int) + (@Int.fmod m (63 : Int)) : Int)) ([(111 : UInt8)] : List UInt8)))) && true))
noncomputable def nD_34 (n : Int) (m : Int) : Bool := ((@u8sEq (@List.flatten _ (@List.replicate _ (@Int.toNat ((1 : Int) + (@Int.fmod (@Int.fdiv (@Int.fdiv (@Int.fdiv (@Int.fdiv n (4 : Int)) (4 : Int)) (4 : Int)) (26 : Int)) (40 : Int)) : Int)) ([(@UInt8.ofNat (@Int.toNat ((97 : Int) + (@Int.fmod (@Int.fdiv (@Int.fdiv (@Int.fdiv n (4 : Int)) (4 : Int)) (4 : Int)) (26 : Int)) : Int)))] : List UInt8))) (@List.flatten _ (@List.replicate _ (@Int.toNat ((1 : Int) + (@Int.fmod m (63 : Int)) : Int)) ([(111 : UInt8)] : List UInt8)))) && ((@u8sEq (@List.flatten _ (@List.replicate _ (@Int.toNat ((1 : Int) + (@Int.fmod (@Int.fdiv (@Int.fdiv (@Int.fdiv n (4 : Int)) (4 : Int)) (26 : Int)) (40 : Int)) : Int)) ([(@UInt8.ofNat (@Int.toNat ((97 : Int) + (@Int.fmod (@Int.fdiv (@Int.fdiv n (4 : Int)) (4 : Int)) (26 : Int)) : Int)))] : List UInt8))) ([] : List UInt8)) && false))
noncomputable def nD_35 (n : Int) (m : Int) : Bool := (@ltL ([(33 : UInt8)] : List UInt8) (@lowerB (@List.flatten _ (@List.replicate _ (@Int.toNat ((1 : Int) + (@Int.fmod m (63 : Int)) : Int)) ([(111 : UInt8)] : List UInt8)))))
noncomputable def nD_obs (n : Int) (m : Int) : List (Bool × Bool) := [(nD_0 n m, true), (nD_1 n m, true), (nD_2 n m, true), (nD_3 n m, true), (nD_4 n m, true), (nD_5 n m, true), (nD_6 n m, true), (nD_7 n m, true), (nD_8 n m, true), (nD_9 n m, true), (nD_10 n m, true), (nD_11 n m, false), (nD_12 n m, true), (nD_13 n m, false), (nD_14 n m, false), (nD_15 n m, false), (nD_16 n m, true), (nD_17 n m, false), (nD_18 n m, false), (nD_19 n m, true), (nD_20 n m, false), (nD_21 n m, false), (nD_22 n m, true), (nD_23 n m, false), (nD_24 n m, false), (nD_12 n m, true), (nD_13 n m, false), (nD_14 n m, false), (nD_25 n m, false), (nD_12 n m, true), (nD_12 n m, true), (nD_26 n m, false), (nD_26 n m, false), (nD_12 n m, true), (nD_12 n m, true), (nD_26 n m, false), (nD_26 n m, false), (nD_16 n m, true), (nD_27 n m, true), (nD_28 n m, true), (nD_29 n m, true), (nD_30 n m, false), (nD_31 n m, false), (nD_19 n m, true), (nD_20 n m, false), (nD_21 n m, false), (nD_22 n m, true), (nD_23 n m, false), (nD_24 n m, false), (nD_12 n m, true), (nD_13 n m, false), (nD_14 n m, false), (nD_32 n m, false), (nD_33 n m, false), (nD_34 n m, false), (nD_12 n m, true), (nD_12 n m, true), (nD_26 n m, false), (nD_26 n m, false), (nD_12 n m, true), (nD_12 n m, true), (nD_26 n m, false), (nD_26 n m, false), (nD_33 n m, false), (nD_12 n m, true), (nD_35 n m, true), (nD_16 n m, true), (nD_17 n m, false), (nD_18 n m, false), (nD_19 n m, true), (nD_20 n m, false), (nD_21 n m, false), (nD_22 n m, true), (nD_23 n m, false), (nD_24 n m, false), (nD_12 n m, true), (nD_13 n m, false), (nD_14 n m, false), (nD_25 n m, false)]
theorem nD_run (n : Int) (m : Int) (l : List (Nat × List MV)) (loc : Loc) : outc ((fnsN (tl l) N0).1.ca (.gl 979) [MV.int n, MV.int m] ⟨[], loc, nD_orc⟩) = some (nD_val n m, loc, nD_obs n m) := by kernel_rfl
theorem nD_ok (n m : Int) (hv : n.fmod 4 = 3) : AllOk (nD_obs n m) := by
  have f0 := fm (@Int.fdiv (@Int.fdiv (@Int.fdiv (@Int.fdiv n (4 : Int)) (4 : Int)) (4 : Int)) (26 : Int)) 40 (by decide)
  have f1 := fm (@Int.fdiv (@Int.fdiv (@Int.fdiv n (4 : Int)) (4 : Int)) (26 : Int)) 40 (by decide)
  have f2 := fm (@Int.fdiv (@Int.fdiv (@Int.fdiv n (4 : Int)) (4 : Int)) (4 : Int)) 26 (by decide)
  have f3 := fm (@Int.fdiv (@Int.fdiv n (4 : Int)) (26 : Int)) 40 (by decide)
  have f4 := fm (@Int.fdiv (@Int.fdiv n (4 : Int)) (4 : Int)) 26 (by decide)
  have f5 := fm (@Int.fdiv n (4 : Int)) 26 (by decide)
  have f6 := fm m 63 (by decide)
  have f7 := fm n 4 (by decide)
  have qnD_0 : nD_0 n m = true := by unfold nD_0; simp only [List.all_cons, List.all_nil, Bool.and_true, decide_eq_true_eq, List.length_append, flat_len, List.length_cons, List.length_nil, Nat.zero_add, true_and]; omega
  have qnD_1 : nD_1 n m = true := by unfold nD_1; rw [hv]; decide
  have qnD_2 : nD_2 n m = true := by unfold nD_2; rw [hv]; decide
  have qnD_3 : nD_3 n m = true := by unfold nD_3; simp only [List.all_cons, List.all_nil, Bool.and_true, decide_eq_true_eq, List.length_append, flat_len, List.length_cons, List.length_nil, Nat.zero_add, true_and]; omega
  have qnD_4 : nD_4 n m = true := by unfold nD_4; simp only [List.all_cons, List.all_nil, Bool.and_true, decide_eq_true_eq, List.length_append, flat_len, List.length_cons, List.length_nil, Nat.zero_add, true_and]; omega
  have qnD_5 : nD_5 n m = true := by unfold nD_5; rw [hv]; decide
  have qnD_6 : nD_6 n m = true := by unfold nD_6; simp only [List.all_cons, List.all_nil, Bool.and_true, decide_eq_true_eq, List.length_append, flat_len, List.length_cons, List.length_nil, Nat.zero_add, true_and]; omega
  have qnD_7 : nD_7 n m = true := by unfold nD_7; simp only [List.all_cons, List.all_nil, Bool.and_true, decide_eq_true_eq, List.length_append, flat_len, List.length_cons, List.length_nil, Nat.zero_add, true_and]; omega
  have qnD_8 : nD_8 n m = true := by unfold nD_8; rw [hv]; decide
  have qnD_9 : nD_9 n m = true := by unfold nD_9; simp only [List.all_cons, List.all_nil, Bool.and_true, decide_eq_true_eq, List.length_append, flat_len, List.length_cons, List.length_nil, Nat.zero_add, true_and]; omega
  have qnD_10 : nD_10 n m = true := by unfold nD_10; simp only [List.all_cons, List.all_nil, Bool.and_true, decide_eq_true_eq, List.length_append, flat_len, List.length_cons, List.length_nil, Nat.zero_add, true_and]; omega
  have qnD_11 : nD_11 n m = false := by unfold nD_11; rw [hv]; decide
  have qnD_12 : nD_12 n m = true := by unfold nD_12; simp only [List.all_cons, List.all_nil, Bool.and_true, decide_eq_true_eq, List.length_append, flat_len, List.length_cons, List.length_nil, Nat.zero_add, true_and]; omega
  have qnD_13 : nD_13 n m = false := by unfold nD_13; simp only [decide_eq_false_iff_not, List.length_append, flat_len, List.length_cons, List.length_nil]; omega
  have qnD_14 : nD_14 n m = false := by unfold nD_14; exact u8_nil (by simp only [List.length_append, flat_len, List.length_cons, List.length_nil]; omega)
  have qnD_15 : nD_15 n m = false := by unfold nD_15; simp only [decide_eq_false_iff_not, List.length_append, flat_len, List.length_cons, List.length_nil]; omega
  have qnD_16 : nD_16 n m = true := by unfold nD_16; simp only [List.all_cons, List.all_nil, Bool.and_true, decide_eq_true_eq, List.length_append, flat_len, List.length_cons, List.length_nil, Nat.zero_add, true_and]; omega
  have qnD_17 : nD_17 n m = false := by unfold nD_17; simp only [decide_eq_false_iff_not, List.length_append, flat_len, List.length_cons, List.length_nil]; omega
  have qnD_18 : nD_18 n m = false := by unfold nD_18; exact u8_nil (by simp only [List.length_append, flat_len, List.length_cons, List.length_nil]; omega)
  have qnD_19 : nD_19 n m = true := by unfold nD_19; simp only [List.all_cons, List.all_nil, Bool.and_true, decide_eq_true_eq, List.length_append, flat_len, List.length_cons, List.length_nil, Nat.zero_add, true_and]; omega
  have qnD_20 : nD_20 n m = false := by unfold nD_20; simp only [decide_eq_false_iff_not, List.length_append, flat_len, List.length_cons, List.length_nil]; omega
  have qnD_21 : nD_21 n m = false := by unfold nD_21; exact u8_nil (by simp only [List.length_append, flat_len, List.length_cons, List.length_nil]; omega)
  have qnD_22 : nD_22 n m = true := by unfold nD_22; simp only [List.all_cons, List.all_nil, Bool.and_true, decide_eq_true_eq, List.length_append, flat_len, List.length_cons, List.length_nil, Nat.zero_add, true_and]; omega
  have qnD_23 : nD_23 n m = false := by unfold nD_23; simp only [decide_eq_false_iff_not, List.length_append, flat_len, List.length_cons, List.length_nil]; omega
  have qnD_24 : nD_24 n m = false := by unfold nD_24; exact u8_nil (by simp only [List.length_append, flat_len, List.length_cons, List.length_nil]; omega)
  have qnD_25 : nD_25 n m = false := by unfold nD_25; simp only [decide_eq_false_iff_not, List.length_append, flat_len, List.length_cons, List.length_nil]; omega
  have qnD_26 : nD_26 n m = false := by unfold nD_26; exact lt_irr _
  have qnD_27 : nD_27 n m = true := by unfold nD_27; simp only [List.all_cons, List.all_nil, Bool.and_true, decide_eq_true_eq, List.length_append, flat_len, List.length_cons, List.length_nil, Nat.zero_add, true_and]; omega
  have qnD_28 : nD_28 n m = true := by unfold nD_28; simp only [List.all_cons, List.all_nil, Bool.and_true, decide_eq_true_eq, List.length_append, flat_len, List.length_cons, List.length_nil, Nat.zero_add, true_and]; omega
  have qnD_29 : nD_29 n m = true := by unfold nD_29; simp only [List.all_cons, List.all_nil, Bool.and_true, decide_eq_true_eq, List.length_append, flat_len, List.length_cons, List.length_nil, Nat.zero_add, true_and]; omega
  have qnD_30 : nD_30 n m = false := by unfold nD_30; simp only [decide_eq_false_iff_not, List.length_append, flat_len, List.length_cons, List.length_nil]; omega
  have qnD_31 : nD_31 n m = false := by unfold nD_31; exact u8_nil (by simp only [List.length_append, flat_len, List.length_cons, List.length_nil]; omega)
  have qnD_32 : nD_32 n m = false := by unfold nD_32; simp only [decide_eq_false_iff_not, List.length_append, flat_len, List.length_cons, List.length_nil]; omega
  have qnD_33 : nD_33 n m = false := by unfold nD_33; rw [u8_self]; rfl
  have qnD_34 : nD_34 n m = false := by unfold nD_34; simp only [Bool.and_false]
  have qnD_35 : nD_35 n m = true := by unfold nD_35; exact lt_bang _ (by omega)
  exact ⟨qnD_0, qnD_1, qnD_2, qnD_3, qnD_4, qnD_5, qnD_6, qnD_7, qnD_8, qnD_9, qnD_10, qnD_11, qnD_12, qnD_13, qnD_14, qnD_15, qnD_16, qnD_17, qnD_18, qnD_19, qnD_20, qnD_21, qnD_22, qnD_23, qnD_24, qnD_12, qnD_13, qnD_14, qnD_25, qnD_12, qnD_12, qnD_26, qnD_26, qnD_12, qnD_12, qnD_26, qnD_26, qnD_16, qnD_27, qnD_28, qnD_29, qnD_30, qnD_31, qnD_19, qnD_20, qnD_21, qnD_22, qnD_23, qnD_24, qnD_12, qnD_13, qnD_14, qnD_32, qnD_33, qnD_34, qnD_12, qnD_12, qnD_26, qnD_26, qnD_12, qnD_12, qnD_26, qnD_26, qnD_33, qnD_12, qnD_35, qnD_16, qnD_17, qnD_18, qnD_19, qnD_20, qnD_21, qnD_22, qnD_23, qnD_24, qnD_12, qnD_13, qnD_14, qnD_25, trivial⟩
theorem near_says (l : List (Nat × List MV)) (i j : Int) : Says (tl l) 979 [.int i, .int j] (.bool true) := by
  have h := fm i 4 (by decide)
  have c : i.fmod 4 = 0 ∨ i.fmod 4 = 1 ∨ i.fmod 4 = 2 ∨ i.fmod 4 = 3 := by omega
  rcases c with h | h | h | h
  · exact ⟨nA_orc, _, nA_ok i j h, fun loc => nA_run i j l loc⟩
  · exact ⟨nB_orc, _, nB_ok i j h, fun loc => nB_run i j l loc⟩
  · exact ⟨nC_orc, _, nC_ok i j h, fun loc => nC_run i j l loc⟩
  · exact ⟨nD_orc, _, nD_ok i j h, fun loc => nD_run i j l loc⟩
theorem sub_laws (l : List (Nat × List MV)) (g : Nat) (hg : g < 65536) : SubLaws (tl l) g :=
  ⟨fun i x h => esc_says l i x h, fun i => ord_says l i, fun i j => near_says l i j, (in_says l g hg).1, (in_says l g hg).2.1, (in_says l g hg).2.2⟩
end Mine
end
section
open PySem PySem.W PySem.Calls PyProof.Rows
set_option maxRecDepth 1000000
set_option maxHeartbeats 0
theorem PySem.Challenge.cw_lo0005_01_holds : PySem.Challenge.rw_lo0005_01.Holds := by
  exact holds_law Mine.said_ok fun said => Mine.holds_row said (Mine.law_walk Mine.sub_laws)
end
