/- An abstract machine for closed calls: values, trees, an abstract heap, and the evaluator. Nothing is proved here; the soundness stands in the texts behind this one. -/
import Derived.StillTail
import Derived.Deep.Quiet
namespace Go.Proofs.YtcnallabiffemaaGreatDoor.Vm
open Go

/-! ### Trees -/
/-- A tree of places: number 0 at the root, odd numbers to the left, even ones to the right. -/
inductive T (α : Type) where
  | leaf
  | node (l : T α) (v : Option α) (r : T α)
/-- The way to a place. -/
inductive B where
  | z
  | o (b : B)
  | e (b : B)
noncomputable def bitsF (n : Nat) : Nat → B :=
  Nat.rec (motive := fun _ => Nat → B) (fun _ => .z)
    (fun _ ih k => Nat.rec (motive := fun _ => B) .z (fun m _ => Bool.rec (motive := fun _ => B) (.e (ih (Nat.div m 2))) (.o (ih (Nat.div m 2))) (Nat.beq (Nat.mod m 2) 0)) k) n
/-- Every number has a way of its own. -/
noncomputable def bits (k : Nat) : B := bitsF (Nat.succ k) k
noncomputable def T.getB {α : Type} (k : B) : T α → Option α :=
  B.rec (motive := fun _ => T α → Option α) (fun t => T.rec (motive := fun _ => Option α) none (fun _ v _ _ _ => v) t)
    (fun _ ih t => T.rec (motive := fun _ => Option α) none (fun l _ _ _ _ => ih l) t)
    (fun _ ih t => T.rec (motive := fun _ => Option α) none (fun _ _ r _ _ => ih r) t) k
noncomputable def T.get {α : Type} (t : T α) (k : Nat) : Option α := T.getB (bits k) t
noncomputable def T.setB {α β : Type} (k : B) : T α → α → (T α → Option β) → Option β :=
  B.rec (motive := fun _ => T α → α → (T α → Option β) → Option β) (fun t x ok => T.rec (motive := fun _ => Option β) (ok (.node .leaf (some x) .leaf)) (fun l _ r _ _ => ok (.node l (some x) r)) t)
    (fun _ ih t x ok => T.rec (motive := fun _ => Option β) (ih .leaf x (fun l' => ok (.node l' none .leaf))) (fun l v r _ _ => ih l x (fun l' => ok (.node l' v r))) t)
    (fun _ ih t x ok => T.rec (motive := fun _ => Option β) (ih .leaf x (fun r' => ok (.node .leaf none r'))) (fun l v r _ _ => ih r x (fun r' => ok (.node l v r'))) t) k
/-- A store, handed on. -/
noncomputable def T.setK {α β : Type} (t : T α) (k : Nat) (x : α) (ok : T α → Option β) : Option β := T.setB (bits k) t x ok
/-- A tree of some depth with one thing everywhere. -/
noncomputable def T.full {α : Type} (v : Option α) (d : Nat) : T α := Nat.rec (motive := fun _ => T α) .leaf (fun _ t => .node t v t) d

/-! ### Values -/
/-- Values: as the machine's, a block's number told by an id; 'g': a slice whose array grew by append (its capacity is not known); 'e', 'c': lists of values; 'm': a map. -/
inductive AV where
  | b (x : Bool)
  | i (k : IntKind) (n : Int)
  | s (x : ByteArray)
  | p (id off : Nat)
  | np
  | sl (id off len cap : Nat)
  | g (id len : Nat)
  | ns
  | f (fn : Nat) (caps : AV)
  | nf
  | it (t : Nat) (v : AV)
  | ni
  | ag (l : AV)
  | tu (l : AV)
  | e
  | c (x l : AV)
  | m (id : Nat)
inductive AO where
  | cells (elem size : Nat) (cs : T AV)
  | grow (elem len : Nat) (cs : T AV)
  | iter (s : ByteArray) (pos : Nat)
  | dead
  | ro (elem size : Nat) (cs : T AV)
  | map (es : AV)
structure AH where
  objs : T AO
  next : Nat
/-- What a run answers: a value and a heap. -/
abbrev R := Option (AV × AH)

section
variable {β : Type}
noncomputable def opt {α : Type} (x : Option α) (k : α → Option β) : Option β := Option.rec (motive := fun _ => Option β) none k x
noncomputable def when (x : Bool) (k : Option β) : Option β := Bool.rec (motive := fun _ => Option β) none k x
noncomputable def forceN (n : Nat) (k : Nat → Option β) : Option β := Nat.rec (motive := fun _ => Option β) (k 0) (fun m _ => k (Nat.succ m)) n
noncomputable def forceI (n : Int) (k : Int → Option β) : Option β := Int.rec (motive := fun _ => Option β) (fun m => forceN m fun m' => k (.ofNat m')) (fun m => forceN m fun m' => k (.negSucc m')) n
noncomputable def forceB (x : Bool) (k : Bool → Option β) : Option β := Bool.rec (motive := fun _ => Option β) (k false) (k true) x
end
section
variable (v : AV)
noncomputable def onB (k : Bool → R) : R := AV.rec (motive := fun _ => R) k (fun _ _ => none) (fun _ => none) (fun _ _ => none) none (fun _ _ _ _ => none) (fun _ _ => none) none (fun _ _ _ => none) none (fun _ _ _ => none) none (fun _ _ => none) (fun _ _ => none) none (fun _ _ _ _ => none) (fun _ => none) v
noncomputable def onI (k : IntKind → Int → R) : R := AV.rec (motive := fun _ => R) (fun _ => none) k (fun _ => none) (fun _ _ => none) none (fun _ _ _ _ => none) (fun _ _ => none) none (fun _ _ _ => none) none (fun _ _ _ => none) none (fun _ _ => none) (fun _ _ => none) none (fun _ _ _ _ => none) (fun _ => none) v
noncomputable def onS (k : ByteArray → R) : R := AV.rec (motive := fun _ => R) (fun _ => none) (fun _ _ => none) k (fun _ _ => none) none (fun _ _ _ _ => none) (fun _ _ => none) none (fun _ _ _ => none) none (fun _ _ _ => none) none (fun _ _ => none) (fun _ _ => none) none (fun _ _ _ _ => none) (fun _ => none) v
noncomputable def onP (k : Nat → Nat → R) : R := AV.rec (motive := fun _ => R) (fun _ => none) (fun _ _ => none) (fun _ => none) k none (fun _ _ _ _ => none) (fun _ _ => none) none (fun _ _ _ => none) none (fun _ _ _ => none) none (fun _ _ => none) (fun _ _ => none) none (fun _ _ _ _ => none) (fun _ => none) v
noncomputable def onM (k : Nat → R) : R := AV.rec (motive := fun _ => R) (fun _ => none) (fun _ _ => none) (fun _ => none) (fun _ _ => none) none (fun _ _ _ _ => none) (fun _ _ => none) none (fun _ _ _ => none) none (fun _ _ _ => none) none (fun _ _ => none) (fun _ _ => none) none (fun _ _ _ _ => none) k v
/-- A slice: known (sl), grown (g), nil. -/
noncomputable def onSl (sl : Nat → Nat → Nat → Nat → R) (g : Nat → Nat → R) (ns : R) : R := AV.rec (motive := fun _ => R) (fun _ => none) (fun _ _ => none) (fun _ => none) (fun _ _ => none) none sl g ns (fun _ _ _ => none) none (fun _ _ _ => none) none (fun _ _ => none) (fun _ _ => none) none (fun _ _ _ _ => none) (fun _ => none) v
/-- A slice or a string. -/
noncomputable def onLen (s : ByteArray → R) (sl : Nat → Nat → Nat → Nat → R) (g : Nat → Nat → R) (ns : R) : R := AV.rec (motive := fun _ => R) (fun _ => none) (fun _ _ => none) s (fun _ _ => none) none sl g ns (fun _ _ _ => none) none (fun _ _ _ => none) none (fun _ _ => none) (fun _ _ => none) none (fun _ _ _ _ => none) (fun _ => none) v
noncomputable def onF (k : Nat → AV → R) : R := AV.rec (motive := fun _ => R) (fun _ => none) (fun _ _ => none) (fun _ => none) (fun _ _ => none) none (fun _ _ _ _ => none) (fun _ _ => none) none (fun f caps _ => k f caps) none (fun _ _ _ => none) none (fun _ _ => none) (fun _ _ => none) none (fun _ _ _ _ => none) (fun _ => none) v
noncomputable def onIt (k : Nat → AV → R) : R := AV.rec (motive := fun _ => R) (fun _ => none) (fun _ _ => none) (fun _ => none) (fun _ _ => none) none (fun _ _ _ _ => none) (fun _ _ => none) none (fun _ _ _ => none) none (fun t v _ => k t v) none (fun _ _ => none) (fun _ _ => none) none (fun _ _ _ _ => none) (fun _ => none) v
noncomputable def onTu (k : AV → R) : R := AV.rec (motive := fun _ => R) (fun _ => none) (fun _ _ => none) (fun _ => none) (fun _ _ => none) none (fun _ _ _ _ => none) (fun _ _ => none) none (fun _ _ _ => none) none (fun _ _ _ => none) none (fun _ _ => none) (fun l _ => k l) none (fun _ _ _ _ => none) (fun _ => none) v
/-- What nilCheck lets by: a pointer, a function. -/
noncomputable def onNc (k : AV → R) : R := AV.rec (motive := fun _ => R) (fun _ => none) (fun _ _ => none) (fun _ => none) (fun a b => k (.p a b)) none (fun _ _ _ _ => none) (fun _ _ => none) none (fun f caps _ => k (.f f caps)) none (fun _ _ _ => none) none (fun _ _ => none) (fun _ _ => none) none (fun _ _ _ _ => none) (fun _ => none) v
/-- An aggregate's cells, or one cell. -/
noncomputable def onBox (ag : AV → R) (sc : R) : R := AV.rec (motive := fun _ => R) (fun _ => sc) (fun _ _ => sc) (fun _ => sc) (fun _ _ => sc) sc (fun _ _ _ _ => sc) (fun _ _ => sc) sc (fun _ _ _ => sc) sc (fun _ _ _ => sc) sc (fun l _ => ag l) (fun _ _ => none) none (fun _ _ _ _ => none) (fun _ => sc) v
/-- A value of one cell. -/
noncomputable def scalar : Bool := AV.rec (motive := fun _ => Bool) (fun _ => true) (fun _ _ => true) (fun _ => true) (fun _ _ => true) true (fun _ _ _ _ => true) (fun _ _ => true) true (fun _ _ _ => true) true (fun _ _ _ => true) true (fun _ _ => false) (fun _ _ => false) false (fun _ _ _ _ => false) (fun _ => true) v
/-- A list: empty, or a head and a tail. -/
noncomputable def onL {β : Type} (e : Option β) (c : AV → AV → Option β) : Option β := AV.rec (motive := fun _ => Option β) (fun _ => none) (fun _ _ => none) (fun _ => none) (fun _ _ => none) none (fun _ _ _ _ => none) (fun _ _ => none) none (fun _ _ _ => none) none (fun _ _ _ => none) none (fun _ _ => none) (fun _ _ => none) e (fun x l _ _ => c x l) (fun _ => none) v
end

/-! ### Operands -/
noncomputable def ofVal (v : Value) : Option AV :=
  match v with
  | .bool x => some (.b x)
  | .int k n => some (.i k n)
  | .string x => some (.s x)
  | .pointer none => some .np
  | .slice none 0 0 => some .ns
  | .nilFunc => some .nf
  | .nilIface => some .ni
  | _ => none
noncomputable def oe (rg : T AV) (x : Operand) (k : AV → R) : R :=
  Operand.rec (motive := fun _ => R) (fun t => opt (T.get rg t) k) (fun v => opt (ofVal v) k) (fun _ => none) (fun f => k (.f f .e)) x
noncomputable def isC (x : Operand) : Bool := Operand.rec (motive := fun _ => Bool) (fun _ => false) (fun _ => true) (fun _ => false) (fun _ => false) x
/-- Operands in a row, as a list. -/
noncomputable def oes (rg : T AV) (l : List Operand) : (AV → R) → R :=
  List.rec (motive := fun _ => (AV → R) → R) (fun k => k .e) (fun x _ ih k => oe rg x fun v => ih fun vs => k (.c v vs)) l

/-! ### Numbers -/
noncomputable def kn (k : IntKind) : Nat := IntKind.rec (motive := fun _ => Nat) 0 1 2 3 4 5 6 7 k
noncomputable def top (k : IntKind) : Nat := IntKind.rec (motive := fun _ => Nat) 0 0 0 9223372036854775808 256 0 0 0 k
noncomputable def slowK (k : IntKind) (n : Int) (ok : AV → R) : R := forceI (k.wrap n) fun n => ok (.i k n)
/-- A number from 0 on, wrapped. -/
noncomputable def wrapN (k : IntKind) (m : Nat) (ok : AV → R) : R := Bool.rec (motive := fun _ => R) (slowK k (.ofNat m) ok) (forceN m fun m => ok (.i k (.ofNat m))) (Nat.blt m (top k))
noncomputable def nat2 (x y : Int) (fast : Nat → Nat → R) (slow : R) : R :=
  Int.rec (motive := fun _ => R) (fun a => Int.rec (motive := fun _ => R) (fun b => fast a b) (fun _ => slow) y) (fun _ => slow) x
noncomputable def iLt (a b : Int) : Bool :=
  Int.rec (motive := fun _ => Bool) (fun m => Int.rec (motive := fun _ => Bool) (fun n => Nat.blt m n) (fun _ => false) b)
    (fun m => Int.rec (motive := fun _ => Bool) (fun _ => true) (fun n => Nat.blt n m) b) a
noncomputable def iEq (a b : Int) : Bool :=
  Int.rec (motive := fun _ => Bool) (fun m => Int.rec (motive := fun _ => Bool) (fun n => Nat.beq m n) (fun _ => false) b)
    (fun m => Int.rec (motive := fun _ => Bool) (fun _ => false) (fun n => Nat.beq m n) b) a
section
variable (ka kb : IntKind) (x y : Int) (k : AV → R)
noncomputable def same (r : R) : R := when (Nat.beq (kn ka) (kn kb)) r
noncomputable def boolK (t : Bool) : R := forceB t fun t => k (.b t)
noncomputable def bitK (f : BitVec ka.bits → BitVec ka.bits → BitVec ka.bits) : R := slowK ka (f (BitVec.ofInt ka.bits x) (BitVec.ofInt ka.bits y)).toNat k
noncomputable def addK : R := nat2 x y (fun a b => wrapN ka (Nat.add a b) k) (slowK ka (x + y) k)
noncomputable def subK : R := nat2 x y (fun a b => Bool.rec (motive := fun _ => R) (slowK ka (x - y) k) (wrapN ka (Nat.sub a b) k) (Nat.ble b a)) (slowK ka (x - y) k)
noncomputable def mulK : R := nat2 x y (fun a b => wrapN ka (Nat.mul a b) k) (slowK ka (x * y) k)
noncomputable def quoK : R := Bool.rec (motive := fun _ => R) (slowK ka (x.tdiv y) k) none (iEq y 0)
noncomputable def remK : R := Bool.rec (motive := fun _ => R) (forceI (x.tmod y) fun n => k (.i ka n)) none (iEq y 0)
noncomputable def shlK : R := Bool.rec (motive := fun _ => R) (slowK ka (x * 2 ^ min y.toNat ka.bits) k) none (iLt y 0)
noncomputable def shrK : R := Bool.rec (motive := fun _ => R) (forceI (x.fdiv (2 ^ min y.toNat ka.bits)) fun n => k (.i ka n)) none (iLt y 0)
noncomputable def intK (op : BinOp) : R :=
  BinOp.rec (motive := fun _ => R) (same ka kb (addK ka x y k)) (same ka kb (subK ka x y k)) (same ka kb (mulK ka x y k)) (same ka kb (quoK ka x y k)) (same ka kb (remK ka x y k))
    (same ka kb (bitK ka x y k fun a b => a &&& b)) (same ka kb (bitK ka x y k fun a b => a ||| b)) (same ka kb (bitK ka x y k fun a b => a ^^^ b)) (shlK ka x y k) (shrK ka x y k) none
    (same ka kb (boolK k (iEq x y))) (same ka kb (boolK k (!iEq x y))) (same ka kb (boolK k (iLt x y))) (same ka kb (boolK k (!iLt y x))) (same ka kb (boolK k (iLt y x))) (same ka kb (boolK k (!iLt x y))) op
end
/-- '==' and '!=' alone. -/
noncomputable def eqK (op : BinOp) (t : Bool) (k : AV → R) : R :=
  BinOp.rec (motive := fun _ => R) none none none none none none none none none none none (boolK k t) (boolK k (!t)) none none none none op
def isPtr : Option TypeDesc → Bool
  | some (.pointer _) => true
  | _ => false
def isIface : Option TypeDesc → Bool
  | some (.interface _) => true
  | _ => false
noncomputable def bop (P : Program) (op : BinOp) (xt : Nat) (c : Bool) (a b : AV) (k : AV → R) : R :=
  AV.rec (motive := fun _ => R) (fun _ => none) (fun ka x => onI b fun kb y => intK ka kb x y k op) (fun x => onS b fun y => eqK op (x.data.toList == y.data.toList) k)
    (fun _ _ => AV.rec (motive := fun _ => R) (fun _ => none) (fun _ _ => none) (fun _ => none) (fun _ _ => none) (when (isPtr (P.underlying xt)) (eqK op false k)) (fun _ _ _ _ => none) (fun _ _ => none) none (fun _ _ _ => none) none (fun _ _ _ => none) none (fun _ _ => none) (fun _ _ => none) none (fun _ _ _ _ => none) (fun _ => none) b)
    (AV.rec (motive := fun _ => R) (fun _ => none) (fun _ _ => none) (fun _ => none) (fun _ _ => when (isPtr (P.underlying xt)) (eqK op false k)) (when (isPtr (P.underlying xt)) (eqK op true k)) (fun _ _ _ _ => none) (fun _ _ => none) none (fun _ _ _ => none) none (fun _ _ _ => none) none (fun _ _ => none) (fun _ _ => none) none (fun _ _ _ _ => none) (fun _ => none) b)
    (fun _ _ _ _ => none) (fun _ _ => none) none (fun _ _ _ => none) none
    (fun _ _ _ => AV.rec (motive := fun _ => R) (fun _ => none) (fun _ _ => none) (fun _ => none) (fun _ _ => none) none (fun _ _ _ _ => none) (fun _ _ => none) none (fun _ _ _ => none) none (fun _ _ _ => none) (when (isIface (P.underlying xt)) (eqK op false k)) (fun _ _ => none) (fun _ _ => none) none (fun _ _ _ _ => none) (fun _ => none) b)
    (AV.rec (motive := fun _ => R) (fun _ => none) (fun _ _ => none) (fun _ => none) (fun _ _ => none) none (fun _ _ _ _ => none) (fun _ _ => none) none (fun _ _ _ => none) none (fun _ _ _ => when (isIface (P.underlying xt)) (eqK op false k)) (when (c && isIface (P.underlying xt)) (eqK op true k)) (fun _ _ => none) (fun _ _ => none) none (fun _ _ _ _ => none) (fun _ => none) b)
    (fun _ _ => none) (fun _ _ => none) none (fun _ _ _ _ => none) (fun _ => none) a

/-! ### Types -/
/-- Does a type take one cell? -/
def one (P : Program) (t : Nat) : Bool :=
  match P.info? t, P.underlying t with
  | some _, some (.struct _) => false
  | some _, some (.array _ _) => false
  | some i, some _ => i.size == 1
  | _, _ => false
def elemOf (P : Program) (t : Nat) : Option Nat :=
  match P.underlying t with
  | some (.slice e) => some e
  | _ => none
def isU8 (P : Program) (t : Nat) : Bool :=
  match P.underlying t with
  | some (.int .u8) => true
  | _ => false
def isSlice (P : Program) (t : Nat) : Bool :=
  match P.underlying t with
  | some (.slice _) => true
  | _ => false
/-- A struct's size. -/
def structSize (P : Program) (t : Nat) : Option Nat :=
  match P.underlying t with
  | some (.struct _) => (P.info? t).map (·.size)
  | _ => none
/-- A map from int (64 bits) to elements of one cell. -/
def mapElem (P : Program) (t : Nat) : Option Nat :=
  match P.underlying t with
  | some (.map k e) =>
    match P.underlying k with
    | some (.int .i64) => some e
    | _ => none
  | _ => none
/-- Elements of few bytes. -/
def small (P : Program) (t : Nat) : Bool :=
  match P.info? t with
  | some i => Nat.ble i.bytes 4096
  | none => false
def isStr (P : Program) (t : Nat) : Bool :=
  match P.underlying t with
  | some .string => true
  | _ => false
def fieldOff (P : Program) (s f : Nat) : Option Nat :=
  match P.underlying s with
  | some (.struct fs) =>
    match fs[f]? with
    | some fd => if one P fd.type then some fd.offset else none
    | none => none
  | _ => none
def intOf (P : Program) (src dst : Nat) : Option IntKind :=
  match P.underlying src, P.underlying dst with
  | some _, some (.int k) => some k
  | _, _ => none
def noIface (P : Program) (t : Nat) : Bool :=
  match P.underlying t with
  | some (.interface _) => false
  | some _ => true
  | none => false
/-- A struct type whose fields' sizes are all known. -/
def structOk (P : Program) (t : Nat) : Bool :=
  match P.underlying t with
  | some (.struct fs) => (fs.toList.mapM fun f => (P.info? f.type).map fun i => (f.offset, i.size)).isSome
  | _ => false
noncomputable def zero1 (P : Program) (t : Nat) : Option AV := ((P.info? t).bind (·.zero)).bind ofVal
/-- Zero cells, as a list of values. -/
noncomputable def zeroL (P : Program) (t : Nat) : Option (List AV) :=
  match (P.info? t).bind (·.zero) with
  | some (.agg cs) => cs.toList.mapM ofVal
  | _ => none
noncomputable def toAV (l : List AV) : AV := List.rec (motive := fun _ => AV) .e (fun x _ ih => .c x ih) l

/-! ### Operations that look at no memory -/
section
variable (P : Program) (rg : T AV) (k : AV → R)
noncomputable def pPick (c a b : Operand) : R := oe rg c fun v => onB v fun t => Bool.rec (motive := fun _ => R) (oe rg b k) (oe rg a k) t
noncomputable def pNil (x : Operand) : R := oe rg x fun v => onNc v k
/-- A slice, compared with nil. -/
noncomputable def eqNil (op : BinOp) (a b : AV) : R := onSl b (fun _ _ _ _ => none) (fun _ _ => none) (onSl a (fun _ _ _ _ => eqK op false k) (fun _ _ => eqK op false k) (eqK op true k))
noncomputable def pBin (op : BinOp) (xt : Nat) (x y : Operand) : R := oe rg x fun a => oe rg y fun b => Bool.rec (motive := fun _ => R) (bop P op xt (isC x || isC y) a b k) (eqNil k op a b) (isSlice P xt)
/-- A byte of a string. -/
noncomputable def pIdx (t : Nat) (x ix : Operand) : R :=
  when (isStr P t) (oe rg x fun v => oe rg ix fun w => onS v fun s => onI w fun _ n => nat2 n 0 (fun m _ => opt (s[m]?) fun b => forceN b.toNat fun c => k (.i .u8 (.ofNat c))) none)
/-- A piece of a string. -/
noncomputable def pSub (t : Nat) (x : Operand) (lo hi : Option Operand) : R :=
  when (isStr P t) (oe rg x fun v => onS v fun s => opt lo fun lo => opt hi fun hi => oe rg lo fun i => oe rg hi fun j => onI i fun _ i => onI j fun _ j => nat2 i j (fun i j => when (Nat.ble i j) (when (Nat.ble j s.size) (k (.s (s.extract i j))))) none)
noncomputable def pMin (x y : Operand) : R := oe rg x fun v => oe rg y fun w => onI v fun ka a => onI w fun kb b => same ka kb (Bool.rec (motive := fun _ => R) (k (.i ka a)) (k (.i ka b)) (iLt b a))
noncomputable def pNot (op : UnOp) (x : Operand) : R := when (op == .not) (oe rg x fun v => onB v fun t => boolK k (!t))
noncomputable def pConv (src dst : Nat) (x : Operand) : R := oe rg x fun v => onI v fun _ n => opt (intOf P src dst) fun kd => nat2 n 0 (fun m _ => wrapN kd m k) (slowK kd n k)
noncomputable def pIface (t : Nat) (x : Operand) : R := oe rg x fun v => when (noIface P t) (k (.it t v))
noncomputable def fnOf (fn : Fn) : Option Nat :=
  match fn with
  | .func f => some f
  | _ => none
noncomputable def pFunc (fn : Fn) (first caps : Array Operand) : R := opt (fnOf fn) fun f => when (Nat.beq first.size 0) (oes rg caps.toList fun l => k (.f f l))
noncomputable def pField (s : Nat) (x : Operand) (f : Nat) : R := oe rg x fun v => onP v fun id off => opt (fieldOff P s f) fun d => forceN (Nat.add off d) fun off => k (.p id off)
noncomputable def pIndex (t : Nat) (x ix : Operand) : R :=
  opt (elemOf P t) fun e => Bool.rec (motive := fun _ => R)
    (opt (structSize P e) fun sz => oe rg x fun v => oe rg ix fun w => onI w fun _ n => nat2 n 0 (fun m _ => onSl v (fun id off len _ => when (Nat.blt m len) (forceN (Nat.add off (Nat.mul m sz)) fun o => k (.p id o))) (fun _ _ => none) none) none)
    (oe rg x fun v => oe rg ix fun w => onI w fun _ n => nat2 n 0 (fun m _ =>
      onSl v (fun id off len _ => when (Nat.blt m len) (forceN (Nat.add off m) fun o => k (.p id o))) (fun id len => when (Nat.blt m len) (k (.p id m))) none) none) (one P e)
noncomputable def nth (n : Nat) : AV → R := Nat.rec (motive := fun _ => AV → R) (fun l => onL l none fun x _ => k x) (fun _ ih l => onL l none fun _ l => ih l) n
noncomputable def pExt (x : Operand) (ix : Nat) : R := oe rg x fun v => onTu v fun l => nth k ix l
/-- Parts of one cell laid into zero cells. -/
noncomputable def setNth (n : Nat) (x : AV) : AV → (AV → R) → R :=
  Nat.rec (motive := fun _ => AV → (AV → R) → R) (fun l k => onL l none fun _ l => k (.c x l)) (fun _ ih l k => onL l none fun y l => ih l fun l => k (.c y l)) n
noncomputable def fillS (s : Nat) (l : List (Nat × Operand)) : AV → (AV → R) → R :=
  List.rec (motive := fun _ => AV → (AV → R) → R) (fun cs k => k cs)
    (fun ix _ ih cs k => opt (fieldOff P s ix.1) fun d => oe rg ix.2 fun v => when (scalar v) (setNth d v cs fun cs => ih cs k)) l
noncomputable def pBuild (t : Nat) (parts : Array (Nat × Operand)) : R := opt (zeroL P t) fun z => when (structOk P t) (fillS P rg t parts.toList (toAV z) fun l => k (.ag l))
noncomputable def pLen (x : Operand) (t : Nat) : R :=
  oe rg x fun v => onLen v (fun x => when (isStr P t) (forceN x.size fun n => k (.i .i64 (.ofNat n)))) (fun _ _ len _ => opt (elemOf P t) fun _ => k (.i .i64 (.ofNat len)))
    (fun _ len => opt (elemOf P t) fun _ => k (.i .i64 (.ofNat len))) (opt (elemOf P t) fun _ => k (.i .i64 (.ofNat 0)))
end

/-! ### Loads -/
noncomputable def AO.at (o : AO) (off : Nat) : Option AV :=
  AO.rec (motive := fun _ => Option AV) (fun _ size cs => Bool.rec (motive := fun _ => Option AV) none (T.get cs off) (Nat.blt off size)) (fun _ len cs => Bool.rec (motive := fun _ => Option AV) none (T.get cs off) (Nat.blt off len)) (fun _ _ => none) none
    (fun _ size cs => Bool.rec (motive := fun _ => Option AV) none (T.get cs off) (Nat.blt off size)) (fun _ => none) o
/-- The cells of a block from a place on, that many, as a list. -/
noncomputable def takeL (o : AO) (n : Nat) : Nat → (AV → R) → R :=
  Nat.rec (motive := fun _ => Nat → (AV → R) → R) (fun _ k => k .e) (fun _ ih off k => opt (AO.at o off) fun v => forceN (Nat.succ off) fun off => ih off fun l => k (.c v l)) n
noncomputable def loadV (P : Program) (rg : T AV) (h : AH) (t : Nat) (x : Operand) (k : AV → R) : R :=
  oe rg x fun v => onP v fun id off => Bool.rec (motive := fun _ => R) (opt (structSize P t) fun sz => opt (T.get h.objs id) fun o => takeL o sz off fun l => k (.ag l)) (opt (T.get h.objs id) fun o => opt (AO.at o off) k) (one P t)

/-! ### Operations that write -/
noncomputable def setR (nt : Nat) (rg : T AV) (dst : Option Tmp) (v : AV) (k : T AV → R) : R :=
  Option.rec (motive := fun _ => R) (k rg) (fun d => when (Nat.blt d nt) (T.setK rg d v k)) dst
noncomputable def newO (h : AH) (o : AO) (k : Nat → AH → R) : R := T.setK h.objs h.next o fun t => forceN (Nat.succ h.next) fun n => k h.next ⟨t, n⟩
noncomputable def onCells (o : AO) (k : Nat → Nat → T AV → R) : R := AO.rec (motive := fun _ => R) k (fun _ _ _ => none) (fun _ _ => none) none (fun _ _ _ => none) (fun _ => none) o
noncomputable def onGrow (o : AO) (k : Nat → Nat → T AV → R) : R := AO.rec (motive := fun _ => R) (fun _ _ _ => none) k (fun _ _ => none) none (fun _ _ _ => none) (fun _ => none) o
noncomputable def onIter (o : AO) (k : ByteArray → Nat → R) : R := AO.rec (motive := fun _ => R) (fun _ _ _ => none) (fun _ _ _ => none) k none (fun _ _ _ => none) (fun _ => none) o
noncomputable def onMap (o : AO) (k : AV → R) : R := AO.rec (motive := fun _ => R) (fun _ _ _ => none) (fun _ _ _ => none) (fun _ _ => none) none (fun _ _ _ => none) k o
def depthC : Nat := 9
/-- Scalars laid in a row from a place on; what follows gets the place behind them. -/
noncomputable def putL (l : AV) : T AV → Nat → (T AV → Nat → R) → R :=
  AV.rec (motive := fun _ => T AV → Nat → (T AV → Nat → R) → R) (fun _ _ _ _ => none) (fun _ _ _ _ _ => none) (fun _ _ _ _ => none) (fun _ _ _ _ _ => none) (fun _ _ _ => none) (fun _ _ _ _ _ _ _ => none) (fun _ _ _ _ _ => none) (fun _ _ _ => none) (fun _ _ _ _ _ _ => none) (fun _ _ _ => none) (fun _ _ _ _ _ _ => none) (fun _ _ _ => none) (fun _ _ _ _ _ => none) (fun _ _ _ _ _ => none)
    (fun cs off k => k cs off) (fun x _ _ ih cs off k => when (scalar x) (T.setK cs off x fun cs => forceN (Nat.succ off) fun off => ih cs off k)) (fun _ _ _ _ => none) l
noncomputable def partsL (rg : T AV) (len : Nat) (l : List (Nat × Operand)) : T AV → (T AV → R) → R :=
  List.rec (motive := fun _ => T AV → (T AV → R) → R) (fun cs k => k cs) (fun ix _ ih cs k => oe rg ix.2 fun v => when (scalar v) (when (Nat.blt ix.1 len) (T.setK cs ix.1 v fun cs => ih cs k))) l
/-- One list behind another. -/
noncomputable def appK (l m : AV) : (AV → R) → R :=
  AV.rec (motive := fun _ => (AV → R) → R) (fun _ _ => none) (fun _ _ _ => none) (fun _ _ => none) (fun _ _ _ => none) (fun _ => none) (fun _ _ _ _ _ => none) (fun _ _ _ => none) (fun _ => none) (fun _ _ _ _ => none) (fun _ => none) (fun _ _ _ _ => none) (fun _ => none) (fun _ _ _ => none) (fun _ _ _ => none)
    (fun k => k m) (fun x _ _ ih k => ih fun r => k (.c x r)) (fun _ _ => none) l
noncomputable def onAg (v : AV) (k : AV → R) : R := onBox v k none
/-- Structs of one size laid in a row. -/
noncomputable def partsA (rg : T AV) (len sz : Nat) (l : List (Nat × Operand)) : T AV → (T AV → R) → R :=
  List.rec (motive := fun _ => T AV → (T AV → R) → R) (fun cs k => k cs)
    (fun ix _ ih cs k => oe rg ix.2 fun v => onAg v fun m => when (Nat.blt ix.1 len) (putL m cs (Nat.mul ix.1 sz) fun cs n => when (Nat.beq n (Nat.mul (Nat.succ ix.1) sz)) (ih cs k))) l
/-- The bytes of a list. -/
noncomputable def strL (l : AV) : ByteArray → (ByteArray → R) → R :=
  AV.rec (motive := fun _ => ByteArray → (ByteArray → R) → R) (fun _ _ _ => none) (fun _ _ _ _ => none) (fun _ _ _ => none) (fun _ _ _ _ => none) (fun _ _ => none) (fun _ _ _ _ _ _ => none) (fun _ _ _ _ => none) (fun _ _ => none) (fun _ _ _ _ _ => none) (fun _ _ => none) (fun _ _ _ _ _ => none) (fun _ _ => none) (fun _ _ _ _ => none) (fun _ _ _ _ => none)
    (fun s k => k s) (fun x _ _ ih s k => onI x fun kd n => when (Nat.beq (kn kd) 4) (nat2 n 0 (fun m _ => ih (s.push (UInt8.ofNat m)) k) none)) (fun _ _ _ => none) l
noncomputable def bytesL (s : ByteArray) : AV := toAV (s.data.toList.map fun b => .i .u8 (.ofNat b.toNat))
noncomputable def onL2' (l : AV) (k : AV → AV → R) : R := onL l none fun x m => onL m none fun y r => onL r (k x y) fun _ _ => none
/-- A map's entry: pairs of a key and a value. -/
noncomputable def findM (l : AV) (n : Int) : (Option AV → R) → R :=
  AV.rec (motive := fun _ => (Option AV → R) → R) (fun _ _ => none) (fun _ _ _ => none) (fun _ _ => none) (fun _ _ _ => none) (fun _ => none) (fun _ _ _ _ _ => none) (fun _ _ _ => none) (fun _ => none) (fun _ _ _ _ => none) (fun _ => none) (fun _ _ _ _ => none) (fun _ => none) (fun _ _ _ => none) (fun _ _ _ => none)
    (fun k => k none) (fun x _ _ ih k => onTu x fun en => onL2' en fun a v => onI a fun _ m => Bool.rec (motive := fun _ => R) (ih k) (k (some v)) (iEq m n)) (fun _ _ => none) l
section
variable (P : Program) (nt : Nat) (rg : T AV) (h : AH) (dst : Option Tmp) (k : T AV → AH → R)
noncomputable def wNew (o : AO) (v : Nat → AV) : R := newO h o fun id h => setR nt rg dst (v id) fun rg => k rg h
noncomputable def wObj (id : Nat) (o : AO) (v : AV) : R := T.setK h.objs id o fun ob => setR nt rg dst v fun rg => k rg ⟨ob, h.next⟩
noncomputable def wStore (t : Nat) (a x : Operand) : R :=
  oe rg a fun p => oe rg x fun v => onP p fun id off => opt (T.get h.objs id) fun o => onCells o fun e size cs => Bool.rec (motive := fun _ => R)
    (opt (structSize P t) fun sz => onAg v fun l => putL l cs off fun cs n => when (Nat.beq n (Nat.add off sz)) (when (Nat.ble n size) (wObj nt rg h dst k id (.cells e size cs) (.tu .e))))
    (when (scalar v) (when (Nat.blt off size) (T.setK cs off v fun cs => wObj nt rg h dst k id (.cells e size cs) (.tu .e)))) (one P t)
noncomputable def wAlloc (t : Nat) : R :=
  Bool.rec (motive := fun _ => R) (opt (structSize P t) fun sz => opt (zeroL P t) fun z => putL (toAV z) .leaf 0 fun cs n => when (Nat.beq n sz) (wNew nt rg h dst k (.cells t sz cs) fun id => .p id 0))
    (opt (zero1 P t) fun z => wNew nt rg h dst k (.cells t 1 (T.full (some z) 1)) fun id => .p id 0) (one P t)
noncomputable def wBox (t : Nat) (x : Operand) : R :=
  oe rg x fun v => onBox v (fun l => putL l (T.full none depthC) 0 fun cs n => wNew nt rg h dst k (.cells t n cs) fun id => .p id 0) (wNew nt rg h dst k (.cells t 1 (T.full (some v) 1)) fun id => .p id 0)
noncomputable def wBuild (t len : Nat) (parts : Array (Nat × Operand)) : R :=
  opt (elemOf P t) fun e => when (Nat.blt len 100000) (Bool.rec (motive := fun _ => R)
    (opt (structSize P e) fun sz => when (Nat.beq parts.size len) (when (Nat.blt sz 100) (opt (zeroL P e) fun z => when (Nat.beq z.length sz) (partsA rg len sz parts.toList .leaf fun cs => wNew nt rg h dst k (.cells e (Nat.mul len sz) cs) fun id => .sl id 0 len len))))
    (opt (zero1 P e) fun z => partsL rg len parts.toList (T.full (some z) depthC) fun cs => wNew nt rg h dst k (.cells e len cs) fun id => .sl id 0 len len) (one P e))
noncomputable def wMake (t : Nat) (l c : Operand) : R :=
  opt (elemOf P t) fun e => when (one P e && small P e) (oe rg l fun l => oe rg c fun c => onI l fun kl l => onI c fun kc c => when (Nat.beq (kn kl) 3) (when (Nat.beq (kn kc) 3) (nat2 l c (fun l c => when (Nat.ble l c) (when (Nat.blt c 100000)
    (opt (zero1 P e) fun z => wNew nt rg h dst k (.cells e c (T.full (some z) depthC)) fun id => .sl id 0 l c))) none)))
/-- Onto a slice whose capacity is known: within it, or into a new array. -/
noncomputable def wIn (e id off len cap : Nat) (l : AV) : R :=
  when (Nat.beq off 0) (opt (T.get h.objs id) fun o => onCells o fun e' size cs => when (Nat.beq e e') (when (Nat.ble len size) (putL l cs len fun cs n => Bool.rec (motive := fun _ => R)
    (when (Nat.ble len cap) (when (Nat.blt n 100000) (wNew nt rg h dst k (.grow e n cs) fun id => .g id n))) (when (Nat.ble n size) (wObj nt rg h dst k id (.cells e' size cs) (.sl id 0 n cap))) (Nat.ble n cap))))
/-- Onto a nil slice. -/
noncomputable def wFirst (e : Nat) (l : AV) : R := onL l none fun _ _ => putL l (T.full none depthC) 0 fun cs n => when (Nat.blt n 100000) <| wNew nt rg h dst k (.grow e n cs) fun id => .g id n
/-- Onto a slice that grew. -/
noncomputable def wMore (e id len xid : Nat) (l : AV) : R :=
  onL l none fun _ _ => opt (T.get h.objs id) fun o => onGrow o fun e' len' cs => when (Nat.beq len len') (when (Nat.beq e e') (when (!(Nat.beq id xid)) (putL l cs len fun cs n => when (Nat.blt n 100000) (T.setK h.objs id .dead fun ob => wNew nt rg ⟨ob, h.next⟩ dst k (.grow e n cs) fun id => .g id n))))
noncomputable def wAppend (t t' : Nat) (s x : Operand) : R :=
  opt (elemOf P t) fun e => when (one P e && small P e) (when (Nat.beq t t') (opt (zero1 P e) fun _ => oe rg s fun s => oe rg x fun x => onSl x (fun xid xoff xlen _ => opt (T.get h.objs xid) fun xo => takeL xo xlen xoff fun l =>
    onSl s (fun id off len cap => wIn nt rg h dst k e id off len cap l) (fun id len => wMore nt rg h dst k e id len xid l) (wFirst nt rg h dst k e l))
    (fun xid xlen => opt (T.get h.objs xid) fun xo => takeL xo xlen 0 fun l =>
      onSl s (fun id off len cap => wIn nt rg h dst k e id off len cap l) (fun id len => wMore nt rg h dst k e id len xid l) (wFirst nt rg h dst k e l)) none))
/-- Bytes as a string, a string as bytes, a number as a number. -/
noncomputable def wConv (s d : Nat) (x : Operand) : R :=
  Option.rec (motive := fun _ => R)
    (oe rg x fun v => Bool.rec (motive := fun _ => R)
      (when (isStr P s) (opt (elemOf P d) fun e => when (isU8 P e) (onS v fun s => putL (bytesL s) .leaf 0 fun cs _ => wNew nt rg h dst k (.ro e s.size cs) fun id => .g id s.size)))
      (opt (elemOf P s) fun e => when (isU8 P e) (onSl v (fun id off len _ => opt (T.get h.objs id) fun o => takeL o len off fun l => strL l ⟨#[]⟩ fun s => setR nt rg dst (.s s) fun rg => k rg h)
        (fun id len => opt (T.get h.objs id) fun o => takeL o len 0 fun l => strL l ⟨#[]⟩ fun s => setR nt rg dst (.s s) fun rg => k rg h) none)) (isStr P d))
    (fun _ => pConv P rg (fun v => setR nt rg dst v fun rg => k rg h) s d x) (Vm.intOf P s d)
noncomputable def wMap (t : Nat) (r : Option Operand) : R := opt (mapElem P t) fun _ => Option.rec (motive := fun _ => R) (wNew nt rg h dst k (.map .e) fun id => .m id) (fun _ => none) r
noncomputable def wInsert (t : Nat) (m key x : Operand) : R :=
  opt (mapElem P t) fun _ => oe rg m fun m => onM m fun id => oe rg key fun a => onI a fun kd n => when (Nat.beq (kn kd) 3) (oe rg x fun v => when (scalar v) (opt (T.get h.objs id) fun o => onMap o fun es => findM es n fun f =>
    Option.rec (motive := fun _ => R) (appK es (.c (.tu (.c (.i kd n) (.c v .e))) .e) fun es => wObj nt rg h dst k id (.map es) (.tu .e)) (fun _ => none) f))
noncomputable def wLookup (t : Nat) (m key : Operand) (commaOk : Bool) : R :=
  when (!commaOk) (opt (mapElem P t) fun _ => oe rg m fun m => onM m fun id => oe rg key fun a => onI a fun kd n => when (Nat.beq (kn kd) 3) (opt (T.get h.objs id) fun o => onMap o fun es => findM es n fun f => opt f fun v => setR nt rg dst v fun rg => k rg h))
noncomputable def wRange (t : Nat) (x : Operand) : R := when (isStr P t) (oe rg x fun v => onS v fun x => wNew nt rg h dst k (.iter x 0) fun id => .p id 0)
noncomputable def wNext (it : Operand) (isString : Bool) : R :=
  when isString (oe rg it fun v => onP v fun id off => when (Nat.beq off 0) (opt (T.get h.objs id) fun o => onIter o fun s pos =>
    Bool.rec (motive := fun _ => R) (setR nt rg dst (.tu (.c (.b false) .e)) fun rg => k rg h)
      (forceN (Utf8.decode s pos).1 fun c => forceN (Nat.add pos (Utf8.decode s pos).2) fun pos' => wObj nt rg h dst k id (.iter s pos') (.tu (.c (.b true) (.c (.i .i64 (.ofNat pos)) (.c (.i .i32 (.ofNat c)) .e))))) (Nat.blt pos s.size)))
end

/-! ### Calls -/
/-- How a function is called: its number, the arguments, the heap, what follows. -/
abbrev Caller := Nat → AV → AH → (AV → AH → R) → R
noncomputable def cValue (rg : T AV) (f : Operand) (args : List Operand) (k : Nat → AV → R) : R := oe rg f fun v => onF v fun f caps => oes rg args fun l => appK l caps fun l => k f l
/-- The method of a struct type, by its name: its number. -/
def methodOf (P : Program) (t : Nat) (name : String) : Option Nat :=
  match (P.info? t).bind (fun i => i.methods.find? (·.name == name)), P.underlying t with
  | some m, some (.struct _) =>
    match m.path.size, m.func with
    | 0, some (f, false) => some f
    | _, _ => none
  | _, _ => none
noncomputable def cInvoke (P : Program) (rg : T AV) (x : Operand) (name : String) (args : List Operand) (k : Nat → AV → R) : R :=
  oe rg x fun v => onIt v fun t v => opt (methodOf P t name) fun f => oes rg args fun l => k f (.c v l)

/-- Is an operation carried out? -/
noncomputable def want (ops : Array Oper) (rg : T AV) (g : Option (Nat × Bool)) (yes no : R) : R :=
  Option.rec (motive := fun _ => R) yes (fun jx => opt ((ops[jx.1]?).bind (·.dst)) fun d => opt (T.get rg d) fun v =>
    AV.rec (motive := fun _ => R) (fun y => Bool.rec (motive := fun _ => R) (Bool.rec (motive := fun _ => R) yes no jx.2) (Bool.rec (motive := fun _ => R) no yes jx.2) y)
      (fun _ _ => no) (fun _ => no) (fun _ _ => no) no (fun _ _ _ _ => no) (fun _ _ => no) no (fun _ _ _ => no) no (fun _ _ _ => no) no (fun _ _ => no) (fun _ _ => no) none (fun _ _ _ _ => none) (fun _ => no) v) g

inductive AX where
  | normal
  | exit (id : Nat)
  | ret

def isLen : Builtin → Bool
  | .len => true
  | _ => false
def isMin : Builtin → Bool
  | .min => true
  | _ => false
def isAppend : Builtin → Bool
  | .append => true
  | _ => false
def arg1 {α : Type} : List α → Option α
  | [x] => some x
  | _ => none
def arg2 {α : Type} : List α → Option (α × α)
  | [x, y] => some (x, y)
  | _ => none
section
variable (P : Program) (nt : Nat) (call : Caller) (rg : T AV) (h : AH) (dst : Option Tmp)
noncomputable def gCall (k : T AV → AH → R) (c : Call) : R :=
  Callee.rec (motive := fun _ => R)
    (fun f => cValue rg f c.args.toList fun f l => call f l h fun v h => setR nt rg dst v fun rg => k rg h)
    (fun x name => cInvoke P rg x name c.args.toList fun f l => call f l h fun v h => setR nt rg dst v fun rg => k rg h)
    (fun b => Bool.rec (motive := fun _ => R)
      (Bool.rec (motive := fun _ => R) (when (isAppend b) (opt (arg2 c.args.toList) fun xs => opt (arg2 c.argTypes.toList) fun ts => wAppend P nt rg h dst k ts.1 ts.2 xs.1 xs.2))
        (opt (arg2 c.args.toList) fun xs => pMin rg (fun v => setR nt rg dst v fun rg => k rg h) xs.1 xs.2) (isMin b))
      (opt (arg1 c.args.toList) fun x => opt (arg1 c.argTypes.toList) fun t => pLen P rg (fun v => setR nt rg dst v fun rg => k rg h) x t) (isLen b)) c.callee
/-- An operation, carried out. -/
noncomputable def opGo (k : T AV → AH → R) (op : Op) : R :=
  Op.rec (motive := fun _ => R)
    (fun x => oe rg x fun v => setR nt rg dst v fun rg => k rg h) (fun x => oe rg x fun v => setR nt rg dst v fun rg => k rg h)
    (fun c a b => pPick rg (fun v => setR nt rg dst v fun rg => k rg h) c a b) (fun t => wAlloc P nt rg h dst k t) (fun t x => wBox nt rg h dst k t x)
    (fun t ps => pBuild P rg (fun v => setR nt rg dst v fun rg => k rg h) t ps) (fun t n ps => wBuild P nt rg h dst k t n ps) (fun t m a x => wInsert P nt rg h dst k t m a x)
    (fun t x => loadV P rg h t x fun v => setR nt rg dst v fun rg => k rg h) (fun t a x => wStore P nt rg h dst k t a x) (fun _ => none) (fun _ => none)
    (fun x => pNil rg (fun v => setR nt rg dst v fun rg => k rg h) x) (fun op xt x y _ => pBin P rg (fun v => setR nt rg dst v fun rg => k rg h) op xt x y)
    (fun op _ x => pNot rg (fun v => setR nt rg dst v fun rg => k rg h) op x) (fun s d x => wConv P nt rg h dst k s d x) (fun _ _ => none)
    (fun t x => pIface P rg (fun v => setR nt rg dst v fun rg => k rg h) t x) (fun fn a c => pFunc rg (fun v => setR nt rg dst v fun rg => k rg h) fn a c) (fun t r => wMap P nt rg h dst k t r) (fun _ _ => none)
    (fun t l c => wMake P nt rg h dst k t l c) (fun t x lo hi mx => Option.rec (motive := fun _ => R) (pSub P rg (fun v => setR nt rg dst v fun rg => k rg h) t x lo hi) (fun _ => none) mx) (fun s x f => pField P rg (fun v => setR nt rg dst v fun rg => k rg h) s x f) (fun _ _ _ => none)
    (fun t x ix => pIndex P rg (fun v => setR nt rg dst v fun rg => k rg h) t x ix) (fun t x ix => pIdx P rg (fun v => setR nt rg dst v fun rg => k rg h) t x ix) (fun t m a c => wLookup P nt rg h dst k t m a c) (fun _ _ _ _ => none) (fun _ _ _ => none) (fun _ _ _ _ => none)
    (fun t x => wRange P nt rg h dst k t x) (fun it b => wNext nt rg h dst k it b) (fun _ => none) (fun _ _ _ _ => none)
    (fun x ix => pExt rg (fun v => setR nt rg dst v fun rg => k rg h) x ix) (fun c => gCall P nt call rg h dst k c) (fun _ => none) (fun _ => none) (fun _ => none) (fun _ _ => none) (fun _ _ _ => none) (fun _ _ => none) op
/-- A call that may write nothing. -/
noncomputable def qRun (f : Nat) (l : AV) (k : T AV → R) : R := opt (call f l h fun v h => some (v, h)) fun vh => setR nt rg dst vh.1 k
noncomputable def qCall (k : T AV → R) (c : Call) : R :=
  Callee.rec (motive := fun _ => R)
    (fun f => cValue rg f c.args.toList fun f l => qRun nt call rg h dst f l k)
    (fun x name => cInvoke P rg x name c.args.toList fun f l => qRun nt call rg h dst f l k)
    (fun b => when (isLen b) (opt (arg1 c.args.toList) fun x => opt (arg1 c.argTypes.toList) fun t => pLen P rg (fun v => setR nt rg dst v k) x t)) c.callee
/-- An operation that writes nothing, carried out. -/
noncomputable def qGo (k : T AV → R) (op : Op) : R :=
  Op.rec (motive := fun _ => R)
    (fun x => oe rg x fun v => setR nt rg dst v k) (fun x => oe rg x fun v => setR nt rg dst v k)
    (fun c a b => pPick rg (fun v => setR nt rg dst v k) c a b) (fun _ => none) (fun _ _ => none)
    (fun t ps => pBuild P rg (fun v => setR nt rg dst v k) t ps) (fun _ _ _ => none) (fun _ _ _ _ => none)
    (fun t x => loadV P rg h t x fun v => setR nt rg dst v k) (fun _ _ _ => none) (fun _ => none) (fun _ => none)
    (fun x => pNil rg (fun v => setR nt rg dst v k) x) (fun op xt x y _ => pBin P rg (fun v => setR nt rg dst v k) op xt x y)
    (fun op _ x => pNot rg (fun v => setR nt rg dst v k) op x) (fun s d x => pConv P rg (fun v => setR nt rg dst v k) s d x) (fun _ _ => none)
    (fun t x => pIface P rg (fun v => setR nt rg dst v k) t x) (fun fn a c => pFunc rg (fun v => setR nt rg dst v k) fn a c) (fun _ _ => none) (fun _ _ => none)
    (fun _ _ _ => none) (fun _ _ _ _ _ => none) (fun s x f => pField P rg (fun v => setR nt rg dst v k) s x f) (fun _ _ _ => none)
    (fun t x ix => pIndex P rg (fun v => setR nt rg dst v k) t x ix) (fun t x ix => pIdx P rg (fun v => setR nt rg dst v k) t x ix) (fun _ _ _ _ => none) (fun _ _ _ _ => none) (fun _ _ _ => none) (fun _ _ _ _ => none)
    (fun _ _ => none) (fun _ _ => none) (fun _ => none) (fun _ _ _ _ => none)
    (fun x ix => pExt rg (fun v => setR nt rg dst v k) x ix) (fun c => qCall P nt call rg h dst k c) (fun _ => none) (fun _ => none) (fun _ => none) (fun _ _ => none) (fun _ _ _ => none) (fun _ _ => none) op
end
/-- A row of operations in the order of the text. -/
noncomputable def execOps (P : Program) (nt : Nat) (call : Caller) (ops : Array Oper) (l : List Oper) : T AV → AH → (T AV → AH → R) → R :=
  List.rec (motive := fun _ => T AV → AH → (T AV → AH → R) → R) (fun rg h k => k rg h)
    (fun o _ ih rg h k => want ops rg o.guard (opGo P nt call rg h o.dst (fun rg h => ih rg h k) o.op) (setR nt rg o.dst (.tu .e) fun rg => ih rg h k)) l
/-- The same where nothing may be written. -/
noncomputable def execQ (P : Program) (nt : Nat) (call : Caller) (ops : Array Oper) (h : AH) (l : List Oper) : T AV → (T AV → R) → R :=
  List.rec (motive := fun _ => T AV → (T AV → R) → R) (fun rg k => k rg)
    (fun o _ ih rg k => want ops rg o.guard (qGo P nt call rg h o.dst (fun rg => ih rg k) o.op) (setR nt rg o.dst (.tu .e) fun rg => ih rg k)) l

noncomputable def outOf (P : Program) (rg : T AV) (h : AH) (l : List ResultVar) : (AV → R) → R :=
  List.rec (motive := fun _ => (AV → R) → R) (fun k => k .e)
    (fun r _ ih k => ResultVar.rec (motive := fun _ => R) (fun t => opt (T.get rg t) fun v => ih fun l => k (.c v l)) (fun a t => loadV P rg h t (.tmp a) fun v => ih fun l => k (.c v l)) r) l
/-- One result by itself, several as a tuple. -/
noncomputable def outV (l : AV) (k : AV → R) : R := onL l (k (.tu .e)) fun x m => onL m (k x) fun _ _ => k (.tu l)

def isWrite (o : Oper) : Bool :=
  match o.op with
  | .store .. => true
  | _ => false
def isMake (o : Oper) : Bool :=
  match o.op with
  | .buildSlice .. => true
  | _ => false
def isLoad (o : Oper) : Bool :=
  match o.op with
  | .load .. => true
  | _ => false
def takesGo (ops : Array Oper) : Nat → Nat → Array Bool → Bool
  | 0, k, listed => Region.seqB .any ops (ops.size - k) k listed
  | f + 1, k, listed => (Region.ready .any ops listed).contains k && Region.free .any ops listed k && takesGo ops f (k + 1) (listed.setIfInBounds k true)
/-- The first n operations may be taken first, in the order of the text; what follows is forced. -/
def takesB (ops : Array Oper) (n : Nat) : Bool := Region.noSelect ops && decide (n < ops.size) && !(ops.toList.take n).any isLoad && takesGo ops n 0 (Array.replicate ops.size false)
/-- The number of the first store. -/
def firstW (l : List Oper) : Nat := l.findIdx isWrite
def firstM (l : List Oper) : Nat := l.findIdx isMake
/-- Arguments laid into the first slots. -/
noncomputable def regsL (l : AV) : T AV → Nat → (T AV → Nat → R) → R :=
  AV.rec (motive := fun _ => T AV → Nat → (T AV → Nat → R) → R) (fun _ _ _ _ => none) (fun _ _ _ _ _ => none) (fun _ _ _ _ => none) (fun _ _ _ _ _ => none) (fun _ _ _ => none) (fun _ _ _ _ _ _ _ => none) (fun _ _ _ _ _ => none) (fun _ _ _ => none) (fun _ _ _ _ _ _ => none) (fun _ _ _ => none) (fun _ _ _ _ _ _ => none) (fun _ _ _ => none) (fun _ _ _ _ _ => none) (fun _ _ _ _ _ => none)
    (fun cs off k => k cs off) (fun x _ _ ih cs off k => T.setK cs off x fun cs => forceN (Nat.succ off) fun off => ih cs off k) (fun _ _ _ _ => none) l
/-- Function 127 in the one situation that comes up: the symbol's place is nil. -/
noncomputable def onNp (v : AV) (k : R) : R := AV.rec (motive := fun _ => R) (fun _ => none) (fun _ _ => none) (fun _ => none) (fun _ _ => none) k (fun _ _ _ _ => none) (fun _ _ => none) none (fun _ _ _ => none) none (fun _ _ _ => none) none (fun _ _ => none) (fun _ _ => none) none (fun _ _ _ _ => none) (fun _ => none) v
noncomputable def onNi (v : AV) (k : R) : R := AV.rec (motive := fun _ => R) (fun _ => none) (fun _ _ => none) (fun _ => none) (fun _ _ => none) none (fun _ _ _ _ => none) (fun _ _ => none) none (fun _ _ _ => none) none (fun _ _ _ => none) k (fun _ _ => none) (fun _ _ => none) none (fun _ _ _ _ => none) (fun _ => none) v
noncomputable def onL2 (l : AV) (k : AV → AV → R) : R := onL l none fun x m => onL m none fun y r => onL r (k x y) fun _ _ => none
noncomputable def o127 (call : AV → AH → (AV → AH → R) → R) (args : AV) (h : AH) (k : AV → AH → R) : R :=
  onL2 args fun p n => onP p fun c off => when (Nat.beq off 0) (onI n fun kd len => when (Nat.beq (kn kd) 3) (opt (T.get h.objs c) fun o => onCells o fun e size cs => when (Nat.beq e 139) (when (Nat.beq size 9)
    (opt (T.get cs 1) fun sh => opt (T.get cs 2) fun mn => opt (T.get cs 3) fun mx => opt (T.get cs 7) fun si => onNp si (when (scalar sh) (when (scalar mn) (when (scalar mx)
      (call (.c (.i .i64 len) (.c sh (.c mn (.c mx (.c (.b true) .e))))) h fun v h' => onTu v fun l => onL2 l fun q er => onP q fun si so => onNi er
        (opt (T.get h'.objs c) fun o => onCells o fun e size cs => when (Nat.beq e 139) (when (Nat.beq size 9) (T.setK cs 7 (.p si so) fun cs => T.setK h'.objs c (.cells e size cs) fun ob => k .ni ⟨ob, h'.next⟩)))))))))))

/-- Function 41 where the map is empty. -/
noncomputable def isE (v : AV) (k : R) : R := onL v k fun _ _ => none
noncomputable def o41 (args : AV) (h : AH) (k : AV → AH → R) : R :=
  onL2 args fun m n => onM m fun id => onI n fun kd _ => when (Nat.beq (kn kd) 3) (opt (T.get h.objs id) fun o => onMap o fun es => isE es (k (.b false) h))
/-- The code's own recursion, as a word. -/
abbrev Runner := Bool → Nat → Code → T AV → AH → (AX → T AV → AH → R) → R
noncomputable def outK (P : Program) (rs : Array ResultVar) (k : AV → AH → R) (e : AX) (rg : T AV) (h : AH) : R :=
  AX.rec (motive := fun _ => R) (outOf P rg h rs.toList fun l => outV l fun v => k v h) (fun _ => none) (outOf P rg h rs.toList fun l => outV l fun v => k v h) e
def noNG (fn : Func) : Bool := !(fn.name == "runtime.NumGoroutine")
noncomputable def callFn (P : Program) (ex : Runner) (q : Bool) (fn : Func) (args : AV) (h : AH) (k : AV → AH → R) : R :=
  opt fn.body fun c => when (noNG fn) (regsL args (T.full none depthC) 0 fun rg n => when (Nat.ble n fn.ntmps) (ex q fn.ntmps c rg h (outK P fn.results k)))
noncomputable def callIn (P : Program) (ex : Runner) (q : Bool) (f : Nat) (args : AV) (h : AH) (k : AV → AH → R) : R := opt (P.funcs[f]?) fun fn => callFn P ex q fn args h k
noncomputable def callAt (P : Program) (ex : Runner) (q : Bool) : Caller := fun f args h k =>
  Bool.rec (motive := fun _ => R) (Bool.rec (motive := fun _ => R) (callIn P ex q f args h k) (when (!q) (o41 args h k)) (Nat.beq f 41)) (when (!q) (o127 (callIn P ex false 46) args h k)) (Nat.beq f 127)

noncomputable def kSeq (ex : Runner) (q : Bool) (nt : Nat) (b : Code) (k : AX → T AV → AH → R) (e : AX) (rg : T AV) (h : AH) : R :=
  AX.rec (motive := fun _ => R) (ex q nt b rg h k) (fun id => k (.exit id) rg h) (k .ret rg h) e
noncomputable def kBlock (id : Nat) (k : AX → T AV → AH → R) (e : AX) (rg : T AV) (h : AH) : R :=
  AX.rec (motive := fun _ => R) (k .normal rg h) (fun i => Bool.rec (motive := fun _ => R) (k (.exit i) rg h) (k .normal rg h) (Nat.beq i id)) (k .ret rg h) e
section
variable (P : Program) (ex : Runner) (q : Bool) (nt : Nat) (rg : T AV) (h : AH) (k : AX → T AV → AH → R)
noncomputable def cCond (c : Operand) (a b : Code) : R := oe rg c fun v => onB v fun t => Bool.rec (motive := fun _ => R) (ex q nt b rg h k) (ex q nt a rg h k) t
noncomputable def rDraw (ops : Array Oper) : R :=
  Bool.rec (motive := fun _ => R)
    (Bool.rec (motive := fun _ => R) (when (Region.lexB .any ops) (execQ P nt (callAt P ex true) ops h ops.toList rg fun rg => k .normal rg h))
      (when (!q) (when (takesB ops (firstM ops.toList)) (execQ P nt (fun _ _ _ _ => none) ops h (ops.toList.take (firstM ops.toList)) rg fun rg => execOps P nt (callAt P ex false) ops (ops.toList.drop (firstM ops.toList)) rg h fun rg h => k .normal rg h))) (ops.toList.any isMake))
    (when (!q) (when (Region.lexTailB .any ops (firstW ops.toList))
      (execQ P nt (fun _ _ _ _ => none) ops h (ops.toList.take (firstW ops.toList)) rg fun rg => execOps P nt (callAt P ex false) ops (ops.toList.drop (firstW ops.toList)) rg h fun rg h => k .normal rg h)))
    (ops.toList.any isWrite)
noncomputable def rPlain (ops : Array Oper) : R :=
  Bool.rec (motive := fun _ => R) (execOps P nt (callAt P ex false) ops ops.toList rg h fun rg h => k .normal rg h) (execQ P nt (callAt P ex true) ops h ops.toList rg fun rg => k .normal rg h) q
noncomputable def codeStep (c : Code) : R :=
  Code.rec (motive := fun _ => R) (k .normal rg h) (fun _ ops draw => Bool.rec (motive := fun _ => R) (rPlain P ex q nt rg h k ops) (rDraw P ex q nt rg h k ops) draw)
    (fun a b _ _ => ex q nt a rg h (kSeq ex q nt b k)) (fun c a b _ _ => cCond ex q nt rg h k c a b) (fun id c _ => ex q nt c rg h (kBlock id k)) (fun c _ => ex q nt c rg h (kSeq ex q nt (.loop c) k))
    (fun _ _ _ _ _ _ => none) (fun id => k (.exit id) rg h) (fun _ _ => none) (fun _ => k .normal rg h) (fun _ => none) (k .ret rg h) (fun _ => none) c
end
noncomputable def exec (P : Program) (n : Nat) : Runner :=
  Nat.rec (motive := fun _ => Runner) (fun _ _ _ _ _ _ => none) (fun _ ih q nt c rg h k => codeStep P ih q nt rg h k c) n
/-- A call of a function. -/
noncomputable def run (P : Program) (n f : Nat) (args : AV) (h : AH) : R := callIn P (exec P n) false f args h fun v h => some (v, h)
end Go.Proofs.YtcnallabiffemaaGreatDoor.Vm
