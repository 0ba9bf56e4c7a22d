/- A part of the proof that the rows statement FnSetBack holds; no conditions. -/
import Derived.Test.YthkgjhnckakliaaGreatDoorZAJ
set_option linter.unusedVariables false
set_option linter.unusedSimpArgs false
set_option linter.unusedSectionVars false
namespace Go.Eng
def x1V : Value → XV
 | .int k n => .int k n
 | .bool b => .bool b
 | .string s => .str s.data.toList
 | x => .v x
def xofV : Value → XV
 | .int k n => .int k n
 | .bool b => .bool b
 | .string s => .str s.data.toList
 | .agg cs => .agg (cs.toList.map x1V)
 | x => .v x
noncomputable def evX (T : TR XV) : Operand → Option XV
 | .tmp t => T.get t
 | .const v => some (xofV v)
 | .global g => some (.v (.pointer (some ⟨g, 0, none⟩)))
 | .func f => some (.fn f [] [])
noncomputable def evsX (T : TR XV) : List Operand → Option (List XV)
 | [] => some []
 | x :: l => (evX T x).bind fun a => (evsX T l).map fun r => a :: r
noncomputable def eviX (T : TR XV) : Option Operand → Option (Option Int)
 | none => some none
 | some x => match evX T x with | some (.int _ i) => some (some i) | _ => none
def XV.plain1 : XV → Bool
 | .agg _ | .tup _ => false
 | .v x => match x with | .agg _ | .tuple _ => false | _ => true
 | _ => true
def XV.cellsL : XV → Option (List XV)
 | .agg cs => bif cs.all XV.plain1 then some cs else none
 | a => bif a.plain1 then some [a] else none
def setLX (cs : List XV) (off : Nat) (l : List XV) : List XV := cs.take off ++ l ++ cs.drop (off + l.length)
def fillLX (place : Nat → Option (Nat × Nat)) : List XV → List (Nat × XV) → Option (List XV)
 | cs, [] => some cs
 | cs, (i, v) :: rest =>
   match place i with
   | none => none
   | some (off, size) =>
     match v.cellsL with
     | none => none
     | some l => bif Nat.beq l.length size && Nat.ble (off + size) cs.length then fillLX place (setLX cs off l) rest else none
def rngB : IntKind → Int → Bool
 | .i64, n => decide (-9223372036854775808 ≤ n) && decide (n ≤ 9223372036854775807)
 | .i32, n => decide (-2147483648 ≤ n) && decide (n ≤ 2147483647)
 | .i16, n => decide (-32768 ≤ n) && decide (n ≤ 32767)
 | .i8, n => decide (-128 ≤ n) && decide (n ≤ 127)
 | .u64, n => decide (0 ≤ n) && decide (n ≤ 18446744073709551615)
 | .u32, n => decide (0 ≤ n) && decide (n ≤ 4294967295)
 | .u16, n => decide (0 ≤ n) && decide (n ≤ 65535)
 | .u8, n => decide (0 ≤ n) && decide (n ≤ 255)
def okI (k : IntKind) (n : Int) : Option XV := bif rngB k n then some (.int k n) else none
def binIX (op : BinOp) (k : IntKind) (a b : Int) : Option XV :=
 match op with
 | .add => okI k (a + b)
 | .sub => okI k (a - b)
 | .mul => okI k (a * b)
 | .quo => bif decide (b = 0) then none else okI k (a.tdiv b)
 | .rem => bif decide (b = 0) then none else some (.int k (a.tmod b))
 | .eql => some (.bool (a == b))
 | .neq => some (.bool (a != b))
 | .lss => some (.bool (decide (a < b)))
 | .leq => some (.bool (decide (a ≤ b)))
 | .gtr => some (.bool (decide (a > b)))
 | .geq => some (.bool (decide (a ≥ b)))
 | _ => none
def eqsX (C : Cy) (op : BinOp) (t : TypeId) (a b c d : Int) : Option XV :=
 bif C.eqts.any (Nat.beq t) then
  (match op with | .eql => some (.bool (a == c && b == d)) | .neq => some (.bool (!(a == c && b == d))) | _ => none) else none
def κ0 : Nat → Nat := fun _ => 0
def eqnX (C : Cy) (op : BinOp) (t : TypeId) (oy : Operand) (x y : XV) : Option XV :=
 match eqnV C.toCx op t oy (x.av κ0) (y.av κ0) with
 | some (_, .bool b) => some (.bool b)
 | _ => none
def binX (C : Cy) (op : BinOp) (t : TypeId) (oy : Operand) : XV → XV → Option XV
 | .int k a, .int k' b => bif ikeq k k' then binIX op k a b else none
 | .agg [.int .i64 a, .int .i64 b], .agg [.int .i64 c, .int .i64 d] => eqsX C op t a b c d
 | x, y => eqnX C op t oy x y
def unX : UnOp → XV → Option XV
 | .not, .bool b => some (.bool (!b))
 | .neg, .int k n => okI k (0 - n)
 | _, _ => none
def convX (C : Cy) (s d : TypeId) (x : XV) : Option XV :=
 (C.ti s).bind fun _ => (C.ti d).bind fun td => match td.desc, x with
  | .int k, .int _ n => okI k n
  | _, _ => none
def partX (ts : TS) (off : Nat) (cs : List XV) : Option XV :=
 bif isAggD ts.desc then some (.agg ((cs.drop off).take ts.size)) else cs[off]?
def fieldX (C : Cy) (t : TypeId) (f : Nat) : XV → Option XV
 | .agg cs => (fieldOf C.toCx t f).bind fun p => partX p.2 p.1.offset cs
 | _ => none
def fieldAddrX (C : Cy) (t : TypeId) (f : Nat) (x : XV) : Option XV :=
 (fieldOf C.toCx t f).bind fun p => bif Nat.beq p.2.size 0 then none else match x with
  | .ptr id off => some (.ptr id (off + p.1.offset))
  | .v (.pointer (some ⟨g, off, none⟩)) => some (.v (.pointer (some ⟨g, off + p.1.offset, none⟩)))
  | _ => none
def inB (i : Int) (len : Nat) : Option Nat := match i with | .ofNat m => bif Nat.blt m len then some m else none | _ => none
def leB (i : Int) (len : Nat) : Option Nat := match i with | .ofNat m => bif Nat.ble m len then some m else none | _ => none
def room (h : Nat → Option XO) (id off : Nat) : Option Nat := (h id).map fun o => o.c - off
def indexAddrX (C : Cy) (h : Nat → Option XO) (t : TypeId) (x ix : XV) : Option XV :=
 match ix with
 | .int _ i => (C.ti t).bind fun s => match s.desc, x with
   | .slice e, .sl id n off len => (C.ti e).bind fun te => (room h id off).bind fun r => bif Nat.beq te.size n && Nat.ble len r then (inB i len).map fun m => .ptr id ((off + m) * n) else none
   | .array len e, .ptr id off => (C.ti e).bind fun te => (inB i len).map fun m => .ptr id (off + m * te.size)
   | .array len e, .v (.pointer (some ⟨g, off, none⟩)) => (C.ti e).bind fun te => (inB i len).map fun m => .v (.pointer (some ⟨g, off + m * te.size, none⟩))
   | _, _ => none
 | _ => none
def indexX (C : Cy) (t : TypeId) (x ix : XV) : Option XV :=
 match ix with
 | .int _ i => (C.ti t).bind fun s => match s.desc, x with
   | .string, .str l => (inB i l.length).map fun m => .int .u8 (((l.getD m 0).toNat : Nat) : Int)
   | .array len e, .agg cs => (C.ti e).bind fun te => (inB i len).bind fun m => partX te (m * te.size) cs
   | _, _ => none
 | _ => none
def sliceX (C : Cy) (h : Nat → Option XO) (t : TypeId) (x : XV) (lo hi : Option Int) : Option XV :=
 (C.ti t).bind fun s => match s.desc, x with
  | .slice e, .sl id n off len => (C.ti e).bind fun te => (room h id off).bind fun r => bif Nat.beq te.size n then (match lo, hi with
    | none, none => bif Nat.ble len r then some (.sl id n off len) else none
    | some a, none => bif Nat.ble len r then (inB a r).bind fun m => bif Nat.ble m len then some (.sl id n (off + m) (len - m)) else none else none
    | none, some b => (leB b r).map fun m => .sl id n off m
    | some a, some b => (leB b r).bind fun k => (inB a r).bind fun m => bif Nat.ble m k then some (.sl id n (off + m) (k - m)) else none) else none
  | _, _ => none
def eslX (C : Cy) (h : Nat → Option XO) (t : TypeId) (x : XV) (lo hi : Option Int) : Option XV :=
 (C.ti t).bind fun ts => match ts.desc, x, lo, hi with
  | .slice e, .sl id n off len, some (.ofNat m), none => (C.ti e).bind fun te => (room h id off).bind fun r => bif Nat.beq te.size n && Nat.beq m len && Nat.ble len r then some (.esl id n off m) else none
  | _, _, _, _ => none
def extrX (i : Nat) : XV → Option XV
 | .tup l => l[i]?
 | _ => none
def mkifX (C : Cy) (t : TypeId) (x : XV) : Option XV := (C.ti t).bind fun s => bif isIface s.desc then none else some (.ifc t x)
def lenX : TypeDesc → XV → Option XV
 | .slice _, .sl _ _ _ len => some (.int .i64 len)
 | .slice _, .esl _ _ _ _ => some (.int .i64 0)
 | .slice _, .v (.slice none 0 _) => some (.int .i64 0)
 | .string, .str l => some (.int .i64 l.length)
 | _, _ => none
def capX (h : Nat → Option XO) : TypeDesc → XV → Option XV
 | .slice _, .sl id _ off _ => (h id).bind fun o => bif o.ex then some (.int .i64 ((o.c - off : Nat) : Int)) else none
 | .slice _, .v (.slice none 0 0) => some (.int .i64 0)
 | _, _ => none
def nilX : XV → Option XV
 | .ptr id off => some (.ptr id off)
 | .v (.pointer (some a)) => some (.v (.pointer (some a)))
 | .fn f a b => some (.fn f a b)
 | _ => none
def zeroX (s : TS) : Option (List XV) := s.zero.bind fun z => (xofV z).cellsL
noncomputable def buildX (C : Cy) (T : TR XV) (t : TypeId) (parts : List (Nat × Operand)) : Option XV :=
 (C.ti t).bind fun s => (zeroX s).bind fun zs => (evsX T (parts.map (·.2))).bind fun vs =>
  match s.desc with
  | .struct fs => (fillLX (fun i => (fs[i]?).bind fun f => (C.ti f.type).map fun ts => (f.offset, ts.size)) zs ((parts.map (·.1)).zip vs)).bind fun l =>
   bif fs.toList.all fun f => (C.ti f.type).isSome then some (.agg l) else none
  | .array _ e => (C.ti e).bind fun te => (fillLX (fun i => some (i * te.size, te.size)) zs ((parts.map (·.1)).zip vs)).map fun l => .agg l
  | _ => none
def fitX (l : List XV) (n : Nat) : Option (List XV) := bif Nat.beq l.length n then some l else none
def atX (gx : Nat → Option (List XV)) (h : Nat → Option XO) (size : Nat) : XV → Option (List XV)
 | .ptr id off => (h id).bind fun o => fitX ((o.cs.drop off).take size) size
 | .v (.pointer (some ⟨g, off, none⟩)) => (gx g).bind fun cs => fitX ((cs.drop off).take size) size
 | _ => none
def loadX (C : Cy) (gx : Nat → Option (List XV)) (h : Nat → Option XO) (t : TypeId) (x : XV) : Option XV :=
 (C.ti t).bind fun s => bif isAggD s.desc then (atX gx h s.size x).map fun l => .agg l else (atX gx h 1 x).bind fun l => l.head?
structure XC extends Cy where
 ft : Nat → Option Func
 ftok : ∀ f fn, ft f = some fn → P.funcs[f]? = some fn ∧ ∀ args w, (callFunc f args).run P w = .ok (.enter f args) w
 gx : Nat → Option (List XV)
 gxok : ∀ g l, gx g = some l → lk G g = some (avL κ0 l) ∧ ∀ κ, avL κ l = avL κ0 l
 ms : TypeId → String → Option FuncId
 msok : ∀ t m f, ms t m = some f → ∀ v args w, (callMethod (.iface t v) m args).run P w = .ok (.enter f (#[v] ++ args)) w
 dr : P.follows .mixedOrders = true
 okc : Code → Bool
 okf : ∀ f fn c, ft f = some fn → fn.body = some c → okc c = true
noncomputable def pvX (X : XC) (T : TR XV) (h : Nat → Option XO) : Op → Option XV
 | .move x => evX T x
 | .assign x => evX T x
 | .pick c a b => (evX T c).bind fun r => match r with
   | .bool true => evX T a
   | .bool false => evX T b
   | _ => none
 | .binOp op t x y _ => (evX T x).bind fun a => (evX T y).bind fun b => binX X.toCy op t y a b
 | .unOp op _ x => (evX T x).bind (unX op)
 | .convert s d x => (evX T x).bind (convX X.toCy s d)
 | .load t x => (evX T x).bind (loadX X.toCy X.gx h t)
 | .field t x f => (evX T x).bind (fieldX X.toCy t f)
 | .fieldAddr t x f => (evX T x).bind (fieldAddrX X.toCy t f)
 | .indexAddr t x i => (evX T x).bind fun a => (evX T i).bind (indexAddrX X.toCy h t a)
 | .index t x i => (evX T x).bind fun a => (evX T i).bind (indexX X.toCy t a)
 | .slice t x lo hi none => (evX T x).bind fun a => (eviX T lo).bind fun l => (eviX T hi).bind fun k => (match sliceX X.toCy h t a l k with | some v => some v | none => eslX X.toCy h t a l k)
 | .extract x i => (evX T x).bind (extrX i)
 | .makeInterface t x => (evX T x).bind (mkifX X.toCy t)
 | .makeFunc (.func f) a b => (evsX T a.toList).bind fun l => (evsX T b.toList).map fun r => .fn f l r
 | .nilCheck x => (evX T x).bind nilX
 | .build t parts => buildX X.toCy T t parts.toList
 | .call c => match c.callee, c.args.toList, c.argTypes.toList with
   | .builtin .len, [x], [t] => (X.ti t).bind fun s => (evX T x).bind (lenX s.desc)
   | .builtin .cap, [x], [t] => (X.ti t).bind fun s => (evX T x).bind (capX h s.desc)
   | _, _, _ => none
 | _ => none
noncomputable def rdX (T : TR XV) : Op → Option Nat
 | .load _ x => match evX T x with
   | some (.ptr id _) => some id
   | _ => none
 | _ => none
structure XS where
 nx : Nat
 ck : Nat
 lo : Nat
 T : TR XV
 H : TR (Nat × XO)
noncomputable def XS.obj (s : XS) (id : Nat) : Option XO := (s.H.get id).map (·.2)
noncomputable def XS.putO (s : XS) (id : Nat) (o : XO) : XS := ⟨s.nx, s.ck + 1, bif Nat.blt id s.lo then id else s.lo, s.T, s.H.set id (s.ck, o)⟩
noncomputable def XS.delO (s : XS) (id : Nat) : XS := ⟨s.nx, s.ck, bif Nat.blt id s.lo then id else s.lo, s.T, s.H.del id⟩
noncomputable def XS.newO (s : XS) (o : XO) : XS := ⟨s.nx + 1, s.ck + 1, s.lo, s.T, s.H.set s.nx (s.ck, o)⟩
noncomputable def XS.putT (s : XS) (nt : Nat) (d : Option Nat) (v : XV) : Option XS :=
 match d with
 | none => some s
 | some d => bif Nat.blt d nt then some ⟨s.nx, s.ck, s.lo, s.T.set d v, s.H⟩ else none
inductive XE where
 | nrm
 | ext (i : Nat)
 | rt
structure XR where
 code : Nat → Code → XS → Option (XE × XS)
 call : FuncId → List XV → XS → Option (XV × XS)
 loop : Nat → Code → XS → Option (XE × XS)
noncomputable def wantedX (ops : Array Oper) (T : TR XV) : Option (Nat × Bool) → Option Bool
 | none => some true
 | some (j, want) => match ((ops[j]?).bind (·.dst)).bind T.get with
   | some (.bool true) => some want
   | some (.bool false) => some (!want)
   | some (.v (.tuple _)) => some false
   | _ => none
noncomputable def newX (C : Cy) (T : TR XV) (nx : Nat) : Op → Option (XV × XO)
 | .box t x => (evX T x).bind fun a => a.cellsL.map fun l => (.ptr nx 0, ⟨t, 0, 0, false, l⟩)
 | .alloc t => (C.ti t).bind fun s => (zeroX s).map fun l => (.ptr nx 0, ⟨t, 0, 0, false, l⟩)
 | .buildSlice t len parts => (C.ti t).bind fun s => match s.desc with
   | .slice e => (C.ti e).bind fun te => (zeroX te).bind fun zs => (evsX T (parts.toList.map (·.2))).bind fun vs =>
    bif Nat.beq zs.length te.size && Nat.ble (len * te.size) 16777216 then
     (fillLX (fun i => some (i * te.size, te.size)) (List.replicate len zs).flatten ((parts.toList.map (·.1)).zip vs)).bind fun l =>
      bif Nat.beq l.length (len * te.size) then some (.sl nx te.size 0 len, ⟨e, te.size, len, true, l⟩) else none
    else none
   | _ => none
 | .makeSlice t lo co => (C.ti t).bind fun s => match s.desc with
   | .slice e => (C.ti e).bind fun te => (zeroX te).bind fun zs => (eviX T (some lo)).bind fun l => (eviX T (some co)).bind fun c => match l, c with
     | some (.ofNat l), some (.ofNat c) => bif Nat.beq zs.length te.size && Nat.ble l c && Nat.ble c 9223372036854775807 && Nat.ble (te.bytes * c) 281474976710656 then
      some (.sl nx te.size 0 l, ⟨e, te.size, c, true, (List.replicate c zs).flatten⟩) else none
     | _, _ => none
   | _ => none
 | _ => none
noncomputable def stX (C : Cy) (s : XS) (t : TypeId) (x v : Operand) : Option XS :=
 (C.ti t).bind fun ts => (evX s.T x).bind fun a => (evX s.T v).bind fun b => b.cellsL.bind fun l =>
  bif Nat.beq l.length ts.size then (match a with
   | .ptr id off => bif Nat.blt 0 l.length then (s.obj id).bind fun o => bif Nat.ble (off + l.length) o.cs.length then some (s.putO id { o with cs := setLX o.cs off l }) else none else some s
   | _ => none) else none
def dstX (h : Nat → Option XO) (e n : Nat) : XV → Option (Nat × List XV × Option (Nat × XO))
 | .v (.slice none 0 0) => some (0, [], none)
 | .sl id m off len => (h id).bind fun o => bif Nat.beq m n && Nat.beq o.n n && Nat.beq o.e e && Nat.beq off 0 && Nat.ble (len * n) o.cs.length && Nat.ble len o.c then some (len, o.cs.take (len * n), some (id, o)) else none
 | _ => none
noncomputable def appX (C : Cy) (s : XS) (x y : Operand) (t : TypeId) : Option (XV × XS) :=
 (C.ti t).bind fun ts => match ts.desc with
  | .slice e => (C.ti e).bind fun te => te.zero.bind fun z => bif Nat.beq z.cells.size te.size then
   (evX s.T x).bind fun a => (evX s.T y).bind fun b => (dstX s.obj e te.size a).bind fun d => (match b with
    | .sl sid n soff m => (s.obj sid).bind fun so =>
     bif Nat.beq n te.size && Nat.blt 0 m && Nat.ble (soff + m) so.c && Nat.ble ((soff + m) * te.size) so.cs.length && Nat.ble (d.1 + m) 16777216 && Nat.ble ((d.1 + m) * te.bytes) 16777216 &&
      ((so.cs.drop (soff * te.size)).take (m * te.size)).all XV.plain1 then
      (match d.2.2 with
       | some (id, o) => bif o.ex && Nat.ble (d.1 + m) o.c then
        some (.sl s.nx te.size 0 (d.1 + m), (s.delO id).newO ⟨e, te.size, o.c, true, d.2.1 ++ (so.cs.drop (soff * te.size)).take (m * te.size)⟩)
         else some (.sl s.nx te.size 0 (d.1 + m), (s.delO id).newO ⟨e, te.size, d.1 + m, false, d.2.1 ++ (so.cs.drop (soff * te.size)).take (m * te.size)⟩)
       | none => some (.sl s.nx te.size 0 (d.1 + m), s.newO ⟨e, te.size, d.1 + m, false, d.2.1 ++ (so.cs.drop (soff * te.size)).take (m * te.size)⟩))
     else none
    | _ => none) else none
  | _ => none
noncomputable def fnX (X : XC) (T : TR XV) (c : Call) : Option (FuncId × List XV) :=
 match c.callee with
 | .value f => (evX T f).bind fun v => match v with
   | .fn fid a b => (evsX T c.args.toList).map fun l => (fid, a ++ (l ++ b))
   | _ => none
 | .invoke r m => (evX T r).bind fun v => match v with
   | .ifc t x => (X.ms t m).bind fun fid => (evsX T c.args.toList).map fun l => (fid, x :: l)
   | _ => none
 | _ => none
noncomputable def louX (X : XC) (R : XR) (nt : Nat) (s : XS) (o : Oper) : Option XS :=
 match o.op with
 | .store t x v => match o.dst with | none => stX X.toCy s t x v | _ => none
 | .call c => match c.callee, c.args.toList, c.argTypes.toList with
   | .builtin .append, [x, y], [t, t'] => bif Nat.beq t t' && o.dst.isSome then (appX X.toCy s x y t).bind fun r => r.2.putT nt o.dst r.1 else none
   | _, _, _ => (fnX X s.T c).bind fun p => (R.call p.1 p.2 s).bind fun r => r.2.putT nt o.dst r.1
 | op => bif o.dst.isSome then (newX X.toCy s.T s.nx op).bind fun p => (s.newO p.2).putT nt o.dst p.1 else none
noncomputable def xop (X : XC) (R : XR) (nt : Nat) (ops : Array Oper) (s : XS) (o : Oper) : Option XS :=
 match wantedX ops s.T o.guard with
 | some true => match pvX X s.T s.obj o.op with
   | some v => s.putT nt o.dst v
   | none => louX X R nt s o
 | some false => s.putT nt o.dst (.v undef)
 | none => none
noncomputable def runL (X : XC) (R : XR) (nt : Nat) (ops : Array Oper) : List Oper → XS → Option XS
 | [], s => some s
 | o :: l, s => match xop X R nt ops s o with
   | some s' => runL X R nt ops l s'
   | none => none
noncomputable def oldX (t0 : Nat) (s : XS) (id : Nat) : Bool := match s.H.get id with | some p => Nat.blt p.1 t0 | none => false
noncomputable def qop (X : XC) (nt t0 : Nat) (ops : Array Oper) (s : XS) (o : Oper) : Option (XS × List Nat) :=
 match wantedX ops s.T o.guard with
 | some true => (pvX X s.T s.obj o.op).bind fun v => (s.putT nt o.dst v).bind fun s' => match rdX s.T o.op with
   | none => some (s', [])
   | some id => bif oldX t0 s id then some (s', [id]) else none
 | some false => (s.putT nt o.dst (.v undef)).map fun s' => (s', [])
 | none => none
noncomputable def runD (X : XC) (R : XR) (nt t0 : Nat) (ops : Array Oper) (F : FL) : Bool → List (Nat × Oper) → XS → List Nat → Option (XS × List Nat)
 | br, [], s, rd => bif br || rd.all (oldX t0 s) then some (s, rd) else none
 | br, (k, o) :: l, s, rd => bif F.fl o then (bif F.rq o && br then none else match qop X nt t0 ops s o with
  | some p => runD X R nt t0 ops F br l p.1 (p.2 ++ rd)
  | none => none)
   else bif br && !F.bl o then none
   else bif !F.bl o || (br || rd.all (oldX t0 s)) then (match xop X R nt ops s o with
    | some s' => runD X R nt t0 ops F (F.bl o) l s' rd
    | none => none) else none
noncomputable def runX (X : XC) (R : XR) (nt t0 : Nat) (ops : Array Oper) (F : FL) (x : Nat) (ox : Oper) (Ax : Nat → Bool) : List (Nat × Oper) → XS → List Nat → Option (List (XS × List Nat))
 | [], s, rd => (runD X R nt t0 ops F false [(x, ox)] s rd).map fun s => [s]
 | (k, o) :: l, s, rd => bif Ax k then (runD X R nt t0 ops F false ((x, ox) :: (k, o) :: l) s rd).map fun s => [s]
   else bif F.fl o then (match qop X nt t0 ops s o with
    | some p => runX X R nt t0 ops F x ox Ax l p.1 (p.2 ++ rd)
    | none => none)
   else bif F.bl o then none
   else (runD X R nt t0 ops F false ((x, ox) :: (k, o) :: l) s rd).bind fun s1 => (match xop X R nt ops s o with
    | some s' => (runX X R nt t0 ops F x ox Ax l s' rd).map fun r => s1 :: r
    | none => none)
def eqv : Value → Value → Bool
 | .slice none 0 0, .slice none 0 0 => true
 | .pointer none, .pointer none => true
 | .nilFunc, .nilFunc => true
 | .nilIface, .nilIface => true
 | .tuple ⟨[]⟩, .tuple ⟨[]⟩ => true
 | _, _ => false
mutual
def XV.eqo (n : Nat) : XV → XV → Bool
 | .int k a, .int k' b => ikeq k k' && (a == b)
 | .bool a, .bool b => a == b
 | .ptr i a, .ptr j b => Nat.beq i j && Nat.beq a b && Nat.blt i n
 | .sl i m a l, .sl i' m' a' l' => Nat.beq i i' && Nat.beq m m' && Nat.beq a a' && Nat.beq l l' && Nat.blt i n
 | .v a, .v b => eqv a b
 | .agg l, .agg l' => eqoL n l l'
 | .tup l, .tup l' => eqoL n l l'
 | _, _ => false
def eqoL (n : Nat) : List XV → List XV → Bool
 | [], [] => true
 | a :: l, b :: m => a.eqo n b && eqoL n l m
 | _, _ => false
end
noncomputable def xid (s : XS) (dx : Nat) : Option Nat := match s.T.get dx with | some (.ptr id 0) => some id | _ => none
noncomputable def agB (s0 s1 : XS) (o1 : XO) (dx : Nat) (ds : List Nat) (s : XS) : Bool :=
 match xid s dx with
 | some id => Nat.ble s0.nx id && Nat.ble s0.nx s.lo && (match s.obj id with | some o => Nat.beq o.e o1.e && eqoL s0.nx o.cs o1.cs | none => false) &&
  ds.all fun d => Nat.beq d dx || (match s.T.get d, s1.T.get d with | some v, some v1 => v.eqo s0.nx v1 | _, _ => false)
 | none => false
def dstsOf : List Oper → List Nat
 | [] => []
 | o :: l => match o.dst with | some d => d :: dstsOf l | none => dstsOf l
noncomputable def joinX (s0 : XS) (dx : Nat) (ds : List Nat) : List XS → Option XS
 | [] => none
 | s1 :: r => (xid s1 dx).bind fun id => (s1.obj id).bind fun o1 =>
  bif (s1 :: r).all (agB s0 s1 o1 dx ds) then some ⟨s0.nx + 1, s1.ck + 1, s0.lo, s1.T.set dx (.ptr s0.nx 0), s0.H.set s0.nx (s1.ck, ⟨o1.e, 0, 0, false, o1.cs⟩)⟩ else none
def lastL : Nat → List Oper → Nat → Nat
 | _, [], r => r
 | k, o :: l, r => lastL (k + 1) l (bif quietOp o || isSt o then r else k)
def flO (ops : Array Oper) : FL := flF [] (rdsOf [] 0 ops.toList)
def isFlo (ops : Array Oper) : Bool := match ops.toList[lastL 0 ops.toList 0]? with
 | some ⟨_, .alloc _, _, _, af, _⟩ => af.toList.isEmpty && (ops.toList.take (lastL 0 ops.toList 0)).any fun o => !(quietOp o || isSt o)
 | _ => false
def drawOK (ops : Array Oper) : Bool :=
 bif isFlo ops then calm ops (flO ops) ops.toList.length (lastL 0 ops.toList 0) && floatOK ops (flO ops) ops.toList.length (lastL 0 ops.toList 0)
 else calm ops (flO ops) ops.toList.length 100000 && Nat.ble ops.toList.length 100000
def okC : Code → Bool
 | .region _ ops true => drawOK ops
 | .seq a b => okC a && okC b
 | .cond _ a b => okC a && okC b
 | .block _ c => okC c
 | .loop c => okC c
 | _ => true
noncomputable def floX (X : XC) (R : XR) (nt : Nat) (ops : Array Oper) (x : Nat) (s : XS) : Option XS :=
 match ops.toList[x]? with
 | some ox => (match ox.dst with
   | some dx => (runX X R nt s.ck ops (flO ops) x ox (fun i => ((ancs ops.toList []).getD i 0).testBit x) (prs 0 (ops.toList.take x) ++ prs (x + 1) ((ops.toList.take ops.toList.length).drop (x + 1)))
    ⟨s.nx, s.ck, s.nx, s.T, s.H⟩ []).bind fun l => bif l.all fun p => (l.flatMap (·.2)).all (oldX s.ck p.1) then joinX s dx (dstsOf ops.toList) (l.map (·.1)) else none
   | none => none)
 | none => none
noncomputable def drawX (X : XC) (R : XR) (nt : Nat) (ops : Array Oper) (s : XS) : Option XS :=
 bif isFlo ops then floX X R nt ops (lastL 0 ops.toList 0) s
 else (runD X R nt s.ck ops (flO ops) false (prs 0 (ops.toList.take ops.toList.length)) s []).map (·.1)
noncomputable def codeX (X : XC) (R : XR) (nt : Nat) (c : Code) (s : XS) : Option (XE × XS) :=
 match c with
 | .skip => some (.nrm, s)
 | .region id ops false => (runL X R nt ops ops.toList s).map fun s' => (.nrm, s')
 | .region id ops true => (drawX X R nt ops s).map fun s' => (.nrm, s')
 | .seq x y => match R.code nt x s with
   | some (.nrm, s') => R.code nt y s'
   | r => r
 | .cond c x y => match evX s.T c with
   | some (.bool true) => R.code nt x s
   | some (.bool false) => R.code nt y s
   | _ => none
 | .block id c => match R.code nt c s with
   | some (.ext i, s') => bif Nat.beq i id then some (.nrm, s') else some (.ext i, s')
   | r => r
 | .loop c => R.loop nt c s
 | .exit i => some (.ext i, s)
 | .ret => some (.rt, s)
 | _ => none
noncomputable def argTX : Nat → List XV → TR XV → TR XV
 | _, [], T => T
 | i, a :: l, T => argTX (i + 1) l (T.set i a)
noncomputable def res1X (X : XC) (s : XS) : ResultVar → Option XV
 | .tmp t => s.T.get t
 | .cell a t => (s.T.get a).bind (loadX X.toCy X.gx s.obj t)
noncomputable def resLX (X : XC) (s : XS) : List ResultVar → Option (List XV)
 | [] => some []
 | r :: l => (res1X X s r).bind fun p => (resLX X s l).map fun q => p :: q
noncomputable def resX (X : XC) (s : XS) : List ResultVar → Option XV
 | [r] => res1X X s r
 | l => (resLX X s l).map fun q => .tup q
noncomputable def callX (X : XC) (R : XR) (f : FuncId) (args : List XV) (s : XS) : Option (XV × XS) :=
 (X.ft f).bind fun fn => fn.body.bind fun c => bif Nat.ble args.length fn.ntmps then
  (R.code fn.ntmps c ⟨s.nx, s.ck, s.lo, argTX 0 args .nil, s.H⟩).bind fun r => (match r.1 with
   | .ext _ => none
   | _ => (resX X r.2 fn.results.toList).map fun v => (v, ⟨r.2.nx, r.2.ck, r.2.lo, s.T, r.2.H⟩)) else none
noncomputable def loopX (R : XR) (nt : Nat) (c : Code) (s : XS) : Option (XE × XS) := match R.code nt c s with
 | some (.nrm, s') => R.loop nt c s'
 | r => r
noncomputable def xr (X : XC) (n : Nat) : XR :=
 Nat.rec (motive := fun _ => XR) ⟨fun _ _ _ => none, fun _ _ _ => none, fun _ _ _ => none⟩ (fun _ ih => ⟨codeX X ih, callX X ih, loopX ih⟩) n
end Go.Eng
namespace Go.Eng
theorem x1V_av (κ : Nat → Nat) (v : Value) : (x1V v).av κ = abs1 v := by cases v <;> rfl
theorem xofV_av (κ : Nat → Nat) (v : Value) : (xofV v).av κ = absV v := by
 cases v <;> try rfl
 simp only [xofV, absV, XV.av, avL_eq_map, List.map_map, AV.agg.injEq]
 congr 1
 funext v; exact x1V_av κ v
def TS0 (κ : Nat → Nat) (T : TR XV) (tm : Tm) : Prop := ∀ t xv, T.get t = some xv → lk tm t = some (xv.av κ)
variable {κ τ : Nat → Nat} {T : TR XV} {tm : Tm} {hp : Hp} {nx : Nat}
theorem evX_ev (hT : TS0 κ T tm) {x : Operand} {v : XV} (h : evX T x = some v) : ev tm x = some (v.av κ) := by
 cases x with
 | tmp t => exact hT t v h
 | const c => cases h; simp only [ev, xofV_av]
 | global g => cases h; rfl
 | func f => cases h; rfl
theorem evsX_evs (hT : TS0 κ T tm) : ∀ {l : List Operand} {r : List XV}, evsX T l = some r → evs tm l = some (avL κ r)
 | [], r, h => by cases h; rfl
 | x :: l, r, h => by
   simp only [evsX] at h
   obtain ⟨a, ha, h⟩ := bind_some' h
   obtain ⟨r', hr, rfl⟩ := map_some' h
   simp only [evs, evX_ev hT ha, evsX_evs hT hr, Option.bind_some, Option.map_some, avL]
theorem eviX_evi (hT : TS0 κ T tm) {x : Option Operand} {r : Option Int} (h : eviX T x = some r) : evi tm x = some r := by
 cases x with
 | none => exact h
 | some x =>
   simp only [eviX] at h
   split at h
   · rename_i k i he
     cases h
     simp only [evi, evX_ev hT he, XV.av]
   · cases h
theorem plain1_av (x : XV) : (x.av κ).plain1 = x.plain1 := by
 cases x <;> try rfl
theorem all_plain (cs : List XV) : (avL κ cs).all AV.plain1 = cs.all XV.plain1 := by
 induction cs with
 | nil => rfl
 | cons a l ih => simp only [avL, List.all_cons, plain1_av, ih]
theorem cellsL_av {x : XV} {l : List XV} (h : x.cellsL = some l) : (x.av κ).cellsL = some (avL κ l) := by
 cases x
 case agg cs =>
  simp only [XV.cellsL] at h
  simp only [XV.av, AV.cellsL, all_plain]
  cases hc : cs.all XV.plain1 <;> rw [hc] at h
  · cases h
  · cases h; rfl
 case v w =>
  simp only [XV.cellsL] at h
  simp only [XV.av, AV.cellsL]
  have := plain1_av (κ := κ) (.v w)
  simp only [XV.av] at this
  rw [this]
  cases hc : (XV.v w).plain1 <;> rw [hc] at h
  · cases h
  · cases h; rfl
 all_goals first | (cases h; rfl) | (simp only [XV.cellsL, XV.plain1] at h; cases h)
theorem setLX_av (cs l : List XV) (off : Nat) : avL κ (setLX cs off l) = setL (avL κ cs) off (avL κ l) := by
 simp only [setLX, setL, avL_append, avL_take, avL_drop, avL_length]
theorem fillLX_av {place : Nat → Option (Nat × Nat)} : ∀ (parts : List (Nat × XV)) (cs : List XV) {out : List XV}, fillLX place cs parts = some out →
 fillL place (avL κ cs) (parts.map fun p => (p.1, p.2.av κ)) = some (avL κ out)
 | [], cs, out, h => by cases h; rfl
 | (i, v) :: rest, cs, out, h => by
   simp only [fillLX] at h
   simp only [List.map_cons, fillL]
   split at h
   · cases h
   · rename_i off size hp
     rw [hp]
     simp only
     split at h
     · cases h
     · rename_i l hl
       rw [cellsL_av hl]
       simp only [avL_length]
       cases hc : (Nat.beq l.length size && Nat.ble (off + size) cs.length) <;> rw [hc] at h
       · cases h
       · simp only [cond_true] at h ⊢
         rw [← setLX_av]
         exact fillLX_av rest _ h
theorem zip_av : ∀ (is : List Nat) (vs : List XV), (is.zip vs).map (fun p => (p.1, p.2.av κ)) = is.zip (avL κ vs)
 | [], _ => rfl
 | _ :: _, [] => rfl
 | i :: is, v :: vs => by simp only [List.zip_cons_cons, List.map_cons, avL, zip_av is vs]
theorem rngB_ok {k : IntKind} {n : Int} (h : rngB k n = true) : rng k n := by
 cases k <;> simp only [rngB, Bool.and_eq_true, decide_eq_true_eq] at h <;> exact h
theorem okI_ok {k : IntKind} {n : Int} {v : XV} (h : okI k n = some v) : v = .int k n ∧ rng k n := by
 unfold okI at h
 cases hc : rngB k n <;> rw [hc] at h
 · cases h
 · cases h; exact ⟨rfl, rngB_ok hc⟩
theorem binIX_ok {op : BinOp} {k : IntKind} {a b : Int} {v : XV} (h : binIX op k a b = some v) : ∃ φ, binI op k a b = some (φ, v.av κ) ∧ φ := by
 cases op <;> simp only [binIX] at h
 all_goals first
  | (obtain ⟨rfl, hr⟩ := okI_ok h; exact ⟨_, rfl, hr⟩)
  | (cases h; exact ⟨_, rfl, trivial⟩)
  | (cases hc : decide (b = 0) <;> rw [hc] at h
     · simp only [cond_false] at h
       simp only [decide_eq_false_iff_not] at hc
       first
        | (obtain ⟨rfl, hr⟩ := okI_ok h; exact ⟨_, rfl, hc, hr⟩)
        | (cases h; exact ⟨_, rfl, hc⟩)
     · cases h)
  | cases h
theorem nilOK_av (d : TypeDesc) (x : XV) : nilOK d (x.av κ) = nilOK d (x.av κ0) := by
 cases x <;> first | rfl | (cases d <;> rfl)
theorem nilR_vi (x : Value) (t t' : TypeId) (a b : AV) : nilR (.v x) (.ifc t a) = nilR (.v x) (.ifc t' b) := by
 cases x <;> try rfl
 rename_i a; cases a <;> rfl
theorem nilR_iv (x : Value) (t t' : TypeId) (a b : AV) : nilR (.ifc t a) (.v x) = nilR (.ifc t' b) (.v x) := by
 cases x <;> try rfl
theorem nilR_av (x y : XV) (h : ∃ d, nilOK d (x.av κ0) = true) (h' : ∃ d, nilOK d (y.av κ0) = true) : nilR (x.av κ) (y.av κ) = nilR (x.av κ0) (y.av κ0) := by
 obtain ⟨d, h⟩ := h
 obtain ⟨d', h'⟩ := h'
 cases x <;> (try (cases d <;> cases h)) <;> cases y <;> (try (cases d' <;> cases h')) <;> first | rfl | exact nilR_vi _ _ _ _ _ | exact nilR_iv _ _ _ _ _
theorem bin_nil (op : BinOp) (x y : XV) (h : ∃ d, nilOK d (x.av κ0) = true) : bin op (x.av κ) (y.av κ) = none := by
 obtain ⟨d, h⟩ := h
 cases x <;> (try (cases d <;> cases h)) <;> rfl
theorem eqnX_ok {C : Cy} {op : BinOp} {t : TypeId} {oy : Operand} {x y v : XV} (h : eqnX C op t oy x y = some v) :
 ∃ φ, orElse (bin op (x.av κ) (y.av κ)) (orElse (eqnV C.toCx op t oy (x.av κ) (y.av κ)) (eqsV C op t (x.av κ) (y.av κ))) = some (φ, v.av κ) ∧ φ := by
 unfold eqnX at h
 split at h
 case h_2 => cases h
 rename_i φ b he
 cases h
 have he0 := he
 unfold eqnV at he
 obtain ⟨s, hs, he⟩ := bind_some' he
 cases hc : (isConstO oy && nilOK s.desc (x.av κ0) && nilOK s.desc (y.av κ0)) <;> rw [hc] at he
 · cases he
 simp only [cond_true] at he
 have hc' := hc
 simp only [Bool.and_eq_true] at hc'
 have e1 : eqnV C.toCx op t oy (x.av κ) (y.av κ) = some (φ, .bool b) := by
  unfold eqnV
  rw [hs]
  simp only [Option.bind_some]
  rw [nilOK_av s.desc x, nilOK_av s.desc y, hc, nilR_av x y ⟨_, hc'.1.2⟩ ⟨_, hc'.2⟩]
  exact he
 refine ⟨φ, ?_, ?_⟩
 · rw [bin_nil op x y ⟨_, hc'.1.2⟩, e1]; simp only [orElse, XV.av]
 · obtain ⟨r, hr, he⟩ := bind_some' he
   clear he0 e1
   cases op
   all_goals first
    | (simp only [Option.some.injEq, Prod.mk.injEq] at he; obtain ⟨rfl, _⟩ := he; trivial)
    | exact absurd he (by simp)
theorem binX_ok {C : Cy} {op : BinOp} {t : TypeId} {oy : Operand} {x y v : XV} (h : binX C op t oy x y = some v) :
 ∃ φ, orElse (bin op (x.av κ) (y.av κ)) (orElse (eqnV C.toCx op t oy (x.av κ) (y.av κ)) (eqsV C op t (x.av κ) (y.av κ))) = some (φ, v.av κ) ∧ φ := by
 unfold binX at h
 split at h
 · rename_i k a k' b
   cases hk : ikeq k k' <;> rw [hk] at h
   · cases h
   · obtain ⟨φ, h1, h2⟩ := binIX_ok (κ := κ) h
     refine ⟨φ, ?_, h2⟩
     simp only [XV.av, bin, hk, cond_true, h1, orElse]
 · rename_i a b c d
   unfold eqsX at h
   cases hc : C.eqts.any (Nat.beq t) <;> rw [hc] at h
   · cases h
   · have hn : ∀ (s : TypeDesc) (l : List AV), nilOK s (.agg l) = false := fun s l => by cases s <;> rfl
     have e1 : eqnV C.toCx op t oy (.agg [.int .i64 a, .int .i64 b]) (.agg [.int .i64 c, .int .i64 d]) = none := by
      unfold eqnV
      cases C.toCx.ti t with
      | none => rfl
      | some s => simp only [Option.bind_some, hn, Bool.and_false, cond_false]
     simp only [cond_true] at h
     simp only [XV.av, avL, bin, e1, orElse, eqsV, hc, cond_true]
     cases op <;> simp only at h <;> first | (cases h; exact ⟨_, rfl, trivial⟩) | cases h
 · exact eqnX_ok h
end Go.Eng
