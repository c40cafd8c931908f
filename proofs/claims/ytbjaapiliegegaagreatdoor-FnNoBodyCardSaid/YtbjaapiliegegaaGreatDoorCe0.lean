/- Of the proof of FnNoBody: Ce0. -/
import Derived.Calls
import Derived.Still
set_option linter.unusedVariables false
set_option linter.unusedSimpArgs false
namespace Go.Proofs.YtbjaapiliegegaaGreatDoor.Ce
open Go
abbrev n0 : Nat := 8
inductive AV where
 | bool (b : Bool)
 | int (k : IntKind) (n : Int)
 | str (s : List UInt8)
 | ptr (a : Option (Nat × Nat))
 | slice (a : Option (Nat × Nat)) (len : Nat) (cap : Option Nat)
 | map (r : Option Nat)
 | func (fn : Fn) (first captured : List AV)
 | nilFunc
 | iface (t : TypeId) (v : AV)
 | nilIface
 | agg (cs : List AV)
 | tuple (vs : List AV)
 | empty
 | any
 deriving Inhabited, Repr
inductive AO where
 | cells (c : List AV) (elem : TypeId) (lo hi : Nat)
 | more (c : List AV) (elem : TypeId)
 | map (es : List (AV × AV × Nat)) (clock : Nat)
 | iter (m : Option Nat) (since : Nat) (seen : List Nat) (stepped : Nat)
 | part (c : List (Nat × AV))
 | unk
 deriving Inhabited, Repr
structure Heap where
 n : Nat
 l : List (Nat × AO)
 deriving Inhabited, Repr
def look {α : Type} : List (Nat × α) → Nat → Option α
 | [], _ => none
 | (k, v) :: l, t => match Nat.beq k t with
  | true => some v
  | false => look l t
def Heap.at (h : Heap) (b : Nat) : Option AO := look h.l b
def Heap.put (h : Heap) (b : Nat) (o : AO) : Heap := { h with l := (b, o) :: h.l }
def Heap.new (h : Heap) (o : AO) : Heap := { n := h.n + 1, l := (h.n, o) :: h.l }
def ofVal : Value → Option AV
 | .bool b => some (.bool b)
 | .int k n => some (.int k n)
 | .string s => some (.str s.data.toList)
 | .pointer none => some (.ptr none)
 | .slice none n c => some (.slice none n (some c))
 | .map none => some (.map none)
 | .func fn first captured => if first.size = 0 ∧ captured.size = 0 then some (.func fn [] []) else none
 | .nilFunc => some .nilFunc
 | .nilIface => some .nilIface
 | .tuple vs => if vs.size = 0 then some (.tuple []) else none
 | _ => none
def ofVals : List Value → Option (List AV)
 | [] => some []
 | v :: vs => match ofVal v, ofVals vs with
  | some x, some xs => some (x :: xs)
  | _, _ => none
def ofZero : Value → Option AV
 | .agg cs => match ofVals cs.toList with
  | some xs => some (.agg xs)
  | none => none
 | v => ofVal v
def nil : AV := .tuple []
abbrev Tm := List (Nat × AV)
def tget (tm : Tm) (t : Nat) : AV :=
 match look tm t with
 | some v => v
 | none => nil
def aeval (tm : Tm) : Operand → Option AV
 | .tmp t => some (tget tm t)
 | .const v => ofVal v
 | .global g => if g < n0 then some (.ptr (some (g, 0))) else none
 | .func f => some (.func (.func f) [] [])
def aevals (tm : Tm) : List Operand → Option (List AV)
 | [] => some []
 | x :: xs => match aeval tm x, aevals tm xs with
  | some v, some vs => some (v :: vs)
  | _, _ => none
def cellsOf : AV → List AV
 | .agg cs => cs
 | v => [v]
def cellAt (h : Heap) (b o : Nat) : Option AV :=
 match h.at b with
 | some (.cells c _ _ _) => c[o]?
 | some (.more c _) => c[o]?
 | some (.part c) => look c o
 | _ => none
def takeN : Nat → List AV → Option (List AV)
 | 0, _ => some []
 | n + 1, v :: l => match takeN n l with
  | some r => some (v :: r)
  | none => none
 | _ + 1, [] => none
def dropN : Nat → List AV → List AV
 | 0, l => l
 | n + 1, _ :: l => dropN n l
 | _ + 1, [] => []
def loadP (c : List (Nat × AV)) (o : Nat) : Nat → Option (List AV)
 | 0 => some []
 | n + 1 => match look c o, loadP c (o + 1) n with
  | some v, some vs => some (v :: vs)
  | _, _ => none
def loadN (h : Heap) (b o n : Nat) : Option (List AV) :=
 match h.at b with
 | some (.cells c _ _ _) => takeN n (dropN o c)
 | some (.more c _) => takeN n (dropN o c)
 | some (.part c) => loadP c o n
 | _ => none
def single : AV → Bool
 | .agg _ | .tuple _ | .any => false
 | _ => true
def splice : List AV → Nat → List AV → Option (List AV)
 | c, 0, [] => some c
 | [], _, _ => none
 | _ :: c, 0, v :: vs => match splice c 0 vs with
  | some r => some (v :: r)
  | none => none
 | x :: c, o + 1, vs => match splice c o vs with
  | some r => some (x :: r)
  | none => none
def singles : List AV → Bool
 | [] => true
 | v :: vs => single v && singles vs
def setN (h : Heap) (b o : Nat) (vs : List AV) : Option Heap :=
 if b < n0 then none else
 match h.at b with
 | some (.cells c e lo hi) =>
  if singles vs && decide (hi ≤ o) then
   match splice c o vs with
   | some c' => some (h.put b (.cells c' e lo hi))
   | none => none
  else none
 | _ => none
section
variable (P : Program)
def aggT (t : TypeId) : Option Bool :=
 match P.underlying t with
 | some (.struct _) | some (.array _ _) => some true
 | some _ => some false
 | none => none
def aload (h : Heap) (t : TypeId) (b o : Nat) : Option AV :=
 match aggT P t, P.info? t with
 | some true, some i => match loadN h b o i.size with
  | some cs => some (.agg cs)
  | none => none
 | some false, _ => cellAt h b o
 | _, _ => none
def astore (h : Heap) (t : TypeId) (b o : Nat) (v : AV) : Option Heap :=
 match P.info? t with
 | some i => if (cellsOf v).length = i.size then setN h b o (cellsOf v) else none
 | none => none
def azero (t : TypeId) : Option AV :=
 match P.info? t with
 | some i => match i.zero with
  | some z => ofZero z
  | none => none
 | none => none
def newBlk (h : Heap) (o : AO) : AV × Heap := (.ptr (some (h.n, 0)), h.new o)
def aequal : Nat → TypeId → AV → AV → Option Bool
 | 0, _, _, _ => none
 | d + 1, t, x, y =>
  match P.underlying t, x, y with
  | some .bool, .bool a, .bool b => some (a == b)
  | some (.int _), .int k a, .int k' b => if k = k' then some (a == b) else none
  | some .string, .str a, .str b => some (a == b)
  | some (.pointer _), .ptr none, .ptr b => some b.isNone
  | some (.pointer _), .ptr (some _), .ptr none => some false
  | some (.interface _), .nilIface, .nilIface => some true
  | some (.interface _), .nilIface, .iface _ _ => some false
  | some (.interface _), .iface _ _, .nilIface => some false
  | some (.interface _), .iface tx vx, .iface ty vy =>
   if tx ≠ ty then some false else
   match P.info? tx with
   | some i => if i.comparable then aequal d tx vx vy else none
   | none => none
  | some (.slice _), .slice none _ _, .slice b _ _ => some b.isNone
  | some (.slice _), .slice (some _) _ _, .slice none _ _ => some false
  | some (.map _ _), .map none, .map b => some b.isNone
  | some (.map _ _), .map (some _), .map none => some false
  | some (.func _ _ _), .nilFunc, .nilFunc => some true
  | some (.func _ _ _), .nilFunc, .func _ _ _ => some false
  | some (.func _ _ _), .func _ _ _, .nilFunc => some false
  | _, _, _ => none
def isConst : Operand → Bool
 | .const _ => true
 | _ => false
def guardOk (op : BinOp) (x y : Operand) (a b : AV) : Bool :=
 match op with
 | .eql | .neq => match a, b with
  | .nilIface, .nilIface => isConst x || isConst y
  | .agg _, .agg _ => false
  | .any, _ => false
  | _, .any => false
  | _, _ => true
 | _ => true
def abits (op : BinOp) (k : IntKind) (x y : Int) : Option AV :=
 let a := BitVec.ofInt k.bits x
 let b := BitVec.ofInt k.bits y
 match op with
 | .and => some (.int k (k.wrap (a &&& b).toNat))
 | .or => some (.int k (k.wrap (a ||| b).toNat))
 | .xor => some (.int k (k.wrap (a ^^^ b).toNat))
 | .andNot => some (.int k (k.wrap (a &&& ~~~b).toNat))
 | _ => none
def abin (op : BinOp) (t : TypeId) (x y : AV) : Option AV :=
 match x, y with
 | .int k a, .int k' b =>
  match op with
  | .shl => if b < 0 then none else some (.int k (k.wrap (a * 2 ^ min b.toNat k.bits)))
  | .shr => if b < 0 then none else some (.int k (a.fdiv (2 ^ min b.toNat k.bits)))
  | _ => if k ≠ k' then none else
   match op with
   | .add => some (.int k (k.wrap (a + b)))
   | .sub => some (.int k (k.wrap (a - b)))
   | .mul => some (.int k (k.wrap (a * b)))
   | .quo => if b = 0 then none else some (.int k (k.wrap (a.tdiv b)))
   | .rem => if b = 0 then none else some (.int k (a.tmod b))
   | .and | .or | .xor | .andNot => abits op k a b
   | .eql => some (.bool (a == b))
   | .neq => some (.bool (a != b))
   | .lss => some (.bool (decide (a < b)))
   | .leq => some (.bool (decide (a ≤ b)))
   | .gtr => some (.bool (decide (a > b)))
   | .geq => some (.bool (decide (a ≥ b)))
   | _ => none
 | .str a, .str b =>
  match op with
  | .add => if a.length + b.length < 2 ^ 40 then some (.str (a ++ b)) else none
  | .eql => some (.bool (a == b))
  | .neq => some (.bool (!(a == b)))
  | .lss => some (.bool (Op.bytesLess a b))
  | _ => none
 | x, y =>
  match op with
  | .eql => match aequal P 4 t x y with
   | some r => some (.bool r)
   | none => none
  | .neq => match aequal P 4 t x y with
   | some r => some (.bool (!r))
   | none => none
  | _ => none
def aun (op : UnOp) (x : AV) : Option AV :=
 match op, x with
 | .not, .bool b => some (.bool (!b))
 | .neg, .int k n => some (.int k (k.wrap (0 - n)))
 | _, _ => none
def bytesOf : List AV → Option (List UInt8)
 | [] => some []
 | .int .u8 n :: l => match bytesOf l with
  | some r => some (UInt8.ofNat n.toNat :: r)
  | none => none
 | _ => none
def aconv (h : Heap) (s d : TypeId) (x : AV) : Option (AV × Heap) :=
 match P.underlying s, P.underlying d, x with
 | some _, some (.int k), .int _ n => some (.int k (k.wrap n), h)
 | some _, some .string, .str a => some (.str a, h)
 | some _, some (.slice e), .str a => match P.underlying e with
  | some (.int .u8) => if a.length < 2 ^ 20 then some (.slice (some (h.n, 0)) a.length none, h.new (.more (a.map fun b => .int .u8 b.toNat) e)) else none
  | _ => none
 | some (.slice _), some (.slice e), .slice (some (b, o)) n c =>
  if s = d then
   match P.underlying e, h.at b with
   | some (.int .u8), some (.cells cs el lo hi) =>
    if b < n0 then none else
    let m := cs.length
    some (.slice (some (b, o)) n c, h.put b (.cells cs el (if lo == hi then m else min lo m) (if lo == hi then m + 1 else max hi (m + 1))))
   | _, _ => none
  else none
 | some (.slice e), some .string, .slice a n _ =>
  match P.underlying e, a with
  | some (.int .u8), none => some (.str [], h)
  | some (.int .u8), some (b, o) => match loadN h b o n with
   | some cs => match bytesOf cs with
    | some r => some (.str r, h)
    | none => none
   | none => none
  | _, _ => none
 | _, _, _ => none
def bound (x : AV) (y : Nat) : Option Nat :=
 match x with
 | .int _ i => if 0 ≤ i ∧ i ≤ y then some i.toNat else none
 | _ => none
def lowB (lo : Option AV) (hh : Nat) : Option Nat :=
 match lo with
 | some v => bound v hh
 | none => some 0
def highB (hi mx : Option AV) (len m : Nat) : Option Nat :=
 match hi with
 | some v => bound v m
 | none => if mx.isSome then none else some len
def maxB (mx : Option AV) (cap : Nat) : Option Nat :=
 match mx with
 | some v => bound v cap
 | none => some cap
def bounds (len cap : Nat) (low high mx : Option AV) : Option (Nat × Nat × Nat) :=
 match maxB mx cap with
 | none => none
 | some m => match highB high mx len m with
  | none => none
  | some hh => match lowB low hh with
   | none => none
   | some l => some (l, hh, m)
def aslice (t : TypeId) (x : AV) (low high mx : Option AV) : Option AV :=
 match P.underlying t, x with
 | some .string, .str s =>
  if mx.isSome then none else
  match bounds s.length s.length low high none with
  | some (l, hh, _) => some (.str ((s.take hh).drop l))
  | none => none
 | some (.slice e), .slice a len (some cap) =>
  match bounds len cap low high mx, P.info? e with
  | some (l, hh, m), some i => some (.slice (if m = l then a else a.map fun p => (p.1, p.2 + l * i.size)) (hh - l) (some (m - l)))
  | _, _ => none
 | some (.slice e), .slice a len none =>
  match mx with
  | some v => match bound v 0, high, bounds len 0 low high mx, P.info? e with
   | some _, some _, some (l, hh, m), some _ => if m = l then some (.slice a (hh - l) (some 0)) else none
   | _, _, _, _ => none
  | none => match bounds len len low high none, P.info? e with
   | some (l, hh, _), some i => if l < len then some (.slice (a.map fun p => (p.1, p.2 + l * i.size)) (hh - l) none) else some .empty
   | _, _ => none
 | _, _ => none
def fieldOff (t : TypeId) (f : Nat) : Option (Nat × TypeId) :=
 match P.underlying t with
 | some (.struct fs) => match fs[f]? with
  | some x => some (x.offset, x.type)
  | none => none
 | _ => none
def apart (t : TypeId) (cs : List AV) (off : Nat) : Option AV :=
 match aggT P t, P.info? t with
 | some true, some i => some (.agg ((cs.take (off + i.size)).drop off))
 | some false, _ => cs[off]?
 | _, _ => none
def aindexAddr (t : TypeId) (x ix : AV) : Option AV :=
 match ix with
 | .int _ i =>
  match P.underlying t, x with
  | some (.slice e), .slice (some (b, o)) len _ =>
   if 0 ≤ i ∧ i < len then match P.info? e with
    | some q => some (.ptr (some (b, o + i.toNat * q.size)))
    | none => none
   else none
  | some (.array len e), .ptr (some (b, o)) =>
   if 0 ≤ i ∧ i < len then match P.info? e with
    | some q => some (.ptr (some (b, o + i.toNat * q.size)))
    | none => none
   else none
  | _, _ => none
 | _ => none
def aindex (t : TypeId) (x ix : AV) : Option AV :=
 match ix with
 | .int _ i =>
  match P.underlying t, x with
  | some .string, .str s => if 0 ≤ i then match s[i.toNat]? with
    | some b => some (.int .u8 b.toNat)
    | none => none
   else none
  | some (.array len e), .agg cs =>
   if 0 ≤ i ∧ i < len then match P.info? e with
    | some q => apart P e cs (i.toNat * q.size)
    | none => none
   else none
  | _, _ => none
 | _ => none
def findStr (k : List UInt8) : List (AV × AV × Nat) → Nat → Option (Option (Nat × AV))
 | [], _ => some none
 | (key, v, _) :: es, i => match key with
  | .str s => if k == s then some (some (i, v)) else findStr k es (i + 1)
  | _ => none
def strMap (t : TypeId) : Option TypeId :=
 match P.underlying t with
 | some (.map k e) => match P.underlying k with
  | some .string => some e
  | _ => none
 | _ => none
def alookup (h : Heap) (t : TypeId) (x ix : AV) (ok : Bool) : Option AV :=
 match strMap P t, x, ix with
 | some e, .map r, .str k =>
  match (match r with
   | none => some []
   | some b => match h.at b with
    | some (.map es _) => some es
    | _ => none) with
  | none => none
  | some es => match findStr k es 0 with
   | none => none
   | some (some (_, v)) => some (if ok then .tuple [v, .bool true] else v)
   | some none => match azero P e with
    | some z => some (if ok then .tuple [z, .bool false] else z)
    | none => none
 | _, _, _ => none
def aupdate (h : Heap) (t : TypeId) (m k v : AV) : Option Heap :=
 match strMap P t, m, k with
 | some _, .map (some b), .str s =>
  if b < n0 then none else
  match h.at b with
  | some (.map es clock) => match findStr s es 0 with
   | some none => some (h.put b (.map (es ++ [(.str s, v, clock)]) (clock + 1)))
   | some (some _) => none
   | none => none
  | _ => none
 | _, _, _ => none
def adelete (h : Heap) (t : TypeId) (m k : AV) : Option Heap :=
 match strMap P t, m, k with
 | some _, .map none, .str _ => some h
 | some _, .map (some b), .str s =>
  if b < n0 then none else
  match h.at b with
  | some (.map es clock) => match findStr s es 0 with
   | some none => some (h.put b (.map es clock))
   | some (some (i, _)) => some (h.put b (.map (es.eraseIdx i) clock))
   | none => none
  | _ => none
 | _, _, _ => none
def arange (h : Heap) (t : TypeId) (x : AV) : Option (AV × Heap) :=
 match P.underlying t, x with
 | some (.map _ _), .map none => some (newBlk h (.iter none 0 [] 0))
 | some (.map _ _), .map (some m) => match h.at m with
  | some (.map _ clock) => some (newBlk h (.iter (some m) clock [] clock))
  | _ => none
 | _, _ => none
def anext (h : Heap) (x : AV) (isString : Bool) : Option AV :=
 match x, isString with
 | .ptr (some (r, 0)), false =>
  match h.at r with
  | some (.iter none _ _ _) => some (.tuple [.bool false])
  | some (.iter (some m) _ _ _) => match h.at m with
   | some (.map [] _) => some (.tuple [.bool false])
   | _ => none
  | _ => none
 | _, _ => none
def atypeAssert (x : AV) (asserted : TypeId) (ok : Bool) : Option AV :=
 match P.underlying asserted, ok with
 | some (.interface _), _ => none
 | some _, true => match x with
  | .nilIface => match azero P asserted with
   | some z => some (.tuple [z, .bool false])
   | none => none
  | .iface t v => if t = asserted then some (.tuple [v, .bool true]) else
   match azero P asserted with
   | some z => some (.tuple [z, .bool false])
   | none => none
  | _ => none
 | _, _ => none
def ameth (t : TypeId) (name : String) : Option (FuncId × Bool) :=
 match P.info? t with
 | some i => match i.methods.find? (·.name == name) with
  | some m => if m.path.size = 0 then m.func else none
  | none => none
 | none => none
def amethod (t : TypeId) (v : AV) (name : String) : Option (FuncId × AV) :=
 match ameth P t name, P.underlying t with
 | some (f, true), some (.pointer _) => some (f, v)
 | some (_, false), some (.pointer _) => none
 | some (f, false), some _ => some (f, v)
 | _, _ => none
def anilCheck (x : AV) : Option AV :=
 match x with
 | .ptr (some a) => some (.ptr (some a))
 | .iface t v => some (.iface t v)
 | .func (.func f) first c => some (.func (.func f) first c)
 | .func (.method name) (.iface t w :: fs) c =>
  match amethod P t w name with
  | some _ => some (.func (.method name) (.iface t w :: fs) c)
  | none => none
 | _ => none
def amakeSlice (h : Heap) (t : TypeId) (l c : AV) : Option (AV × Heap) :=
 match P.underlying t, l, c with
 | some (.slice e), .int _ l, .int _ c => match P.info? e with
  | some i =>
   if i.size = 1 ∧ 0 ≤ l ∧ l ≤ c ∧ c < 2 ^ 40 ∧ i.bytes ≤ 64 ∧ c * i.bytes ≤ 2 ^ 46 then
    match i.zero with
    | some z => match ofVal z with
     | some zv => some (.slice (some (h.n, 0)) l.toNat (some c.toNat), h.new (.cells (List.replicate c.toNat zv) e 0 0))
     | none => none
    | none => none
   else none
  | none => none
 | _, _, _ => none
def afill (place : Nat → Option (Nat × Nat)) : List AV → List (Nat × AV) → Option (List AV)
 | cells, [] => some cells
 | cells, (i, v) :: rest =>
  match place i with
  | none => none
  | some (off, size) =>
   if (cellsOf v).length = size then
    match splice cells off (cellsOf v) with
    | some cells' => afill place cells' rest
    | none => none
   else none
def placesOf : List Field → Option (List (Nat × Nat))
 | [] => some []
 | f :: fs => match P.info? f.type, placesOf fs with
  | some i, some r => some ((f.offset, i.size) :: r)
  | _, _ => none
def known : AV → Bool
 | .any => false
 | _ => true
def aparts (tm : Tm) : List (Nat × Operand) → Option (List (Nat × AV))
 | [] => some []
 | (i, x) :: l => match aeval tm x, aparts tm l with
  | some v, some r => if known v then some ((i, v) :: r) else none
  | _, _ => none
def abuild (t : TypeId) (parts : List (Nat × AV)) : Option AV :=
 match azero P t, P.underlying t with
 | some z, some (.struct fs) => match placesOf P fs.toList with
  | some pl => match afill (fun i => pl[i]?) (cellsOf z) parts with
   | some cs => some (.agg cs)
   | none => none
  | none => none
 | some z, some (.array _ e) => match P.info? e with
  | some i => match afill (fun j => some (j * i.size, i.size)) (cellsOf z) parts with
   | some cs => some (.agg cs)
   | none => none
  | none => none
 | _, _ => none
def abuildSlice (h : Heap) (t : TypeId) (len : Nat) (parts : List (Nat × AV)) : Option (AV × Heap) :=
 match P.underlying t with
 | some (.slice e) => match P.info? e with
  | some i =>
   if i.size = 1 ∧ len ≤ 2 ^ 20 then
    match i.zero with
    | some z => match ofVal z with
     | some zv => match afill (fun j => some (j * i.size, i.size)) (List.replicate len zv) parts with
      | some cs => some (.slice (some (h.n, 0)) len (some len), h.new (.cells cs e 0 0))
      | none => none
     | none => none
    | none => none
   else none
  | none => none
 | _ => none
def alen (t : TypeId) (h : Heap) (x : AV) : Option AV :=
 match P.underlying t, x with
 | some .string, .str s => some (.int .i64 s.length)
 | some (.slice _), .slice _ n _ => some (.int .i64 n)
 | some (.slice _), .empty => some (.int .i64 0)
 | some (.map _ _), .map none => some (.int .i64 0)
 | some (.map _ _), .map (some r) => match h.at r with
  | some (.map es _) => some (.int .i64 es.length)
  | _ => none
 | _, _ => none
def firstN (h : Heap) (n : Nat) : AV → Option (List AV)
 | .slice (some (b, o)) _ _ => loadN h b o n
 | .slice none _ _ => if n = 0 then some [] else none
 | .empty => if n = 0 then some [] else none
 | .str s => some ((s.take n).map fun b => .int .u8 b.toNat)
 | _ => none
def alenOf : AV → Option Nat
 | .slice _ n _ => some n
 | .empty => some 0
 | .str s => some s.length
 | _ => none
def acopy (h : Heap) (t : TypeId) (dst src : AV) : Option (AV × Heap) :=
 match P.underlying t, dst, alenOf src with
 | some (.slice e), .slice a dl _, some sl => match P.info? e with
  | some i =>
   if i.size = 1 then
    match firstN h (min sl dl) src with
    | some cs => match a with
     | some (b, o) => match setN h b o cs with
      | some h' => some (.int .i64 (min sl dl : Nat), h')
      | none => none
     | none => if cs.length = 0 then some (.int .i64 (min sl dl : Nat), h) else none
    | none => none
   else none
  | none => none
 | _, _, _ => none
def row : TypeDesc → Bool
 | .slice _ => true
 | .string => true
 | _ => false
def aappend (h : Heap) (argTypes : Array TypeId) (s x : AV) : Option (AV × Heap) :=
 match argTypes[0]?, argTypes[1]?, s, alenOf x with
 | some st, some xt, .slice a sl (some sc), some n =>
  match P.underlying st, P.underlying xt with
  | some (.slice e), some xd =>
   match P.info? e, row xd with
   | some i, true =>
    if i.size = 1 ∧ i.bytes ≤ 64 ∧ sl + n < 2 ^ 20 ∧ sc < 2 ^ 20 then
     match firstN h n x with
     | some new =>
      if sl + n ≤ sc then
       match a with
       | some (b, o) => match setN h b (o + sl) new with
        | some h' => some (.slice a (sl + n) (some sc), h')
        | none => none
       | none => if new.length = 0 then some (.slice a (sl + n) (some sc), h) else none
      else if sc ≠ 0 then none else match firstN h sl s, i.zero with
       | some old, some z => match ofVal z with
        | some _ => some (.slice (some (h.n, 0)) (sl + n) none, h.new (.more (old ++ new) e))
        | none => none
       | _, _ => none
     | none => none
    else none
   | _, _ => none
  | _, _ => none
 | _, _, _, _ => none
inductive Out where
 | val (v : AV) (h : Heap)
 | call (f : FuncId) (args : List AV)
 | defer (fn : Fn) (captured args : List AV)
def ofCall (fn : FuncId) (args : List AV) : Option Out :=
 match P.funcs[fn]? with
 | some F => if F.body.isNone then none else some (.call fn args)
 | none => none
def v1 (h : Heap) : Option AV → Option Out
 | some v => some (.val v h)
 | none => none
def v2 : Option (AV × Heap) → Option Out
 | some (v, h) => some (.val v h)
 | none => none
def v3 : Option Heap → Option Out
 | some h => some (.val nil h)
 | none => none
def opt (tm : Tm) : Option Operand → Option (Option AV)
 | none => some none
 | some x => match aeval tm x with
  | some v => some (some v)
  | none => none
def capOf : AV → Option Nat
 | .slice _ _ (some c) => some c
 | _ => none
def amax : AV → AV → Option AV
 | .int k a, .int _ b => some (.int k (if b > a then b else a))
 | _, _ => none
def abuiltin (h : Heap) (b : Builtin) (argTypes : Array TypeId) (args : List AV) : Option Out :=
 match b, args with
 | .len, [x] => match argTypes[0]? with
  | some t => v1 h (alen P t h x)
  | none => none
 | .cap, [x] => match argTypes[0]?, capOf x with
  | some t, some c => match P.underlying t with
   | some (.slice _) => some (.val (.int .i64 c) h)
   | _ => none
  | _, _ => none
 | .append, [s, x] => v2 (aappend P h argTypes s x)
 | .copy, [d, s] => match argTypes[0]? with
  | some t => v2 (acopy P h t d s)
  | none => none
 | .delete, [m, k] => match argTypes[0]? with
  | some t => v3 (adelete P h t m k)
  | none => none
 | .max, [x, y] => v1 h (amax x y)
 | _, _ => none
def aop (tm : Tm) (h : Heap) (o : Oper) : Option Out :=
 match o.op with
 | .move x | .assign x => v1 h (aeval tm x)
 | .pick c a b => match aeval tm c with
  | some (.bool t) => v1 h (if t then aeval tm a else aeval tm b)
  | _ => none
 | .alloc e => match azero P e with
  | some z => some (.val (newBlk h (.cells (cellsOf z) e 0 0)).1 (newBlk h (.cells (cellsOf z) e 0 0)).2)
  | none => none
 | .box e x => match aeval tm x with
  | some v => if !known v then none else some (.val (newBlk h (.cells (cellsOf v) e 0 0)).1 (newBlk h (.cells (cellsOf v) e 0 0)).2)
  | none => none
 | .build t ps => match aparts tm ps.toList with
  | some l => v1 h (abuild P t l)
  | none => none
 | .buildSlice t n ps => match aparts tm ps.toList with
  | some l => v2 (abuildSlice P h t n l)
  | none => none
 | .load t a => match aeval tm a with
  | some (.ptr (some (b, o))) => v1 h (aload P h t b o)
  | _ => none
 | .store t a x => match aeval tm a, aeval tm x with
  | some (.ptr (some (b, o))), some v => v3 (astore P h t b o v)
  | _, _ => none
 | .nilCheck x => match aeval tm x with
  | some v => v1 h (anilCheck P v)
  | none => none
 | .binOp op t x y _ => match aeval tm x, aeval tm y with
  | some a, some b => if guardOk op x y a b then v1 h (abin P op t a b) else none
  | _, _ => none
 | .unOp op _ x => match aeval tm x with
  | some v => v1 h (aun op v)
  | none => none
 | .convert s d x => match aeval tm x with
  | some v => v2 (aconv P h s d v)
  | none => none
 | .makeInterface t x => match aeval tm x, P.underlying t with
  | some _, some (.interface _) => none
  | some v, some _ => some (.val (.iface t v) h)
  | _, _ => none
 | .makeFunc fn first captured => match aevals tm first.toList, aevals tm captured.toList with
  | some f, some c => some (.val (.func fn f c) h)
  | _, _ => none
 | .makeMap t r => match opt tm r with
  | some none => some (.val (.map (some h.n)) (h.new (.map [] 0)))
  | some (some (.int _ _)) => match P.underlying t with
   | some (.map _ _) => some (.val (.map (some h.n)) (h.new (.map [] 0)))
   | _ => none
  | _ => none
 | .makeSlice t l c => match aeval tm l, aeval tm c with
  | some l, some c => v2 (amakeSlice P h t l c)
  | _, _ => none
 | .slice t x lo hi mx => match P.underlying t with
  | some (.array _ _) => none
  | _ => match aeval tm x, opt tm lo, opt tm hi, opt tm mx with
   | some v, some l, some hh, some m => v1 h (aslice P t v l hh m)
   | _, _, _, _ => none
 | .fieldAddr t x f => match aeval tm x, fieldOff P t f with
  | some (.ptr (some (b, o))), some (off, ft) => match P.info? ft with
   | some i => if i.size = 0 then none else some (.val (.ptr (some (b, o + off))) h)
   | none => none
  | _, _ => none
 | .field t x f => match aeval tm x, fieldOff P t f with
  | some (.agg cs), some (off, ft) => v1 h (apart P ft cs off)
  | _, _ => none
 | .indexAddr t x ix => match aeval tm x, aeval tm ix with
  | some x, some i => v1 h (aindexAddr P t x i)
  | _, _ => none
 | .index t x ix => match aeval tm x, aeval tm ix with
  | some x, some i => v1 h (aindex P t x i)
  | _, _ => none
 | .lookup t x ix ok => match aeval tm x, aeval tm ix with
  | some x, some i => v1 h (alookup P h t x i ok)
  | _, _ => none
 | .mapUpdate t m k x => match aeval tm m, aeval tm k, aeval tm x with
  | some m, some k, some x => v3 (aupdate P h t m k x)
  | _, _, _ => none
 | .range t x => match aeval tm x with
  | some v => v2 (arange P h t v)
  | none => none
 | .next it isString => match aeval tm it with
  | some v => v1 h (anext h v isString)
  | none => none
 | .typeAssert x _ asserted ok => match aeval tm x with
  | some v => v1 h (atypeAssert P v asserted ok)
  | none => none
 | .extract t ix => match aeval tm t with
  | some (.tuple vs) => v1 h (vs[ix]?)
  | _ => none
 | .call c => match aevals tm c.args.toList with
  | none => none
  | some args => match c.callee with
   | .value f => match aeval tm f with
    | some (.func (.func g) first captured) => ofCall P g (first ++ args ++ captured)
    | some (.func (.method name) (.iface t v :: first) []) => match amethod P t v name with
     | some (g, r) => ofCall P g (r :: (first ++ args))
     | none => none
    | _ => none
   | .invoke r name => match aeval tm r with
    | some (.iface t v) => match amethod P t v name with
     | some (g, r) => ofCall P g (r :: args)
     | none => none
    | _ => none
   | .builtin b => abuiltin P h b c.argTypes args
 | .defer c => match c.callee, aevals tm c.args.toList with
  | .value f, some args => match aeval tm f with
   | some (.func fn first captured) => some (.defer fn captured (first ++ args))
   | _ => none
  | _, _ => none
 | _ => none
structure St where
 nt : Nat
 tm : Tm
 df : List (Fn × List AV × List AV)
 hp : Heap
 deriving Inhabited, Repr
inductive AE where
 | normal | exit (id : Nat) | ret
 deriving Repr
def put (tm : Tm) (d : Option Tmp) (v : AV) : Tm :=
 match d with
 | some t => (t, v) :: tm
 | none => tm
def fits (nt : Nat) (d : Option Tmp) : Bool :=
 match d with
 | some t => Nat.blt t nt
 | none => true
def ayield (ops : Array Oper) (tm : Tm) (j : Nat) : Option Bool :=
 match (ops[j]?).bind (·.dst) with
 | some t => match tget tm t with
  | .bool b => some b
  | _ => none
 | none => none
def sure (ops : Array Oper) (tm : Tm) (o : Oper) : Bool :=
 match o.guard with
 | none => true
 | some (j, _) => match (ops[j]?).bind (·.dst) with
  | some t => match tget tm t with
   | .any => false
   | _ => true
  | none => false
def awanted (ops : Array Oper) (tm : Tm) (o : Oper) : Bool :=
 match o.guard with
 | none => true
 | some (j, want) => ayield ops tm j == some want
variable (call : FuncId → List AV → Heap → Option (AV × Heap))
def oneOp (ops : Array Oper) (o : Oper) (s : St) : Option St :=
 if sure ops s.tm o && fits s.nt o.dst then
  if awanted ops s.tm o then
   match aop P s.tm s.hp o with
   | some (.val v h) => some { s with tm := put s.tm o.dst v, hp := h }
   | some (.call f args) => match call f args s.hp with
    | some (v, h) => some { s with tm := put s.tm o.dst v, hp := h }
    | none => none
   | some (.defer fn c args) => some { s with tm := put s.tm o.dst nil, df := (fn, c, args) :: s.df }
   | none => none
  else some { s with tm := put s.tm o.dst nil }
 else none
def runOps (ops : Array Oper) : List Oper → St → Option St
 | [], s => some s
 | o :: l, s => match oneOp P call ops o s with
  | some s' => runOps ops l s'
  | none => none
def stable (op : Op) : Bool :=
 match op with
 | .move _ | .assign _ | .pick .. | .build .. | .load .. | .nilCheck _ | .binOp .. | .unOp .. | .makeInterface .. | .makeFunc .. | .slice .. | .fieldAddr .. | .field .. | .indexAddr .. | .index ..
 | .typeAssert .. | .extract .. => true
 | .call { callee := .builtin .len, .. } | .call { callee := .builtin .cap, .. } => true
 | _ => false
mutual
def exact : AV → Bool
 | .any | .empty => false
 | .slice _ _ none => false
 | .func _ f c => exacts f && exacts c
 | .iface _ v => exact v
 | .agg cs => exacts cs
 | .tuple vs => exacts vs
 | _ => true
def exacts : List AV → Bool
 | [] => true
 | v :: vs => exact v && exacts vs
end
def loadsOf (ops : Array Oper) : List Oper → St → List (Nat × Nat)
 | [], _ => []
 | o :: l, s =>
  let here : List (Nat × Nat) := match o.op with
   | .load t a => match aeval s.tm a, P.info? t with
    | some (.ptr (some (b, off))), some i => (List.range i.size).map fun j => (b, off + j)
    | _, _ => []
   | _ => []
  match oneOp P (fun _ _ h => some (.any, h)) ops o s with
  | some s' => here ++ loadsOf ops l s'
  | none => here
def partsAt (h : Heap) (b : Nat) : List (Nat × Nat) → List (Nat × AV)
 | [] => []
 | (b', o) :: l => if b' = b then match cellAt h b o with
   | some v => if exact v then (o, v) :: partsAt h b l else partsAt h b l
   | none => partsAt h b l
  else partsAt h b l
def narrowL (h : Heap) (L : List (Nat × Nat)) : List Nat → List (Nat × AO)
 | [] => []
 | b :: bs => match partsAt h b L with
  | [] => narrowL h L bs
  | c => (b, .part c) :: narrowL h L bs
def narrow (h : Heap) (L : List (Nat × Nat)) : Heap := { n := h.n, l := narrowL h L (L.map (·.1)).eraseDups }
mutual
def beq : AV → AV → Bool
 | .bool a, .bool b => a == b
 | .int k a, .int j b => decide (k = j) && decide (a = b)
 | .str a, .str b => a == b
 | .ptr a, .ptr b => a == b
 | .slice a n c, .slice b m d => a == b && n == m && c == d
 | .map a, .map b => a == b
 | .nilFunc, .nilFunc => true
 | .iface t v, .iface u w => t == u && beq v w
 | .nilIface, .nilIface => true
 | .agg a, .agg b => beqs a b
 | .tuple a, .tuple b => beqs a b
 | _, _ => false
def beqs : List AV → List AV → Bool
 | [], [] => true
 | a :: l, b :: m => beq a b && beqs l m
 | _, _ => false
end
def keeps (hS h : Heap) : Bool :=
 hS.l.all fun (b, o) => match o with
  | .part c => !c.isEmpty && c.all fun (off, v) => match cellAt h b off with
   | some u => exact u && beq v u
   | none => false
  | _ => false
def draw (ops : Array Oper) (hS : Heap) : Nat → Array Bool → St → Option St
 | 0, listed, s => if (Region.ready .any ops listed).isEmpty then some s else none
 | fuel + 1, listed, s =>
  match (List.range ops.size).find? (fun i => !listed.getD i true && (match ops[i]? with
    | some o => stable o.op && o.after.all fun e => !Region.binds .any e || listed.getD e.on false
    | none => false)) with
  | some i => match ops[i]? with
    | some o =>
     if Region.free .any ops listed i && (sure ops s.tm o && fits s.nt o.dst) then
      if awanted ops s.tm o then
       match aop P s.tm hS o with
       | some (.val v _) => if exact v then draw ops hS fuel (listed.setIfInBounds i true) { s with tm := put s.tm o.dst v } else none
       | _ => none
      else draw ops hS fuel (listed.setIfInBounds i true) { s with tm := put s.tm o.dst nil }
     else none
    | none => none
  | none => match Region.ready .any ops listed with
   | [] => some s
   | [r] => match ops[r]? with
    | some o => match oneOp P call ops o s with
     | some s' => if keeps hS s'.hp then draw ops hS fuel (listed.setIfInBounds r true) s' else none
     | none => none
    | none => none
   | _ => none
def drawAll (ops : Array Oper) (hS : Heap) (s : St) : Option St :=
 if Region.noSelect ops && keeps hS s.hp && Nat.beq hS.n s.hp.n then draw P call ops hS ops.size (Array.replicate ops.size false) s else none
def iter (f : St → Option (AE × St)) : Nat → St → Option (AE × St)
 | 0, _ => none
 | n + 1, s => match f s with
  | some (.normal, s') => iter f n s'
  | r => r
def rounds : Nat := 3000
def runCode : Code → St → Option (AE × St)
 | .skip, s => some (.normal, s)
 | .label _, s => some (.normal, s)
 | .region _ ops d, s =>
  match (if d then drawAll P call ops (narrow s.hp (loadsOf P ops ops.toList s)) s else runOps P call ops ops.toList s) with
  | some s' => some (.normal, s')
  | none => none
 | .seq a b, s => match runCode a s with
  | some (.normal, s') => runCode b s'
  | r => r
 | .cond c a b, s => match aeval s.tm c with
  | some (.bool true) => runCode a s
  | some (.bool false) => runCode b s
  | _ => none
 | .block id b, s => match runCode b s with
  | some (.exit j, s') => if j = id then some (.normal, s') else some (.exit j, s')
  | r => r
 | .loop b, s => iter (runCode b) rounds s
 | .exit id, s => some (.exit id, s)
 | .ret, s => some (.ret, s)
 | _, _ => none
def resOf (tm : Tm) (h : Heap) : List ResultVar → Option (List AV)
 | [] => some []
 | .tmp t :: l => match resOf tm h l with
  | some r => some (tget tm t :: r)
  | none => none
 | .cell a t :: l => match tget tm a with
  | .ptr (some (b, o)) => match aload P h t b o, resOf tm h l with
   | some v, some r => some (v :: r)
   | _, _ => none
  | _ => none
def defs (idle : List FuncId) (callD : FuncId → List AV → Heap → Option Heap) : List (Fn × List AV × List AV) → Heap → Option Heap
 | [], h => some h
 | (.func g, c, a) :: l, h => match ofCall P g (a ++ c) with
  | some _ => if idle.contains g then defs idle callD l h else match callD g (a ++ c) h with
   | some h' => defs idle callD l h'
   | none => none
  | none => none
 | _, _ => none
end
def slots : Nat → List AV → Tm
 | _, [] => []
 | k, v :: vs => (k, v) :: slots (k + 1) vs
section
variable (P : Program)
def start (F : Func) (args : List AV) (h : Heap) : St := ⟨Nat.max F.ntmps args.length, slots 0 args, [], h⟩
def ended : Option (AE × St) → Option St
 | some (.normal, s) | some (.ret, s) => some s
 | _ => none
def callD (call : FuncId → List AV → Heap → Option (AV × Heap)) (f : FuncId) (args : List AV) (h : Heap) : Option Heap :=
 match P.funcs[f]? with
 | none => none
 | some F => match F.body with
  | none => none
  | some c => match ended (runCode P call c (start F args h)) with
   | none => none
   | some s => match s.df, resOf P s.tm s.hp F.results.toList with
    | [], some _ => some s.hp
    | _, _ => none
def pack : List AV → AV
 | [v] => v
 | vs => .tuple vs
def callN (idle : List FuncId) : Nat → FuncId → List AV → Heap → Option (AV × Heap)
 | 0, _, _, _ => none
 | n + 1, f, args, h =>
  match P.funcs[f]? with
  | none => none
  | some F => match F.body with
   | none => none
   | some c => match ended (runCode P (callN idle n) c (start F args h)) with
    | none => none
    | some s => match defs P idle (callD P (callN idle n)) s.df s.hp with
     | none => none
     | some h' => match resOf P s.tm h' F.results.toList with
      | some vs => some (pack vs, h')
      | none => none
end
end Go.Proofs.YtbjaapiliegegaaGreatDoor.Ce
