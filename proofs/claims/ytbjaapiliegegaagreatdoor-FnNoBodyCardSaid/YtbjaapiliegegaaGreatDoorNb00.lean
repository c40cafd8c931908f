/- Of the proof of FnNoBody: CanA Sa0. -/
import Derived.KernelRfl
import Derived.Calls
import Derived.Still
import Derived.Below
import Derived.Defers
import Derived.WalkKit
set_option linter.unusedVariables false
set_option linter.unusedSimpArgs false
section
namespace Go.Proofs.YtbjaapiliegegaaGreatDoor
def upB (b : UInt8) : UInt8 := if 97 ≤ b.toNat ∧ b.toNat ≤ 122 then b - 32 else b
def lowB' (b : UInt8) : UInt8 := if 65 ≤ b.toNat ∧ b.toNat ≤ 90 then b + 32 else b
def canonL : Bool → List UInt8 → List UInt8
 | _, [] => []
 | u, b :: l => (if u then upB b else lowB' b) :: canonL (b == 45) l
def byteLaw (b : UInt8) : Bool :=
 upB (upB b) == upB b && lowB' (lowB' b) == lowB' b && upB (lowB' b) == upB b && ((upB b == 45) == (b == 45)) && ((lowB' b == 45) == (b == 45))
theorem byte_all : (List.range 256).all (fun n => byteLaw (UInt8.ofNat n)) = true := by kernel_rfl
theorem byte_law (b : UInt8) : upB (upB b) = upB b ∧ lowB' (lowB' b) = lowB' b ∧ upB (lowB' b) = upB b ∧ (upB b == 45) = (b == 45) ∧ (lowB' b == 45) = (b == 45) := by
 have := List.all_eq_true.1 byte_all b.toNat (List.mem_range.2 b.toNat_lt)
 simp only [UInt8.ofNat_toNat, byteLaw, Bool.and_eq_true] at this
 obtain ⟨⟨⟨⟨h1, h2⟩, h3⟩, h4⟩, h5⟩ := this
 exact ⟨eq_of_beq h1, eq_of_beq h2, eq_of_beq h3, eq_of_beq h4, eq_of_beq h5⟩
theorem canon_len : ∀ (l : List UInt8) (u : Bool), (canonL u l).length = l.length
 | [], _ => rfl
 | _ :: l, _ => by simp [canonL, canon_len l]
def flagFrom (u : Bool) (l : List UInt8) : Nat → Bool
 | 0 => u
 | k + 1 => l.getD k 0 == 45
theorem canon_at : ∀ (l : List UInt8) (u : Bool) (k : Nat), k < l.length → (canonL u l)[k]? = some (if flagFrom u l k then upB (l.getD k 0) else lowB' (l.getD k 0))
 | [], _, _, h => by simp at h
 | b :: l, u, 0, _ => by simp [canonL, flagFrom]
 | b :: l, u, k + 1, h => by
  have h' : k < l.length := by simpa using h
  simp only [canonL, List.getElem?_cons_succ]
  rw [canon_at l (b == 45) k h']
  cases k <;> simp [flagFrom]
theorem canon_step (l : List UInt8) (u : Bool) (k : Nat) (h : k < l.length) {c : UInt8} (hc : (canonL u l)[k]? = some c) :
  ((canonL u l).take k ++ l.drop k).set k c = (canonL u l).take (k + 1) ++ l.drop (k + 1) := by
 have hk : ((canonL u l).take k).length = k := by rw [List.length_take, canon_len]; omega
 rw [List.set_append_right _ _ (by omega), hk, Nat.sub_self, List.drop_eq_getElem_cons h, List.set_cons_zero, List.take_add_one, hc]
 simp
end Go.Proofs.YtbjaapiliegegaaGreatDoor
end
section
namespace Go.Proofs.YtbjaapiliegegaaGreatDoor.Sy
open Go
inductive AO where
 | cells (c : List Value) (elem : TypeId) (lo hi : Nat)
 | map (es : List MapEntry) (clock : Nat)
 | miter (m : Option Nat) (since : Nat) (seen : List Nat) (stepped : Nat)
 | siter (s : ByteArray) (pos : Nat)
def AO.obj : AO → Obj
 | .cells c e lo hi => .cells c.toArray e (lo, hi)
 | .map es clock => .map es.toArray clock
 | .miter m since seen st => .mapIter m since seen.toArray st
 | .siter s pos => .stringIter s pos
structure Heap where
 n : Nat
 l : Nat → Option AO
def Heap.at (h : Heap) (b : Nat) : Option AO := h.l b
def Heap.put (h : Heap) (b : Nat) (o : AO) : Heap := ⟨h.n, fun c => if c = b then some o else h.l c⟩
def Heap.new (h : Heap) (o : AO) : Heap := ⟨h.n + 1, fun c => if c = h.n then some o else h.l c⟩
abbrev S (l : List UInt8) : Value := .string ⟨l.toArray⟩
abbrev ptr (b o : Nat) : Value := .pointer (some ⟨b, o, none⟩)
abbrev B (b : UInt8) : Value := .int .u8 (b.toNat : Int)
abbrev I (n : Int) : Value := .int .i64 n
abbrev Tm := List (Nat × Value)
def tget : Tm → Nat → Value
 | [], _ => undef
 | (k, v) :: l, t => if k = t then v else tget l t
def put (tm : Tm) (d : Option Tmp) (v : Value) : Tm :=
 match d with
 | some t => (t, v) :: tm
 | none => tm
def eval (tm : Tm) : Operand → Value
 | .tmp t => tget tm t
 | .const v => v
 | .global g => ptr g 0
 | .func f => .func (.func f) #[] #[]
def opt (tm : Tm) : Option Operand → Option Value
 | none => none
 | some x => some (eval tm x)
def bytes (s : ByteArray) : List UInt8 := s.data.toList
def nth (l : List UInt8) (i : Nat) : UInt8 := l.getD i 0
def cellAt (h : Heap) (b o : Nat) : Option Value :=
 match h.at b with
 | some (.cells c _ _ _) => c[o]?
 | _ => none
def loadN (h : Heap) (b o n : Nat) : Option (List Value) :=
 match h.at b with
 | some (.cells c _ _ _) => if o + n ≤ c.length then some ((c.drop o).take n) else none
 | _ => none
def single : Value → Bool
 | .agg _ | .tuple _ => false
 | _ => true
def splice (c : List Value) (o : Nat) (vs : List Value) : List Value := c.take o ++ vs ++ c.drop (o + vs.length)
section
variable (N : Nat)
def setN (h : Heap) (b o : Nat) (vs : List Value) : Option Heap :=
 match h.at b with
 | some (.cells c e lo hi) =>
  if N ≤ b ∧ (∀ v ∈ vs, single v = true) ∧ (hi ≤ o ∨ o + vs.length ≤ lo) ∧ o + vs.length ≤ c.length then some (h.put b (.cells (splice c o vs) e lo hi)) else none
 | _ => none
variable (P : Program)
def aggT (t : TypeId) : Option Bool :=
 match P.underlying t with
 | some (.struct _) | some (.array _ _) => some true
 | some _ => some false
 | none => none
def sizeT (t : TypeId) : Option Nat :=
 match P.info? t with
 | some i => some i.size
 | none => none
def bytesT (t : TypeId) : Option Nat :=
 match P.info? t with
 | some i => some i.bytes
 | none => none
def zeroT (t : TypeId) : Option Value :=
 match P.info? t with
 | some i => i.zero
 | none => none
def cmpT (t : TypeId) : Option Bool :=
 match P.info? t with
 | some i => some i.comparable
 | none => none
def aload (h : Heap) (t : TypeId) (b o : Nat) : Option Value :=
 match aggT P t, sizeT P t with
 | some true, some n => match loadN h b o n with
  | some cs => some (.agg cs.toArray)
  | none => none
 | some false, some _ => cellAt h b o
 | _, _ => none
def astore (h : Heap) (t : TypeId) (b o : Nat) (v : Value) : Option Heap :=
 match sizeT P t with
 | some n => if v.cells.size = n then setN N h b o v.cells.toList else none
 | none => none
def aequal : Nat → TypeId → Value → Value → Option Bool
 | 0, _, _, _ => none
 | d + 1, t, x, y =>
  match P.underlying t, x, y with
  | some .bool, .bool a, .bool b => some (a == b)
  | some (.int _), .int k a, .int k' b => if k = k' then some (a == b) else none
  | some .string, .string a, .string b => some (bytes a == bytes b)
  | some (.pointer _), .pointer none, .pointer b => some b.isNone
  | some (.pointer _), .pointer (some _), .pointer none => some false
  | some (.interface _), .nilIface, .nilIface => some true
  | some (.interface _), .nilIface, .iface _ _ => some false
  | some (.interface _), .iface _ _, .nilIface => some false
  | some (.interface _), .iface tx vx, .iface ty vy =>
   if tx ≠ ty then some false else
   match cmpT P tx with
   | some true => aequal d tx vx vy
   | _ => none
  | some (.slice _), .slice none _ _, .slice b _ _ => some b.isNone
  | some (.slice _), .slice (some _) _ _, .slice none _ _ => some false
  | some (.map _ _), .map none, .map b => some b.isNone
  | some (.map _ _), .map (some _), .map none => some false
  | some (.func _ _ _), .nilFunc, .nilFunc => some true
  | some (.func _ _ _), .nilFunc, .func _ _ _ => some false
  | some (.func _ _ _), .func _ _ _, .nilFunc => some false
  | _, _, _ => none
def isConst : Operand → Bool
 | .const _ => true
 | _ => false
def guardOk (op : BinOp) (x y : Operand) (a b : Value) : Bool :=
 match op with
 | .eql | .neq => match a, b with
  | .nilIface, .nilIface => isConst x || isConst y
  | .agg _, .agg _ => false
  | _, _ => true
 | _ => true
def abits (op : BinOp) (k : IntKind) (x y : Int) : Option Value :=
 let a := BitVec.ofInt k.bits x
 let b := BitVec.ofInt k.bits y
 match op with
 | .and => some (.int k (k.wrap (a &&& b).toNat))
 | .or => some (.int k (k.wrap (a ||| b).toNat))
 | .xor => some (.int k (k.wrap (a ^^^ b).toNat))
 | .andNot => some (.int k (k.wrap (a &&& ~~~b).toNat))
 | _ => none
def aint (op : BinOp) (k : IntKind) (a b : Int) : Option Value :=
 match op with
 | .add => some (.int k (k.wrap (a + b)))
 | .sub => some (.int k (k.wrap (a - b)))
 | .mul => some (.int k (k.wrap (a * b)))
 | .quo => if b ≠ 0 then some (.int k (k.wrap (a.tdiv b))) else none
 | .rem => if b ≠ 0 then some (.int k (a.tmod b)) else none
 | .and | .or | .xor | .andNot => abits op k a b
 | .eql => some (.bool (decide (a = b)))
 | .neq => some (.bool (!decide (a = b)))
 | .lss => some (.bool (decide (a < b)))
 | .leq => some (.bool (decide (a ≤ b)))
 | .gtr => some (.bool (decide (b < a)))
 | .geq => some (.bool (decide (b ≤ a)))
 | _ => none
def astr (op : BinOp) (a b : List UInt8) : Option Value :=
 match op with
 | .add => if a.length + b.length < 2 ^ 40 then some (S (a ++ b)) else none
 | .eql => some (.bool (decide (a = b)))
 | .neq => some (.bool (!decide (a = b)))
 | .lss => some (.bool (Op.bytesLess a b))
 | _ => none
def abin (op : BinOp) (t : TypeId) (x y : Value) : Option Value :=
 match x, y with
 | .int k a, .int k' b =>
  match op with
  | .shl => if 0 ≤ b then some (.int k (k.wrap (a * 2 ^ min b.toNat k.bits))) else none
  | .shr => if 0 ≤ b then some (.int k (a.fdiv (2 ^ min b.toNat k.bits))) else none
  | _ => if k = k' then aint op k a b else none
 | .string a, .string b => astr op (bytes a) (bytes b)
 | .float _ _, _ => none
 | .complex _ _ _, _ => none
 | .agg _, _ => none
 | .tuple _, _ => none
 | .chan _, _ => none
 | x, y =>
  match op with
  | .eql => match aequal P 4 t x y with
   | some r => some (.bool r)
   | none => none
  | .neq => match aequal P 4 t x y with
   | some r => some (.bool (!r))
   | none => none
  | _ => none
def aun (op : UnOp) (x : Value) : Option Value :=
 match op, x with
 | .not, .bool b => some (.bool (!b))
 | .neg, .int k n => some (.int k (k.wrap (0 - n)))
 | _, _ => none
def byteVals (l : List UInt8) : List Value := l.map B
def bytesOf : List Value → Option (List UInt8)
 | [] => some []
 | .int .u8 n :: l => match bytesOf l with
  | some r => some (UInt8.ofNat n.toNat :: r)
  | none => none
 | _ => none
def room (need c : Nat) : Nat := need + c % (2 ^ 63 - need)
def strLoad (h : Heap) (a : Option Addr) (n : Nat) : Option (List UInt8) :=
 match a with
 | none => some []
 | some ⟨b, o, none⟩ => match loadN h b o n with
  | some cs => bytesOf cs
  | none => none
 | some _ => none
def strOf (h : Heap) (a : Option Addr) (n : Nat) : Option (Value × Heap) :=
 match strLoad h a n with
 | some r => some (S r, h)
 | none => if n = 0 then some (S [], h) else none
def aconv (h : Heap) (s d : TypeId) (x : Value) (c : Nat) : Option (Value × Heap) :=
 match P.underlying s, P.underlying d, x with
 | some _, some (.int k), .int _ n => some (.int k (k.wrap n), h)
 | some _, some .string, .string a => some (.string a, h)
 | some .string, some (.slice e), .string a => match P.underlying e with
  | some (.int .u8) => if (bytes a).length < 2 ^ 40 then
    some (.slice (some ⟨h.n, 0, none⟩) (bytes a).length (room (bytes a).length c),
     h.new (.cells (byteVals (bytes a) ++ List.replicate (room (bytes a).length c - (bytes a).length) (.int .u8 0)) e (room (bytes a).length c) (room (bytes a).length c + 1)))
   else none
  | _ => none
 | some (.slice _), some (.slice e), .slice (some ⟨b, o, none⟩) n cp =>
  match P.underlying e, h.at b with
  | some (.int .u8), some (.cells cs el lo hi) =>
   if N ≤ b ∧ s = d then some (.slice (some ⟨b, o, none⟩) n cp, h.put b (.cells cs el (if lo = hi then cs.length else min lo cs.length) (if lo = hi then cs.length + 1 else max hi (cs.length + 1)))) else none
  | _, _ => none
 | some (.slice e), some .string, .slice a n _ =>
  match P.underlying e with
  | some (.int .u8) => strOf h a n
  | _ => none
 | _, _, _ => none
def bndN (x : Value) : Nat :=
 match x with
 | .int _ i => i.toNat
 | _ => 0
def bndP (x : Value) (y : Nat) : Prop :=
 match x with
 | .int _ i => 0 ≤ i ∧ i ≤ (y : Int)
 | _ => False
instance (x : Value) (y : Nat) : Decidable (bndP x y) := by
 unfold bndP; split <;> infer_instance
def lowN (lo : Option Value) : Nat :=
 match lo with
 | some v => bndN v
 | none => 0
def lowP (lo : Option Value) (hh : Nat) : Prop :=
 match lo with
 | some v => bndP v hh
 | none => True
instance (lo : Option Value) (hh : Nat) : Decidable (lowP lo hh) := by
 unfold lowP; split <;> infer_instance
def highN (hi : Option Value) (len : Nat) : Nat :=
 match hi with
 | some v => bndN v
 | none => len
def highP (hi mx : Option Value) (m : Nat) : Prop :=
 match hi, mx with
 | some v, _ => bndP v m
 | none, none => True
 | none, some _ => False
instance (hi mx : Option Value) (m : Nat) : Decidable (highP hi mx m) := by
 unfold highP; split <;> infer_instance
def boundsP (len cap : Nat) (low high mx : Option Value) : Prop :=
 lowP mx cap ∧ highP high mx (highN mx cap) ∧ lowP low (highN high len)
instance (len cap : Nat) (low high mx : Option Value) : Decidable (boundsP len cap low high mx) := by
 unfold boundsP; infer_instance
def moved (a : Option Addr) (k : Nat) : Option Addr :=
 match a with
 | some ⟨b, o, none⟩ => some ⟨b, o + k, none⟩
 | some a => some (a.add k)
 | none => none
def aslice (t : TypeId) (x : Value) (low high mx : Option Value) : Option Value :=
 match P.underlying t, x with
 | some .string, .string s =>
  match mx with
  | some _ => none
  | none => if boundsP (bytes s).length (bytes s).length low high none then some (S (((bytes s).take (highN high (bytes s).length)).drop (lowN low))) else none
 | some (.slice e), .slice a len cap =>
  match sizeT P e with
  | some z => if boundsP len cap low high mx then
    some (.slice (if highN mx cap = lowN low then a else moved a (lowN low * z)) (highN high len - lowN low) (highN mx cap - lowN low)) else none
  | none => none
 | some (.array n e), .pointer (some a) =>
  match sizeT P e with
  | some z => if boundsP n n low high mx then
    some (.slice (if highN mx n = lowN low then some a else moved (some a) (lowN low * z)) (highN high n - lowN low) (highN mx n - lowN low)) else none
  | none => none
 | _, _ => none
def fieldOff (t : TypeId) (f : Nat) : Option (Nat × TypeId) :=
 match P.underlying t with
 | some (.struct fs) => match fs[f]? with
  | some x => some (x.offset, x.type)
  | none => none
 | _ => none
def apart (t : TypeId) (cs : List Value) (off : Nat) : Option Value :=
 match aggT P t, sizeT P t with
 | some true, some z => some (.agg ((cs.drop off).take z).toArray)
 | some false, some _ => cs[off]?
 | _, _ => none
def aindexAddr (t : TypeId) (x ix : Value) : Option Value :=
 match ix with
 | .int _ i =>
  match P.underlying t, x with
  | some (.slice e), .slice (some ⟨b, o, none⟩) len _ =>
   match sizeT P e with
   | some z => if 0 ≤ i ∧ i < (len : Int) then some (ptr b (o + i.toNat * z)) else none
   | none => none
  | some (.array len e), .pointer (some ⟨b, o, none⟩) =>
   match sizeT P e with
   | some z => if 0 ≤ i ∧ i < (len : Int) then some (ptr b (o + i.toNat * z)) else none
   | none => none
  | _, _ => none
 | _ => none
def aindex (t : TypeId) (x ix : Value) : Option Value :=
 match ix with
 | .int _ i =>
  match P.underlying t, x with
  | some .string, .string s => if 0 ≤ i ∧ i < ((bytes s).length : Int) then some (B (nth (bytes s) i.toNat)) else none
  | some (.array len e), .agg cs =>
   match aggT P e, sizeT P e with
   | some false, some 1 => if 0 ≤ i ∧ i < (len : Int) then cs[i.toNat]? else none
   | _, _ => none
  | _, _ => none
 | _ => none
def keyIs (k : List UInt8) (e : MapEntry) : Option Bool :=
 match e.key with
 | .string s => some (decide (k = bytes s))
 | _ => none
def findStr (k : List UInt8) : List MapEntry → Nat → Option (Option (Nat × Value))
 | [], _ => some none
 | e :: es, i => match keyIs k e with
  | some true => some (some (i, e.val))
  | some false => findStr k es (i + 1)
  | none => none
def strMap (t : TypeId) : Option TypeId :=
 match P.underlying t with
 | some (.map k e) => match P.underlying k with
  | some .string => some e
  | _ => none
 | _ => none
def entriesOf (h : Heap) (r : Option Nat) : Option (List MapEntry) :=
 match r with
 | none => some []
 | some b => match h.at b with
  | some (.map es _) => some es
  | _ => none
def alookup (h : Heap) (t : TypeId) (x ix : Value) (ok : Bool) : Option Value :=
 match strMap P t, x, ix with
 | some e, .map r, .string k =>
  match entriesOf h r with
  | none => none
  | some es => match findStr (bytes k) es 0 with
   | none => none
   | some (some (_, v)) => some (if ok then .tuple #[v, .bool true] else v)
   | some none => match zeroT P e with
    | some z => some (if ok then .tuple #[z, .bool false] else z)
    | none => none
 | _, _, _ => none
def aupdate (h : Heap) (t : TypeId) (m k v : Value) : Option Heap :=
 match strMap P t, m, k with
 | some _, .map (some b), .string s =>
  match h.at b with
  | some (.map es clock) => if N ≤ b then
    match findStr (bytes s) es 0 with
    | some none => some (h.put b (.map (es ++ [⟨.string s, v, clock⟩]) (clock + 1)))
    | some (some (i, _)) => some (h.put b (.map (es.modify i fun e => { e with key := .string s, val := v }) clock))
    | none => none
   else none
  | _ => none
 | _, _, _ => none
def adelete (h : Heap) (t : TypeId) (m k : Value) : Option Heap :=
 match strMap P t, m, k with
 | some _, .map none, .string _ => some h
 | some _, .map (some b), .string s =>
  match h.at b with
  | some (.map es clock) => if N ≤ b then
    match findStr (bytes s) es 0 with
    | some none => some (h.put b (.map es clock))
    | some (some (i, _)) => some (h.put b (.map (es.eraseIdx i) clock))
    | none => none
   else none
  | _ => none
 | _, _, _ => none
def newBlk (h : Heap) (o : AO) : Value × Heap := (ptr h.n 0, h.new o)
def arange (h : Heap) (t : TypeId) (x : Value) : Option (Value × Heap) :=
 match P.underlying t, x with
 | some .string, .string s => some (newBlk h (.siter s 0))
 | some (.map _ _), .map none => some (newBlk h (.miter none 0 [] 0))
 | some (.map _ _), .map (some m) => match h.at m with
  | some (.map _ clock) => some (newBlk h (.miter (some m) clock [] clock))
  | _ => none
 | _, _ => none
def anextM (h : Heap) (r m since : Nat) (seen : List Nat) (clock : Nat) (left : List MapEntry) (c : Nat) : Option (Value × Heap) :=
 match left with
 | [] => some (.tuple #[.bool false], h)
 | _ :: _ => match left[c % left.length]? with
  | some e => some (.tuple #[.bool true, e.key, e.val], h.put r (.miter (some m) since (seen ++ [e.born]) clock))
  | none => none
def anext (h : Heap) (x : Value) (isString : Bool) (c : Nat) : Option (Value × Heap) :=
 match x with
 | .pointer (some ⟨r, 0, none⟩) =>
  match h.at r, isString with
  | some (.siter s pos), true =>
   if N ≤ r then
    if pos < s.size then some (.tuple #[.bool true, I pos, .int .i32 (Utf8.decode s pos).1], h.put r (.siter s (pos + (Utf8.decode s pos).2)))
    else some (.tuple #[.bool false], h)
   else none
  | some (.miter none _ _ _), false => some (.tuple #[.bool false], h)
  | some (.miter (some m) since seen st), false =>
   match h.at m with
   | some (.map es clock) =>
    if N ≤ r ∧ (∀ e ∈ es, e.born < since) ∧ st = clock ∧ since = clock then anextM h r m since seen clock (es.filter fun e => !seen.contains e.born) c else none
   | _ => none
  | _, _ => none
 | _ => none
def aentry (h : Heap) (x : Value) : Option Value :=
 match x with
 | .pointer (some ⟨r, 0, none⟩) =>
  match h.at r with
  | some (.miter (some m) _ seen st) =>
   match seen.getLast?, h.at m with
   | some stamp, some (.map es clock) => if clock = st then
     match es.find? (fun e => e.born == stamp) with
     | some e => some (.tuple #[e.key, e.val])
     | none => none
    else none
   | _, _ => none
  | _ => none
 | _ => none
def atypeAssert (x : Value) (asserted : TypeId) (ok : Bool) : Option Value :=
 match P.underlying asserted, ok with
 | some (.interface _), _ => none
 | some _, true => match x with
  | .nilIface => match zeroT P asserted with
   | some z => some (.tuple #[z, .bool false])
   | none => none
  | .iface t v => if t = asserted then some (.tuple #[v, .bool true]) else
   match zeroT P asserted with
   | some z => some (.tuple #[z, .bool false])
   | none => none
  | _ => none
 | _, _ => none
def ameth (t : TypeId) (name : String) : Option (FuncId × Bool) :=
 match P.info? t with
 | some i => match i.methods.find? (·.name == name) with
  | some m => if m.path.size = 0 then m.func else none
  | none => none
 | none => none
def amethod (t : TypeId) (name : String) : Option FuncId :=
 match ameth P t name, P.underlying t with
 | some (f, true), some (.pointer _) => some f
 | some (_, false), some (.pointer _) => none
 | some (f, false), some _ => some f
 | _, _ => none
def anilCheck (x : Value) : Option Value :=
 match x with
 | .pointer (some a) => some (.pointer (some a))
 | .iface t v => some (.iface t v)
 | .func (.func f) first c => some (.func (.func f) first c)
 | .func (.method m) first c => match (first[0]? : Option Value) with
  | some (.iface t v) => match amethod P t m with
   | some _ => some (.func (.method m) first c)
   | none => none
  | _ => none
 | _ => none
def zeros (z : List Value) (n : Nat) : List Value := (List.replicate n z).flatten
def amakeSlice (h : Heap) (t : TypeId) (l c : Value) : Option (Value × Heap) :=
 match P.underlying t, l, c with
 | some (.slice e), .int _ l, .int _ c => match sizeT P e, bytesT P e, zeroT P e with
  | some z, some y, some v =>
   if z = v.cells.size ∧ 0 ≤ l ∧ l ≤ c ∧ c < 2 ^ 40 ∧ y ≤ 64 then
    some (.slice (some ⟨h.n, 0, none⟩) l.toNat c.toNat, h.new (.cells (zeros v.cells.toList c.toNat) e 0 0))
   else none
  | _, _, _ => none
 | _, _, _ => none
def rowPlace (k : Nat) : Nat → Option (Nat × Nat) := fun j => some (j * k, k)
def stPlace (pl : List (Nat × Nat)) : Nat → Option (Nat × Nat) := fun i => pl[i]?
def afill (place : Nat → Option (Nat × Nat)) : List Value → List (Nat × Value) → Option (List Value)
 | cells, [] => some cells
 | cells, (i, v) :: rest =>
  match place i with
  | none => none
  | some (off, size) =>
   if v.cells.size = size ∧ off + size ≤ cells.length then afill place (splice cells off v.cells.toList) rest else none
def placesOf : List Field → Option (List (Nat × Nat))
 | [] => some []
 | f :: fs => match sizeT P f.type, placesOf fs with
  | some z, some r => some ((f.offset, z) :: r)
  | _, _ => none
def partsT (t : TypeId) : Option (List (Nat × Nat)) :=
 match P.underlying t with
 | some (.struct fs) => placesOf P fs.toList
 | _ => none
def aparts (tm : Tm) (ps : List (Nat × Operand)) : List (Nat × Value) := ps.map fun p => (p.1, eval tm p.2)
def abuild (t : TypeId) (parts : List (Nat × Value)) : Option Value :=
 match zeroT P t, P.underlying t with
 | some z, some (.struct _) => match partsT P t with
  | some pl => match afill (stPlace pl) z.cells.toList parts with
   | some cs => some (.agg cs.toArray)
   | none => none
  | none => none
 | some z, some (.array _ e) => match sizeT P e with
  | some k => match afill (rowPlace k) z.cells.toList parts with
   | some cs => some (.agg cs.toArray)
   | none => none
  | none => none
 | _, _ => none
def abuildSlice (h : Heap) (t : TypeId) (len : Nat) (parts : List (Nat × Value)) : Option (Value × Heap) :=
 match P.underlying t with
 | some (.slice e) => match sizeT P e, zeroT P e with
  | some k, some z =>
   if z.cells.size = k ∧ len * k ≤ 2 ^ 20 then
    match afill (rowPlace k) (zeros z.cells.toList len) parts with
    | some cs => some (.slice (some ⟨h.n, 0, none⟩) len len, h.new (.cells cs e 0 0))
    | none => none
   else none
  | _, _ => none
 | _ => none
def alen (t : TypeId) (h : Heap) (x : Value) : Option Value :=
 match P.underlying t, x with
 | some .string, .string s => some (I (bytes s).length)
 | some (.slice _), .slice _ n _ => some (I n)
 | some (.map _ _), .map r => match entriesOf h r with
  | some es => some (I es.length)
  | none => none
 | _, _ => none
def orNil (k : Nat) (x : Option (List Value)) : Option (List Value) :=
 match x with
 | some c => some c
 | none => if k = 0 then some [] else none
def firstN (h : Heap) (z n : Nat) : Value → Option (List Value)
 | .slice (some ⟨b, o, none⟩) _ _ => orNil (n * z) (loadN h b o (n * z))
 | .slice (some _) _ _ => orNil (n * z) none
 | .slice none _ _ => some []
 | .string s => some (byteVals ((bytes s).take n))
 | _ => none
def lenOf : Value → Option Nat
 | .slice _ n _ => some n
 | .string s => some (bytes s).length
 | _ => none
def acopy (h : Heap) (t : TypeId) (dst src : Value) : Option (Value × Heap) :=
 match P.underlying t, dst, lenOf src with
 | some (.slice e), .slice a dl _, some sl => match sizeT P e with
  | some 1 =>
   match firstN h 1 (min sl dl) src with
   | some cs => match a with
    | some ⟨b, o, none⟩ => match setN N h b o cs with
     | some h' => some (I (min sl dl : Nat), h')
     | none => none
    | none => if dl = 0 then some (I (min sl dl : Nat), h) else none
    | _ => none
   | none => none
  | _ => none
 | _, _, _ => none
def row : TypeDesc → Bool
 | .slice _ => true
 | .string => true
 | _ => false
def tailOf (h : Heap) (xd : TypeDesc) (z : Nat) (zv : Value) (x : Value) : Option (Nat × List Value) :=
 match xd, x with
 | .int _, .int _ k => if 0 ≤ k ∧ k < 2 ^ 32 then some (k.toNat, zeros zv.cells.toList k.toNat) else none
 | .slice _, x => match lenOf x with
  | some n => match firstN h z n x with
   | some cs => some (n, cs)
   | none => none
  | none => none
 | .string, x => match lenOf x with
  | some n => match firstN h z n x with
   | some cs => some (n, cs)
   | none => none
  | none => none
 | _, _ => none
def putAt (h : Heap) (a : Option Addr) (k : Nat) (vs : List Value) : Option Heap :=
 match a with
 | some ⟨b, o, none⟩ => setN N h b (o + k) vs
 | some _ => none
 | none => if vs = [] then some h else none
def aappend (h : Heap) (argTypes : Array TypeId) (s x : Value) (c : Nat) : Option (Value × Heap) :=
 match argTypes[0]?, argTypes[1]?, s with
 | some st, some xt, .slice a sl sc =>
  match P.underlying st, P.underlying xt with
  | some (.slice e), some xd =>
   match sizeT P e, bytesT P e, zeroT P e with
   | some z, some y, some zv =>
    match tailOf h xd z zv x with
    | some (n, new) =>
     if z = zv.cells.size ∧ new.length = n * z ∧ y ≤ 64 then
      if sl + n ≤ sc then
       match putAt N h a (sl * z) new with
       | some h' => some (.slice a (sl + n) sc, h')
       | none => none
      else if sl + n ≤ 2 ^ 32 then
       match firstN h z sl s with
       | some old => if old.length = sl * z then some (.slice (some ⟨h.n, 0, none⟩) (sl + n) (room (sl + n) c), h.new (.cells (old ++ new ++ zeros zv.cells.toList (room (sl + n) c - (sl + n))) e 0 0)) else none
       | none => none
      else none
     else none
    | none => none
   | _, _, _ => none
  | _, _ => none
 | _, _, _ => none
inductive Out where
 | val (v : Value) (h : Heap)
 | call (f : FuncId) (args : List Value)
 | defer (fn : Fn) (captured args : List Value)
def ofCall (fn : FuncId) (args : List Value) : Option Out :=
 match P.funcs[fn]? with
 | some F => match F.body with
  | some _ => some (.call fn args)
  | none => none
 | none => none
def v1 (h : Heap) : Option Value → Option Out
 | some v => some (.val v h)
 | none => none
def v2 : Option (Value × Heap) → Option Out
 | some (v, h) => some (.val v h)
 | none => none
def v3 : Option Heap → Option Out
 | some h => some (.val undef h)
 | none => none
def capOf : Value → Option Nat
 | .slice _ _ c => some c
 | _ => none
def amax : Value → Value → Option Value
 | .int k a, .int _ b => some (.int k (if b > a then b else a))
 | _, _ => none
def abuiltin (h : Heap) (b : Builtin) (argTypes : Array TypeId) (args : List Value) (c : Nat) : Option Out :=
 match b, args with
 | .len, [x] => match argTypes[0]? with
  | some t => v1 h (alen P t h x)
  | none => none
 | .cap, [x] => match argTypes[0]?, capOf x with
  | some t, some c => match P.underlying t with
   | some (.slice _) => some (.val (I c) h)
   | _ => none
  | _, _ => none
 | .append, [s, x] => v2 (aappend N P h argTypes s x c)
 | .copy, [d, s] => match argTypes[0]? with
  | some t => v2 (acopy N P h t d s)
  | none => none
 | .delete, [m, k] => match argTypes[0]? with
  | some t => v3 (adelete N P h t m k)
  | none => none
 | .max, [x, y] => v1 h (amax x y)
 | _, _ => none
def acall (tm : Tm) (h : Heap) (q : Call) (c : Nat) : Option Out :=
 let args := q.args.toList.map (eval tm)
 match q.callee with
 | .value f => match eval tm f with
  | .func (.func g) first captured => ofCall P g (first.toList ++ args ++ captured.toList)
  | _ => none
 | .invoke r name => match eval tm r with
  | .iface t v => match amethod P t name with
   | some g => ofCall P g (v :: args)
   | none => none
  | _ => none
 | .builtin b => abuiltin N P h b q.argTypes args c
def aop (tm : Tm) (h : Heap) (o : Op) (c : Nat) : Option Out :=
 match o with
 | .move x => some (.val (eval tm x) h)
 | .assign x => some (.val (eval tm x) h)
 | .pick q a b => match eval tm q with
  | .bool t => some (.val (if t then eval tm a else eval tm b) h)
  | _ => none
 | .alloc e => match zeroT P e with
  | some z => some (.val (ptr h.n 0) (h.new (.cells z.cells.toList e 0 0)))
  | none => none
 | .box e x => some (.val (ptr h.n 0) (h.new (.cells (eval tm x).cells.toList e 0 0)))
 | .build t ps => v1 h (abuild P t (aparts tm ps.toList))
 | .buildSlice t n ps => v2 (abuildSlice P h t n (aparts tm ps.toList))
 | .load t a => match eval tm a with
  | .pointer (some ⟨b, o, none⟩) => v1 h (aload P h t b o)
  | _ => none
 | .store t a x => match eval tm a with
  | .pointer (some ⟨b, o, none⟩) => v3 (astore N P h t b o (eval tm x))
  | _ => none
 | .nilCheck x => v1 h (anilCheck P (eval tm x))
 | .binOp op t x y _ => if guardOk op x y (eval tm x) (eval tm y) = true then v1 h (abin P op t (eval tm x) (eval tm y)) else none
 | .unOp op _ x => v1 h (aun op (eval tm x))
 | .convert s d x => v2 (aconv N P h s d (eval tm x) c)
 | .makeInterface t x => match P.underlying t with
  | some (.interface _) => none
  | some _ => some (.val (.iface t (eval tm x)) h)
  | none => none
 | .makeFunc fn first captured => some (.val (.func fn (first.map (eval tm)) (captured.map (eval tm))) h)
 | .makeMap t r => match opt tm r with
  | none => some (.val (.map (some h.n)) (h.new (.map [] 0)))
  | some (.int _ _) => match P.underlying t with
   | some (.map _ _) => some (.val (.map (some h.n)) (h.new (.map [] 0)))
   | _ => none
  | _ => none
 | .makeSlice t l c => v2 (amakeSlice P h t (eval tm l) (eval tm c))
 | .slice t x lo hi mx => v1 h (aslice P t (eval tm x) (opt tm lo) (opt tm hi) (opt tm mx))
 | .fieldAddr t x f => match eval tm x, fieldOff P t f with
  | .pointer (some ⟨b, o, none⟩), some (off, ft) => match sizeT P ft with
   | some 0 => none
   | some _ => some (.val (ptr b (o + off)) h)
   | none => none
  | _, _ => none
 | .field t x f => match eval tm x, fieldOff P t f with
  | .agg cs, some (off, ft) => v1 h (apart P ft cs.toList off)
  | _, _ => none
 | .indexAddr t x ix => v1 h (aindexAddr P t (eval tm x) (eval tm ix))
 | .index t x ix => v1 h (aindex P t (eval tm x) (eval tm ix))
 | .lookup t x ix ok => v1 h (alookup P h t (eval tm x) (eval tm ix) ok)
 | .mapUpdate t m k x => v3 (aupdate N P h t (eval tm m) (eval tm k) (eval tm x))
 | .range t x => v2 (arange P h t (eval tm x))
 | .next it isString => v2 (anext N h (eval tm it) isString c)
 | .entry it => v1 h (aentry h (eval tm it))
 | .typeAssert x _ asserted ok => v1 h (atypeAssert P (eval tm x) asserted ok)
 | .extract t ix => match eval tm t with
  | .tuple vs => v1 h (vs[ix]?)
  | _ => none
 | .call q => acall N P tm h q c
 | .defer q => match q.callee with
  | .value f => match eval tm f with
   | .func fn first captured => some (.defer fn captured.toList (first.toList ++ q.args.toList.map (eval tm)))
   | _ => none
  | _ => none
 | _ => none
def got {α : Type} (x : Option α) (K : α → Prop) : Prop :=
 match x with
 | some a => K a
 | none => False
def chooses : Op → Bool
 | .convert .. | .next .. => true
 | .call { callee := .builtin .append, .. } => true
 | _ => false
def opW (tm : Tm) (h : Heap) (o : Op) (K : Out → Prop) : Prop :=
 if chooses o then ∀ c, got (aop N P tm h o c) K else got (aop N P tm h o 0) K
end
inductive AE where
 | normal | exit (id : Nat) | ret
abbrev Df := List (Fn × List Value × List Value)
def ayield (ops : Array Oper) (tm : Tm) (j : Nat) : Option Bool :=
 match (ops[j]?).bind (·.dst) with
 | some t => match tget tm t with
  | .bool b => some b
  | _ => none
 | none => none
def awanted (ops : Array Oper) (tm : Tm) (o : Oper) : Bool :=
 match o.guard with
 | none => true
 | some (j, want) => ayield ops tm j == some want
def fork (t : Bool) (A B : Prop) : Prop := (t = true → A) ∧ (t = false → B)
def condW (v : Value) (A B : Prop) : Prop :=
 match v with
 | .bool t => fork t A B
 | _ => False
structure Full (w0 : World) (h : Heap) (w : World) : Prop where
 size : w.heap.size = h.n
 den : ∀ b o, h.at b = some o → w.heap[b]? = some o.obj
 below : RowKit.Below w0.heap.size w0 w
section
variable (P : Program) (w0 : World)
def ACall (f : FuncId) (args : List Value) (h : Heap) (Q : Value → Heap → Prop) : Prop :=
 ∀ w, Full w0 h w → Calls P f args.toArray w fun e w' => ∃ v h', e = .returned v ∧ Full w0 h' w' ∧ Q v h'
def ADefer (f : FuncId) (args : List Value) (h : Heap) (Q : Heap → Prop) : Prop :=
 ∀ w, Full w0 h w → CallsD P f args.toArray .returning w fun e u w' => (∃ v, e = .returned v) ∧ u = .returning ∧ ∃ h', Full w0 h' w' ∧ Q h'
def outW (o : Oper) (tm : Tm) (df : Df) (h : Heap) (K : Tm → Df → Heap → Prop) : Out → Prop
 | .val v h' => K (put tm o.dst v) df h'
 | .call f args => ACall P w0 f args h fun v h' => K (put tm o.dst v) df h'
 | .defer fn c a => K (put tm o.dst undef) ((fn, c, a) :: df) h
def oneW (ops : Array Oper) (o : Oper) (tm : Tm) (df : Df) (h : Heap) (K : Tm → Df → Heap → Prop) : Prop :=
 fork (awanted ops tm o) (opW w0.heap.size P tm h o.op (outW P w0 o tm df h K)) (K (put tm o.dst undef) df h)
def opsW (ops : Array Oper) : List Oper → Tm → Df → Heap → (Tm → Df → Heap → Prop) → Prop
 | [], tm, df, h, K => K tm df h
 | o :: l, tm, df, h, K => oneW P w0 ops o tm df h fun tm df h => opsW ops l tm df h K
end
end Go.Proofs.YtbjaapiliegegaaGreatDoor.Sy
end
