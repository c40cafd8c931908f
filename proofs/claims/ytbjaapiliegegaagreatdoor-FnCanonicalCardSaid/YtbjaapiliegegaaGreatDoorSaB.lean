/- Runs over known values: this program. -/
import Derived.KernelRfl
import Derived.Test.YtbjaapiliegegaaGreatDoorSaA
import Derived.Test.YtbjaapiliegegaaGreatDoorSaN
import Derived.Test.YtbjaapiliegegaaGreatDoorProg
namespace Go.Proofs.YtbjaapiliegegaaGreatDoor.Sy
open Go Go.RowKit

theorem wrapU8 {x : Int} (h1 : 0 ≤ x) (h2 : x < 256) : IntKind.u8.wrap x = x := by simp [IntKind.wrap, IntKind.bits, IntKind.signed]; omega
theorem abits_and (k : IntKind) (x y : Int) : abits .and k x y = some (.int k (k.wrap (BitVec.ofInt k.bits x &&& BitVec.ofInt k.bits y).toNat)) := rfl
theorem abits_or (k : IntKind) (x y : Int) : abits .or k x y = some (.int k (k.wrap (BitVec.ofInt k.bits x ||| BitVec.ofInt k.bits y).toNat)) := rfl
theorem wrap_u8 (n : Int) : IntKind.u8.wrap n = n % 256 := by simp [IntKind.wrap, IntKind.bits, IntKind.signed]
theorem wrap_u64 (n : Int) : IntKind.u64.wrap n = n % 18446744073709551616 := by simp [IntKind.wrap, IntKind.bits, IntKind.signed]
theorem all256 {p : Nat → Prop} [DecidablePred p] (h : ((List.range 256).all fun n => decide (p n)) = true) (c : UInt8) : p c.toNat := by
  have := List.all_eq_true.1 h c.toNat (List.mem_range.2 c.toNat_lt)
  simpa using this
theorem set_splice (c : List Value) (i : Nat) (v : Value) (hi : i < c.length) : splice c i [v] = c.set i v := by
  rw [List.set_eq_take_append_cons_drop, if_pos hi]
  simp [splice]
theorem cells_single {v : Value} (hv : single v = true) : v.cells = #[v] := by
  cases v <;> first | rfl | (simp [single] at hv)
/-- A built row of single cells. -/
def rowSel (s : Bool) (cells : List Value) (i : Nat) (v : Value) (rest : List (Nat × Value)) : Option (List Value) :=
  match s with
  | true => if i < cells.length then afill (rowPlace 1) (cells.set i v) rest else none
  | false => afill (rowPlace 1) cells ((i, v) :: rest)
theorem rowSel_true (cells : List Value) (i : Nat) (v : Value) (rest : List (Nat × Value)) : rowSel true cells i v rest = if i < cells.length then afill (rowPlace 1) (cells.set i v) rest else none := rfl
theorem afill_row (cells : List Value) (i : Nat) (v : Value) (rest : List (Nat × Value)) : afill (rowPlace 1) cells ((i, v) :: rest) = rowSel (single v) cells i v rest := by
  cases hv : single v with
  | false => rfl
  | true =>
    have hc := cells_single hv
    simp only [afill, rowPlace, Nat.mul_one, hc, rowSel_true]
    by_cases hi : i < cells.length
    · rw [if_pos ⟨rfl, hi⟩, if_pos hi, set_splice cells i v hi]
    · rw [if_neg (fun h => hi h.2), if_neg hi]
theorem afill_nil (f : Nat → Option (Nat × Nat)) (cells : List Value) : afill f cells [] = some cells := rfl
/-- A part of a struct. -/
def afillS (x : Option (Nat × Nat)) (s : Bool) (pl : List (Nat × Nat)) (cells : List Value) (v : Value) (rest : List (Nat × Value)) : Option (List Value) :=
  match x, s with
  | none, _ => none
  | some (off, 1), true => if off < cells.length then afill (stPlace pl) (cells.set off v) rest else none
  | some (off, size), _ => if v.cells.size = size ∧ off + size ≤ cells.length then afill (stPlace pl) (splice cells off v.cells.toList) rest else none
theorem afill_struct (pl : List (Nat × Nat)) (cells : List Value) (i : Nat) (v : Value) (rest : List (Nat × Value)) : afill (stPlace pl) cells ((i, v) :: rest) = afillS pl[i]? (single v) pl cells v rest := by
  simp only [afill, stPlace]
  cases hx : pl[i]? with
  | none => rfl
  | some p =>
    obtain ⟨off, size⟩ := p
    simp only
    by_cases hs : size = 1 ∧ single v = true
    · obtain ⟨rfl, hs⟩ := hs
      have hc := cells_single hs
      rw [hs]
      simp only [afillS, hc]
      by_cases hi : off < cells.length
      · rw [if_pos ⟨rfl, hi⟩, if_pos hi, set_splice cells off v hi]
      · rw [if_neg (fun h => hi h.2), if_neg hi]
    · have key : afillS (some (off, size)) (single v) pl cells v rest = if v.cells.size = size ∧ off + size ≤ cells.length then afill (stPlace pl) (splice cells off v.cells.toList) rest else none := by
        cases h1 : single v with
        | false => unfold afillS; split <;> first | (rename_i h; cases h; done) | (rename_i h _; cases h; rfl) | rfl
        | true =>
          unfold afillS
          split
          · rename_i h; cases h
          · rename_i h _; cases h; exact (hs ⟨rfl, h1⟩).elim
          · rename_i h _; cases h; rfl
      rw [key]
/-- The parts are single, in order, and all of them. -/
def ordered (n : Nat) : Nat → List (Nat × Value) → Bool
  | k, [] => k == n
  | k, (i, v) :: l => i == k && (single v && ordered n (k + 1) l)
def zSel (s : Bool) (x : Value) (n : Nat) (parts : List (Nat × Value)) : Option (List Value) :=
  match s with
  | true => some (parts.map (·.2))
  | false => afill (rowPlace 1) (zeros [x] n) parts
theorem zSel_true (x : Value) (n : Nat) (parts : List (Nat × Value)) : zSel true x n parts = some (parts.map (·.2)) := rfl
theorem zeros_one (x : Value) (n : Nat) : zeros [x] n = List.replicate n x := by
  induction n with
  | zero => rfl
  | succ n ih => rw [List.replicate_succ, ← ih]; simp [zeros, List.replicate_succ]
theorem ordered_fill (x : Value) (n : Nat) : ∀ (parts : List (Nat × Value)) (k : Nat) (pre : List Value), pre.length = k → ordered n k parts = true →
    afill (rowPlace 1) (pre ++ List.replicate (n - k) x) parts = some (pre ++ parts.map (·.2))
  | [], k, pre, hp, h => by
    have : k = n := by simpa [ordered] using h
    subst this
    simp [afill]
  | (i, v) :: l, k, pre, hp, h => by
    simp only [ordered, Bool.and_eq_true, beq_iff_eq] at h
    obtain ⟨rfl, hv, hl⟩ := h
    have hlt : i < n := by
      have : ∀ (l : List (Nat × Value)) (k : Nat), ordered n k l = true → k ≤ n := by
        intro l
        induction l with
        | nil => intro k h; have : k = n := by simpa [ordered] using h
                 omega
        | cons p l ih =>
          intro k h
          obtain ⟨j, u⟩ := p
          simp only [ordered, Bool.and_eq_true] at h
          have := ih _ h.2.2
          omega
      have := this l (i + 1) hl
      omega
    rw [afill_row, hv, rowSel_true, if_pos (by simp; omega)]
    have h1 : (pre ++ List.replicate (n - i) x).set i v = (pre ++ [v]) ++ List.replicate (n - (i + 1)) x := by
      rw [show n - i = (n - (i + 1)) + 1 by omega, List.replicate_succ, List.set_append_right _ _ (by omega), hp]
      simp
    rw [h1, ordered_fill x n l (i + 1) (pre ++ [v]) (by simp [hp]) hl]
    simp
theorem afill_zeros (x : Value) (n : Nat) (parts : List (Nat × Value)) : afill (rowPlace 1) (zeros [x] n) parts = zSel (ordered n 0 parts) x n parts := by
  cases h : ordered n 0 parts with
  | false => rfl
  | true =>
    have := ordered_fill x n parts 0 [] rfl h
    rw [zeros_one, zSel_true]
    simpa using this

theorem afillS_one (pl : List (Nat × Nat)) (cells : List Value) (off : Nat) (v : Value) (rest : List (Nat × Value)) :
    afillS (some (off, 1)) true pl cells v rest = if off < cells.length then afill (stPlace pl) (cells.set off v) rest else none := rfl
theorem afillS_agg (pl : List (Nat × Nat)) (cells : List Value) (off n : Nat) (a : Array Value) (rest : List (Nat × Value)) :
    afillS (some (off, n)) false pl cells (.agg a) rest = if a.size = n ∧ off + n ≤ cells.length then afill (stPlace pl) (splice cells off a.toList) rest else none := by
  unfold afillS
  split <;> first | (rename_i h; cases h; done) | skip
  rename_i h _
  cases h
  rfl
theorem zeros_zero (z : List Value) : zeros z 0 = [] := rfl
theorem zeros_succ (z : List Value) (n : Nat) : zeros z (n + 1) = z ++ zeros z n := by simp [zeros, List.replicate_succ]
theorem byteVals_get (l : List UInt8) (i : Nat) (hi : i < l.length) : (byteVals l)[i]? = some (B (nth l i)) := by
  unfold byteVals
  rw [List.getElem?_map, nth_get hi]
  rfl
theorem byteVals_length (l : List UInt8) : (byteVals l).length = l.length := by simp [byteVals]
theorem byteVals_app_get (l : List UInt8) (r : List Value) (i : Nat) (hi : i < l.length) : (byteVals l ++ r)[i]? = some (B (nth l i)) := by
  rw [List.getElem?_append_left (by rw [byteVals_length]; exact hi), byteVals_get l i hi]
theorem byteVals_app_set (l : List UInt8) (r : List Value) (i : Nat) (c : UInt8) (hi : i < l.length) : (byteVals l ++ r).set i (B c) = byteVals (l.set i c) ++ r := by
  rw [List.set_append_left _ _ (by rw [byteVals_length]; exact hi)]
  simp [byteVals, List.map_set]
theorem take_snoc (l : List UInt8) (k : Nat) (hk : k < l.length) : l.take (k + 1) = l.take k ++ [nth l k] := by
  rw [List.take_add_one, nth_get hk]
  rfl
theorem byte_eq {a b : UInt8} (h : (a.toNat : Int) = (b.toNat : Int)) : a = b := UInt8.toNat_inj.1 (by omega)
theorem byte_ne {a b : UInt8} (h : ¬ (a.toNat : Int) = (b.toNat : Int)) : a ≠ b := fun e => h (by rw [e])
theorem byte_lt (c : UInt8) : (c.toNat : Int) < 256 := by have := c.toNat_lt; omega
theorem byte_ge (c : UInt8) : 0 ≤ (c.toNat : Int) := by omega

/-- The blocks that stood are as they were. -/
def Ext (h h' : Heap) : Prop := h.n ≤ h'.n ∧ ∀ b, b < h.n → h'.at b = h.at b
theorem Ext.refl (h : Heap) : Ext h h := ⟨Nat.le_refl _, fun _ _ => rfl⟩
theorem Ext.trans {a b c : Heap} (h : Ext a b) (k : Ext b c) : Ext a c := ⟨Nat.le_trans h.1 k.1, fun x hx => (k.2 x (Nat.lt_of_lt_of_le hx h.1)).trans (h.2 x hx)⟩
theorem Ext.new {h h' : Heap} (e : Ext h h') (o : AO) : Ext h (h'.new o) := ⟨Nat.le_succ_of_le e.1, fun b hb => by rw [at_new_ne _ _ (Nat.ne_of_lt (Nat.lt_of_lt_of_le hb e.1))]; exact e.2 b hb⟩
theorem Ext.put {h h' : Heap} (e : Ext h h') {b : Nat} (hb : h.n ≤ b) (o : AO) : Ext h (h'.put b o) := ⟨e.1, fun c hc => by rw [at_put_ne _ _ (by omega)]; exact e.2 c hc⟩

theorem fork_some (b : Bool) : (some b == some true) = b := by cases b <;> rfl
theorem fork_somef (b : Bool) : (some b == some false) = !b := by cases b <;> rfl
theorem wrap64 {x : Int} (h1 : -9223372036854775808 ≤ x) (h2 : x < 9223372036854775808) : IntKind.i64.wrap x = x := by rw [IntKind.wrap_i64]; omega
theorem single_int (k : IntKind) (n : Int) : single (.int k n) = true := rfl
theorem single_bool (b : Bool) : single (.bool b) = true := rfl
theorem single_string (b : ByteArray) : single (.string b) = true := rfl
theorem single_pointer (a : Option Addr) : single (.pointer a) = true := rfl
theorem single_slice (a : Option Addr) (n c : Nat) : single (.slice a n c) = true := rfl
theorem single_map (a : Option Nat) : single (.map a) = true := rfl
theorem single_iface (t : TypeId) (v : Value) : single (.iface t v) = true := rfl
theorem single_nilIface : single .nilIface = true := rfl
theorem single_nilFunc : single .nilFunc = true := rfl
theorem single_func (f : Fn) (a b : Array Value) : single (.func f a b) = true := rfl
theorem single_agg (a : Array Value) : single (.agg a) = false := rfl
theorem all_nil : (∀ v ∈ ([] : List Value), single v = true) ↔ True := by simp
theorem all_cons (a : Value) (l : List Value) : (∀ v ∈ a :: l, single v = true) ↔ single a = true ∧ ∀ v ∈ l, single v = true := by simp
theorem all_bytes (m : List UInt8) : (∀ v ∈ byteVals m, single v = true) ↔ True := by
  refine ⟨fun _ => trivial, fun _ v hv => ?_⟩
  unfold byteVals at hv
  obtain ⟨c, _, rfl⟩ := List.mem_map.1 hv
  rfl
end Go.Proofs.YtbjaapiliegegaaGreatDoor.Sy
