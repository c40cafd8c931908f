/- Of the proof of FnNoBody: SaT SaN SaB SaR. -/
import Derived.KernelRfl
import Derived.Test.YtbjaapiliegegaaGreatDoorNb00
import Derived.Test.YtbjaapiliegegaaGreatDoorProg
import Derived.Test.YtbjaapiliegegaaGreatDoorNb03
import Derived.Test.YtbjaapiliegegaaGreatDoorSaA
set_option linter.unusedVariables false
set_option linter.unusedSimpArgs false
section
namespace Go.Proofs.YtbjaapiliegegaaGreatDoor.Sy
open Go
theorem a_2 : aggT Tryz.prog 2 = some false := by kernel_rfl
theorem s_2 : sizeT Tryz.prog 2 = some 1 := by kernel_rfl
theorem a_3 : aggT Tryz.prog 3 = some false := by kernel_rfl
theorem s_3 : sizeT Tryz.prog 3 = some 1 := by kernel_rfl
theorem z_3 : zeroT Tryz.prog 3 = some (.int .i64 (0)) := by kernel_rfl
theorem a_4 : aggT Tryz.prog 4 = some false := by kernel_rfl
theorem s_4 : sizeT Tryz.prog 4 = some 1 := by kernel_rfl
theorem z_4 : zeroT Tryz.prog 4 = some (.bool false) := by kernel_rfl
theorem a_5 : aggT Tryz.prog 5 = some false := by kernel_rfl
theorem s_5 : sizeT Tryz.prog 5 = some 1 := by kernel_rfl
theorem b_5 : bytesT Tryz.prog 5 = some 1 := by kernel_rfl
theorem z_5 : zeroT Tryz.prog 5 = some (.int .u8 (0)) := by kernel_rfl
theorem a_9 : aggT Tryz.prog 9 = some false := by kernel_rfl
theorem s_9 : sizeT Tryz.prog 9 = some 1 := by kernel_rfl
theorem b_9 : bytesT Tryz.prog 9 = some 16 := by kernel_rfl
theorem z_9 : zeroT Tryz.prog 9 = some (.string ⟨#[]⟩) := by kernel_rfl
theorem a_27 : aggT Tryz.prog 27 = some false := by kernel_rfl
theorem s_27 : sizeT Tryz.prog 27 = some 1 := by kernel_rfl
theorem b_27 : bytesT Tryz.prog 27 = some 24 := by kernel_rfl
theorem z_27 : zeroT Tryz.prog 27 = some (.slice none 0 0) := by kernel_rfl
theorem a_29 : aggT Tryz.prog 29 = some false := by kernel_rfl
theorem s_29 : sizeT Tryz.prog 29 = some 1 := by kernel_rfl
theorem a_31 : aggT Tryz.prog 31 = some true := by kernel_rfl
theorem s_31 : sizeT Tryz.prog 31 = some 9 := by kernel_rfl
theorem f_31_0 : fieldOff Tryz.prog 31 0 = some (0, 9) := by kernel_rfl
theorem f_31_1 : fieldOff Tryz.prog 31 1 = some (1, 9) := by kernel_rfl
theorem f_31_2 : fieldOff Tryz.prog 31 2 = some (2, 3) := by kernel_rfl
theorem f_31_3 : fieldOff Tryz.prog 31 3 = some (3, 9) := by kernel_rfl
theorem f_31_4 : fieldOff Tryz.prog 31 4 = some (4, 3) := by kernel_rfl
theorem f_31_5 : fieldOff Tryz.prog 31 5 = some (5, 3) := by kernel_rfl
theorem f_31_6 : fieldOff Tryz.prog 31 6 = some (6, 29) := by kernel_rfl
theorem f_31_7 : fieldOff Tryz.prog 31 7 = some (7, 27) := by kernel_rfl
theorem f_31_8 : fieldOff Tryz.prog 31 8 = some (8, 29) := by kernel_rfl
theorem a_35 : aggT Tryz.prog 35 = some true := by kernel_rfl
theorem s_35 : sizeT Tryz.prog 35 = some 14 := by kernel_rfl
theorem z_35 : zeroT Tryz.prog 35 = some (.agg #[.string ⟨#[]⟩, .string ⟨#[]⟩, .int .i64 (0), .string ⟨#[]⟩, .int .i64 (0), .int .i64 (0), .slice none 0 0, .slice none 0 0, .slice none 0 0, .string ⟨#[]⟩, .int .i64 (0), .bool false, .bool false, .int .i64 (0)]) := by kernel_rfl
theorem f_35_0 : fieldOff Tryz.prog 35 0 = some (0, 31) := by kernel_rfl
theorem f_35_2 : fieldOff Tryz.prog 35 2 = some (10, 2) := by kernel_rfl
theorem f_35_3 : fieldOff Tryz.prog 35 3 = some (11, 4) := by kernel_rfl
theorem f_35_4 : fieldOff Tryz.prog 35 4 = some (12, 4) := by kernel_rfl
theorem f_35_5 : fieldOff Tryz.prog 35 5 = some (13, 3) := by kernel_rfl
theorem p_35 : partsT Tryz.prog 35 = some [(0, 9), (9, 1), (10, 1), (11, 1), (12, 1), (13, 1)] := by kernel_rfl
theorem s_38 : sizeT Tryz.prog 38 = some 1 := by kernel_rfl
theorem a_40 : aggT Tryz.prog 40 = some true := by kernel_rfl
theorem s_40 : sizeT Tryz.prog 40 = some 14 := by kernel_rfl
theorem z_40 : zeroT Tryz.prog 40 = some (.agg #[.string ⟨#[]⟩, .string ⟨#[]⟩, .int .i64 (0), .string ⟨#[]⟩, .int .i64 (0), .int .i64 (0), .string ⟨#[]⟩, .slice none 0 0, .int .i64 (0), .bool false, .bool false, .slice none 0 0, .bool false, .slice none 0 0]) := by kernel_rfl
theorem f_40_2 : fieldOff Tryz.prog 40 2 = some (2, 3) := by kernel_rfl
theorem f_40_11 : fieldOff Tryz.prog 40 11 = some (11, 27) := by kernel_rfl
theorem f_40_12 : fieldOff Tryz.prog 40 12 = some (12, 4) := by kernel_rfl
theorem f_40_13 : fieldOff Tryz.prog 40 13 = some (13, 38) := by kernel_rfl
theorem p_40 : partsT Tryz.prog 40 = some [(0, 1), (1, 1), (2, 1), (3, 1), (4, 1), (5, 1), (6, 1), (7, 1), (8, 1), (9, 1), (10, 1), (11, 1), (12, 1), (13, 1)] := by kernel_rfl
theorem a_60 : aggT Tryz.prog 60 = some true := by kernel_rfl
theorem s_60 : sizeT Tryz.prog 60 = some 2 := by kernel_rfl
theorem b_60 : bytesT Tryz.prog 60 = some 32 := by kernel_rfl
theorem z_60 : zeroT Tryz.prog 60 = some (.agg #[.string ⟨#[]⟩, .string ⟨#[]⟩]) := by kernel_rfl
theorem f_60_0 : fieldOff Tryz.prog 60 0 = some (0, 9) := by kernel_rfl
theorem f_60_1 : fieldOff Tryz.prog 60 1 = some (1, 9) := by kernel_rfl
theorem p_60 : partsT Tryz.prog 60 = some [(0, 1), (1, 1)] := by kernel_rfl
theorem z_64 : zeroT Tryz.prog 64 = some (.agg #[.slice none 0 0, .int .i64 (0)]) := by kernel_rfl
theorem f_64_0 : fieldOff Tryz.prog 64 0 = some (0, 27) := by kernel_rfl
theorem f_64_1 : fieldOff Tryz.prog 64 1 = some (1, 3) := by kernel_rfl
theorem p_64 : partsT Tryz.prog 64 = some [(0, 1), (1, 1)] := by kernel_rfl
theorem a_75 : aggT Tryz.prog 75 = some false := by kernel_rfl
theorem s_75 : sizeT Tryz.prog 75 = some 1 := by kernel_rfl
theorem z_75 : zeroT Tryz.prog 75 = some (.pointer none) := by kernel_rfl
theorem m_75_Read : amethod Tryz.prog 75 "Read" = some 307 := by kernel_rfl
theorem z_77 : zeroT Tryz.prog 77 = some (.pointer none) := by kernel_rfl
theorem a_79 : aggT Tryz.prog 79 = some false := by kernel_rfl
theorem s_79 : sizeT Tryz.prog 79 = some 1 := by kernel_rfl
theorem a_82 : aggT Tryz.prog 82 = some false := by kernel_rfl
theorem s_82 : sizeT Tryz.prog 82 = some 1 := by kernel_rfl
theorem z_82 : zeroT Tryz.prog 82 = some (.pointer none) := by kernel_rfl
theorem a_85 : aggT Tryz.prog 85 = some false := by kernel_rfl
theorem s_85 : sizeT Tryz.prog 85 = some 1 := by kernel_rfl
theorem k_85 : strMap Tryz.prog 85 = some 88 := by kernel_rfl
theorem a_87 : aggT Tryz.prog 87 = some false := by kernel_rfl
theorem s_87 : sizeT Tryz.prog 87 = some 1 := by kernel_rfl
theorem a_88 : aggT Tryz.prog 88 = some false := by kernel_rfl
theorem s_88 : sizeT Tryz.prog 88 = some 1 := by kernel_rfl
theorem z_88 : zeroT Tryz.prog 88 = some (.slice none 0 0) := by kernel_rfl
theorem z_90 : zeroT Tryz.prog 90 = some (.agg #[.string ⟨#[]⟩, .int .i64 (0), .string ⟨#[]⟩, .int .i64 (0), .int .i64 (0), .map none, .nilIface, .int .i64 (0), .slice none 0 0, .bool false, .bool false, .map none, .pointer none]) := by kernel_rfl
theorem f_90_0 : fieldOff Tryz.prog 90 0 = some (0, 9) := by kernel_rfl
theorem f_90_1 : fieldOff Tryz.prog 90 1 = some (1, 3) := by kernel_rfl
theorem f_90_2 : fieldOff Tryz.prog 90 2 = some (2, 9) := by kernel_rfl
theorem f_90_3 : fieldOff Tryz.prog 90 3 = some (3, 3) := by kernel_rfl
theorem f_90_4 : fieldOff Tryz.prog 90 4 = some (4, 3) := by kernel_rfl
theorem f_90_5 : fieldOff Tryz.prog 90 5 = some (5, 85) := by kernel_rfl
theorem f_90_6 : fieldOff Tryz.prog 90 6 = some (6, 87) := by kernel_rfl
theorem f_90_7 : fieldOff Tryz.prog 90 7 = some (7, 2) := by kernel_rfl
theorem f_90_8 : fieldOff Tryz.prog 90 8 = some (8, 88) := by kernel_rfl
theorem f_90_9 : fieldOff Tryz.prog 90 9 = some (9, 4) := by kernel_rfl
theorem f_90_11 : fieldOff Tryz.prog 90 11 = some (11, 85) := by kernel_rfl
theorem f_90_12 : fieldOff Tryz.prog 90 12 = some (12, 82) := by kernel_rfl
theorem p_90 : partsT Tryz.prog 90 = some [(0, 1), (1, 1), (2, 1), (3, 1), (4, 1), (5, 1), (6, 1), (7, 1), (8, 1), (9, 1), (10, 1), (11, 1), (12, 1)] := by kernel_rfl
theorem z_104 : zeroT Tryz.prog 104 = some (.agg #[.string ⟨#[]⟩, .pointer none, .string ⟨#[]⟩, .int .i64 (0), .int .i64 (0), .map none, .nilIface, .int .i64 (0), .slice none 0 0, .bool false, .string ⟨#[]⟩, .map none, .string ⟨#[]⟩, .string ⟨#[]⟩, .pointer none]) := by kernel_rfl
theorem f_104_0 : fieldOff Tryz.prog 104 0 = some (0, 9) := by kernel_rfl
theorem p_104 : partsT Tryz.prog 104 = some [(0, 1), (1, 1), (2, 1), (3, 1), (4, 1), (5, 1), (6, 1), (7, 1), (8, 1), (9, 1), (10, 1), (11, 1), (12, 1), (13, 1), (14, 1)] := by kernel_rfl
theorem s_107 : sizeT Tryz.prog 107 = some 2 := by kernel_rfl
theorem b_107 : bytesT Tryz.prog 107 = some 32 := by kernel_rfl
theorem z_107 : zeroT Tryz.prog 107 = some (.agg #[.string ⟨#[]⟩, .string ⟨#[]⟩]) := by kernel_rfl
theorem p_107 : partsT Tryz.prog 107 = some [(0, 1), (1, 1)] := by kernel_rfl
theorem m_125_Read : amethod Tryz.prog 125 "Read" = some 312 := by kernel_rfl
theorem z_127 : zeroT Tryz.prog 127 = some (.agg #[.slice none 0 0]) := by kernel_rfl
theorem f_127_0 : fieldOff Tryz.prog 127 0 = some (0, 27) := by kernel_rfl
theorem p_127 : partsT Tryz.prog 127 = some [(0, 1)] := by kernel_rfl
theorem c_132 : cmpT Tryz.prog 132 = some true := by kernel_rfl
theorem k_138 : strMap Tryz.prog 138 = some 88 := by kernel_rfl
theorem a_159 : aggT Tryz.prog 159 = some false := by kernel_rfl
theorem s_159 : sizeT Tryz.prog 159 = some 1 := by kernel_rfl
theorem a_161 : aggT Tryz.prog 161 = some false := by kernel_rfl
theorem s_161 : sizeT Tryz.prog 161 = some 1 := by kernel_rfl
theorem z_163 : zeroT Tryz.prog 163 = some (.agg #[.pointer none, .pointer none, .slice none 0 0]) := by kernel_rfl
theorem f_163_0 : fieldOff Tryz.prog 163 0 = some (0, 75) := by kernel_rfl
theorem f_163_1 : fieldOff Tryz.prog 163 1 = some (1, 161) := by kernel_rfl
theorem f_163_2 : fieldOff Tryz.prog 163 2 = some (2, 27) := by kernel_rfl
theorem p_163 : partsT Tryz.prog 163 = some [(0, 1), (1, 1), (2, 1)] := by kernel_rfl
theorem z_170 : zeroT Tryz.prog 170 = some (.agg #[.map none, .int .i64 (0), .string ⟨#[]⟩, .int .i64 (0), .int .i64 (0), .nilIface, .int .i64 (0), .bool false, .bool false, .map none]) := by kernel_rfl
theorem f_170_0 : fieldOff Tryz.prog 170 0 = some (0, 85) := by kernel_rfl
theorem f_170_1 : fieldOff Tryz.prog 170 1 = some (1, 3) := by kernel_rfl
theorem f_170_2 : fieldOff Tryz.prog 170 2 = some (2, 9) := by kernel_rfl
theorem f_170_3 : fieldOff Tryz.prog 170 3 = some (3, 3) := by kernel_rfl
theorem f_170_4 : fieldOff Tryz.prog 170 4 = some (4, 3) := by kernel_rfl
theorem f_170_5 : fieldOff Tryz.prog 170 5 = some (5, 87) := by kernel_rfl
theorem f_170_6 : fieldOff Tryz.prog 170 6 = some (6, 2) := by kernel_rfl
theorem f_170_7 : fieldOff Tryz.prog 170 7 = some (7, 4) := by kernel_rfl
theorem f_170_8 : fieldOff Tryz.prog 170 8 = some (8, 4) := by kernel_rfl
theorem f_170_9 : fieldOff Tryz.prog 170 9 = some (9, 85) := by kernel_rfl
theorem p_170 : partsT Tryz.prog 170 = some [(0, 1), (1, 1), (2, 1), (3, 1), (4, 1), (5, 1), (6, 1), (7, 1), (8, 1), (9, 1)] := by kernel_rfl
theorem a_180 : aggT Tryz.prog 180 = some true := by kernel_rfl
theorem s_180 : sizeT Tryz.prog 180 = some 0 := by kernel_rfl
theorem z_180 : zeroT Tryz.prog 180 = some (.agg #[]) := by kernel_rfl
theorem p_180 : partsT Tryz.prog 180 = some [] := by kernel_rfl
theorem m_180_Read : amethod Tryz.prog 180 "Read" = some 316 := by kernel_rfl
theorem s_217 : sizeT Tryz.prog 217 = some 7 := by kernel_rfl
theorem z_217 : zeroT Tryz.prog 217 = some (.agg #[.slice none 0 0, .nilIface, .int .i64 (0), .int .i64 (0), .nilIface, .int .i64 (0), .int .i64 (0)]) := by kernel_rfl
theorem f_217_0 : fieldOff Tryz.prog 217 0 = some (0, 27) := by kernel_rfl
theorem f_217_1 : fieldOff Tryz.prog 217 1 = some (1, 159) := by kernel_rfl
theorem f_217_2 : fieldOff Tryz.prog 217 2 = some (2, 3) := by kernel_rfl
theorem f_217_3 : fieldOff Tryz.prog 217 3 = some (3, 3) := by kernel_rfl
theorem f_217_4 : fieldOff Tryz.prog 217 4 = some (4, 79) := by kernel_rfl
theorem f_217_5 : fieldOff Tryz.prog 217 5 = some (5, 3) := by kernel_rfl
theorem f_217_6 : fieldOff Tryz.prog 217 6 = some (6, 3) := by kernel_rfl
theorem p_217 : partsT Tryz.prog 217 = some [(0, 1), (1, 1), (2, 1), (3, 1), (4, 1), (5, 1), (6, 1)] := by kernel_rfl
theorem z_232 : zeroT Tryz.prog 232 = some (.agg #[.string ⟨#[]⟩]) := by kernel_rfl
theorem p_232 : partsT Tryz.prog 232 = some [(0, 1)] := by kernel_rfl
theorem c_273 : cmpT Tryz.prog 273 = some true := by kernel_rfl
end Go.Proofs.YtbjaapiliegegaaGreatDoor.Sy
end
section
namespace Go.Proofs.YtbjaapiliegegaaGreatDoor.Sy
open Go Go.RowKit
theorem mixed : Tryz.prog.follows .mixedOrders = true := by kernel_rfl
theorem noCount_all : (Tryz.prog.funcs.all fun F => !(F.name == "runtime.NumGoroutine")) = true := by kernel_rfl
theorem noCount : NoCount Tryz.prog := by
 intro f F hF
 have := Array.all_eq_true_iff_forall_mem.1 noCount_all F (Array.mem_of_getElem? hF)
 simpa using this
end Go.Proofs.YtbjaapiliegegaaGreatDoor.Sy
end
section
namespace Go.Proofs.YtbjaapiliegegaaGreatDoor.Sy
open Go Go.RowKit
theorem abits_and (k : IntKind) (x y : Int) : abits .and k x y = some (.int k (k.wrap (BitVec.ofInt k.bits x &&& BitVec.ofInt k.bits y).toNat)) := rfl
theorem abits_or (k : IntKind) (x y : Int) : abits .or k x y = some (.int k (k.wrap (BitVec.ofInt k.bits x ||| BitVec.ofInt k.bits y).toNat)) := rfl
theorem wrap_u8 (n : Int) : IntKind.u8.wrap n = n % 256 := by simp [IntKind.wrap, IntKind.bits, IntKind.signed]
theorem wrap_u64 (n : Int) : IntKind.u64.wrap n = n % 18446744073709551616 := by simp [IntKind.wrap, IntKind.bits, IntKind.signed]
theorem all256 {p : Nat → Prop} [DecidablePred p] (h : ((List.range 256).all fun n => decide (p n)) = true) (c : UInt8) : p c.toNat := by
 have := List.all_eq_true.1 h c.toNat (List.mem_range.2 c.toNat_lt)
 simpa using this
theorem set_splice (c : List Value) (i : Nat) (v : Value) (hi : i < c.length) : splice c i [v] = c.set i v := by
 rw [List.set_eq_take_append_cons_drop, if_pos hi]
 simp [splice]
theorem cells_single {v : Value} (hv : single v = true) : v.cells = #[v] := by
 cases v <;> first | rfl | (simp [single] at hv)
def rowSel (s : Bool) (cells : List Value) (i : Nat) (v : Value) (rest : List (Nat × Value)) : Option (List Value) :=
 match s with
 | true => if i < cells.length then afill (rowPlace 1) (cells.set i v) rest else none
 | false => afill (rowPlace 1) cells ((i, v) :: rest)
theorem rowSel_true (cells : List Value) (i : Nat) (v : Value) (rest : List (Nat × Value)) : rowSel true cells i v rest = if i < cells.length then afill (rowPlace 1) (cells.set i v) rest else none := rfl
theorem afill_row (cells : List Value) (i : Nat) (v : Value) (rest : List (Nat × Value)) : afill (rowPlace 1) cells ((i, v) :: rest) = rowSel (single v) cells i v rest := by
 cases hv : single v with
 | false => rfl
 | true =>
  have hc := cells_single hv
  simp only [afill, rowPlace, Nat.mul_one, hc, rowSel_true]
  by_cases hi : i < cells.length
  ·rw [if_pos ⟨rfl, hi⟩, if_pos hi, set_splice cells i v hi]
  ·rw [if_neg (fun h => hi h.2), if_neg hi]
theorem afill_nil (f : Nat → Option (Nat × Nat)) (cells : List Value) : afill f cells [] = some cells := rfl
def afillS (x : Option (Nat × Nat)) (s : Bool) (pl : List (Nat × Nat)) (cells : List Value) (v : Value) (rest : List (Nat × Value)) : Option (List Value) :=
 match x, s with
 | none, _ => none
 | some (off, 1), true => if off < cells.length then afill (stPlace pl) (cells.set off v) rest else none
 | some (off, size), _ => if v.cells.size = size ∧ off + size ≤ cells.length then afill (stPlace pl) (splice cells off v.cells.toList) rest else none
theorem afill_struct (pl : List (Nat × Nat)) (cells : List Value) (i : Nat) (v : Value) (rest : List (Nat × Value)) : afill (stPlace pl) cells ((i, v) :: rest) = afillS pl[i]? (single v) pl cells v rest := by
 simp only [afill, stPlace]
 cases hx : pl[i]? with
 | none => rfl
 | some p =>
  obtain ⟨off, size⟩ := p
  simp only
  by_cases hs : size = 1 ∧ single v = true
  ·obtain ⟨rfl, hs⟩ := hs
   have hc := cells_single hs
   rw [hs]
   simp only [afillS, hc]
   by_cases hi : off < cells.length
   ·rw [if_pos ⟨rfl, hi⟩, if_pos hi, set_splice cells off v hi]
   ·rw [if_neg (fun h => hi h.2), if_neg hi]
  ·have key : afillS (some (off, size)) (single v) pl cells v rest = if v.cells.size = size ∧ off + size ≤ cells.length then afill (stPlace pl) (splice cells off v.cells.toList) rest else none := by
    cases h1 : single v with
    | false => unfold afillS; split <;> first | (rename_i h; cases h; done) | (rename_i h _; cases h; rfl) | rfl
    | true =>
     unfold afillS
     split
     ·rename_i h; cases h
     ·rename_i h _; cases h; exact (hs ⟨rfl, h1⟩).elim
     ·rename_i h _; cases h; rfl
   rw [key]
def ordered (n : Nat) : Nat → List (Nat × Value) → Bool
 | k, [] => k == n
 | k, (i, v) :: l => i == k && (single v && ordered n (k + 1) l)
def zSel (s : Bool) (x : Value) (n : Nat) (parts : List (Nat × Value)) : Option (List Value) :=
 match s with
 | true => some (parts.map (·.2))
 | false => afill (rowPlace 1) (zeros [x] n) parts
theorem zSel_true (x : Value) (n : Nat) (parts : List (Nat × Value)) : zSel true x n parts = some (parts.map (·.2)) := rfl
theorem zeros_one (x : Value) (n : Nat) : zeros [x] n = List.replicate n x := by
 induction n with
 | zero => rfl
 | succ n ih => rw [List.replicate_succ, ← ih]; simp [zeros, List.replicate_succ]
theorem ordered_fill (x : Value) (n : Nat) : ∀ (parts : List (Nat × Value)) (k : Nat) (pre : List Value), pre.length = k → ordered n k parts = true →
    afill (rowPlace 1) (pre ++ List.replicate (n - k) x) parts = some (pre ++ parts.map (·.2))
  | [], k, pre, hp, h => by
    have : k = n := by simpa [ordered] using h
    subst this
    simp [afill]
  | (i, v) :: l, k, pre, hp, h => by
    simp only [ordered, Bool.and_eq_true, beq_iff_eq] at h
    obtain ⟨rfl, hv, hl⟩ := h
    have hlt : i < n := by
      have : ∀ (l : List (Nat × Value)) (k : Nat), ordered n k l = true → k ≤ n := by
        intro l
        induction l with
        | nil => intro k h; have : k = n := by simpa [ordered] using h
                 omega
        | cons p l ih =>
          intro k h
          obtain ⟨j, u⟩ := p
          simp only [ordered, Bool.and_eq_true] at h
          have := ih _ h.2.2
          omega
      have := this l (i + 1) hl
      omega
    rw [afill_row, hv, rowSel_true, if_pos (by simp; omega)]
    have h1 : (pre ++ List.replicate (n - i) x).set i v = (pre ++ [v]) ++ List.replicate (n - (i + 1)) x := by
      rw [show n - i = (n - (i + 1)) + 1 by omega, List.replicate_succ, List.set_append_right _ _ (by omega), hp]
      simp
    rw [h1, ordered_fill x n l (i + 1) (pre ++ [v]) (by simp [hp]) hl]
    simp
theorem afill_zeros (x : Value) (n : Nat) (parts : List (Nat × Value)) : afill (rowPlace 1) (zeros [x] n) parts = zSel (ordered n 0 parts) x n parts := by
 cases h : ordered n 0 parts with
 | false => rfl
 | true =>
  have := ordered_fill x n parts 0 [] rfl h
  rw [zeros_one, zSel_true]
  simpa using this
theorem afillS_one (pl : List (Nat × Nat)) (cells : List Value) (off : Nat) (v : Value) (rest : List (Nat × Value)) :
  afillS (some (off, 1)) true pl cells v rest = if off < cells.length then afill (stPlace pl) (cells.set off v) rest else none := rfl
theorem afillS_agg (pl : List (Nat × Nat)) (cells : List Value) (off n : Nat) (a : Array Value) (rest : List (Nat × Value)) :
  afillS (some (off, n)) false pl cells (.agg a) rest = if a.size = n ∧ off + n ≤ cells.length then afill (stPlace pl) (splice cells off a.toList) rest else none := by
 unfold afillS
 split <;> first | (rename_i h; cases h; done) | skip
 rename_i h _
 cases h
 rfl
theorem byteVals_get (l : List UInt8) (i : Nat) (hi : i < l.length) : (byteVals l)[i]? = some (B (nth l i)) := by
 unfold byteVals
 rw [List.getElem?_map, nth_get hi]
 rfl
theorem byteVals_length (l : List UInt8) : (byteVals l).length = l.length := by simp [byteVals]
theorem byteVals_app_get (l : List UInt8) (r : List Value) (i : Nat) (hi : i < l.length) : (byteVals l ++ r)[i]? = some (B (nth l i)) := by
 rw [List.getElem?_append_left (by rw [byteVals_length]; exact hi), byteVals_get l i hi]
theorem byteVals_app_set (l : List UInt8) (r : List Value) (i : Nat) (c : UInt8) (hi : i < l.length) : (byteVals l ++ r).set i (B c) = byteVals (l.set i c) ++ r := by
 rw [List.set_append_left _ _ (by rw [byteVals_length]; exact hi)]
 simp [byteVals, List.map_set]
theorem take_snoc (l : List UInt8) (k : Nat) (hk : k < l.length) : l.take (k + 1) = l.take k ++ [nth l k] := by
 rw [List.take_add_one, nth_get hk]
 rfl
theorem byte_eq {a b : UInt8} (h : (a.toNat : Int) = (b.toNat : Int)) : a = b := UInt8.toNat_inj.1 (by omega)
theorem byte_ne {a b : UInt8} (h : ¬ (a.toNat : Int) = (b.toNat : Int)) : a ≠ b := fun e => h (by rw [e])
theorem byte_ge (c : UInt8) : 0 ≤ (c.toNat : Int) := by omega
def Ext (h h' : Heap) : Prop := h.n ≤ h'.n ∧ ∀ b, b < h.n → h'.at b = h.at b
theorem Ext.refl (h : Heap) : Ext h h := ⟨Nat.le_refl _, fun _ _ => rfl⟩
theorem Ext.trans {a b c : Heap} (h : Ext a b) (k : Ext b c) : Ext a c := ⟨Nat.le_trans h.1 k.1, fun x hx => (k.2 x (Nat.lt_of_lt_of_le hx h.1)).trans (h.2 x hx)⟩
theorem Ext.new {h h' : Heap} (e : Ext h h') (o : AO) : Ext h (h'.new o) := ⟨Nat.le_succ_of_le e.1, fun b hb => by rw [at_new_ne _ _ (Nat.ne_of_lt (Nat.lt_of_lt_of_le hb e.1))]; exact e.2 b hb⟩
theorem Ext.put {h h' : Heap} (e : Ext h h') {b : Nat} (hb : h.n ≤ b) (o : AO) : Ext h (h'.put b o) := ⟨e.1, fun c hc => by rw [at_put_ne _ _ (by omega)]; exact e.2 c hc⟩
theorem fork_some (b : Bool) : (some b == some true) = b := by cases b <;> rfl
theorem fork_somef (b : Bool) : (some b == some false) = !b := by cases b <;> rfl
theorem wrap64 {x : Int} (h1 : -9223372036854775808 ≤ x) (h2 : x < 9223372036854775808) : IntKind.i64.wrap x = x := by rw [IntKind.wrap_i64]; omega
theorem single_int (k : IntKind) (n : Int) : single (.int k n) = true := rfl
theorem single_bool (b : Bool) : single (.bool b) = true := rfl
theorem single_string (b : ByteArray) : single (.string b) = true := rfl
theorem single_pointer (a : Option Addr) : single (.pointer a) = true := rfl
theorem single_slice (a : Option Addr) (n c : Nat) : single (.slice a n c) = true := rfl
theorem single_map (a : Option Nat) : single (.map a) = true := rfl
theorem single_iface (t : TypeId) (v : Value) : single (.iface t v) = true := rfl
theorem single_nilIface : single .nilIface = true := rfl
theorem single_nilFunc : single .nilFunc = true := rfl
theorem single_func (f : Fn) (a b : Array Value) : single (.func f a b) = true := rfl
theorem single_agg (a : Array Value) : single (.agg a) = false := rfl
theorem all_nil : (∀ v ∈ ([] : List Value), single v = true) ↔ True := by simp
theorem all_cons (a : Value) (l : List Value) : (∀ v ∈ a :: l, single v = true) ↔ single a = true ∧ ∀ v ∈ l, single v = true := by simp
theorem all_bytes (m : List UInt8) : (∀ v ∈ byteVals m, single v = true) ↔ True := by
 refine ⟨fun _ => trivial, fun _ v hv => ?_⟩
 unfold byteVals at hv
 obtain ⟨c, _, rfl⟩ := List.mem_map.1 hv
 rfl
end Go.Proofs.YtbjaapiliegegaaGreatDoor.Sy
end
section
namespace Go.Proofs.YtbjaapiliegegaaGreatDoor.Sy
open Go
attribute [push_cast] M_nil M_skip M_seq M_cond M_exit M_ret M_region M_endb M_endb_exit M_endb_ret M_code_exit M_code_ret M_ops_nil M_ops_cons M_plan_nil M_plan_cons oneM_true oneM_ch oneM_false oneP_still oneP_still_false oneP_load oneP_load_false readP_load readV_ptr oneP_do oneP_ch oneP_do_false fork_true fork_false condM_true condM_false outM_val outM_call outM_defer outM_ite outP_val outP_call outP_ite valP_some valP_ite loadP_some loadP_ite v1_some v1_ite v2_some v2_ite v3_some v3_ite outVal_val outVal_ite tget_cons tsel_true tsel_false stepP_some put_some put_none eval_tmp eval_const eval_global eval_func at_put_eq at_new_eq n_put n_new bytes_mk
attribute [push_cast] still isLoad awanted chooses aop acall abuiltin ofCall anilCheck abin guardOk isConst aint aun aload astore setN cellAt aequal aslice apart aindexAddr aindex boundsP lowP highP bndP lowN highN bndN entriesOf alen lenOf capOf amax atypeAssert opt aparts keeps keepOne slots moved firstN orNil aconv strOf strLoad amakeSlice abuild abuildSlice arange newBlk resOf pack got
attribute [push_cast] a_2 s_2 a_3 s_3 z_3 a_4 s_4 z_4 a_5 s_5 b_5 z_5 a_9 s_9 b_9 z_9 a_27 s_27 b_27 z_27 a_29 s_29 a_31 s_31 f_31_0 f_31_1 f_31_2 f_31_3 f_31_4 f_31_5 f_31_6 f_31_7 f_31_8 a_35 s_35 z_35 f_35_0 f_35_2 f_35_3 f_35_4 f_35_5 p_35 s_38 a_40 s_40 z_40 f_40_2 f_40_11 f_40_12 f_40_13 p_40 a_60 s_60 b_60 z_60 f_60_0 f_60_1 p_60 z_64 f_64_0 f_64_1 p_64 a_75 s_75 z_75 m_75_Read z_77 a_79 s_79 a_82 s_82 z_82 a_85 s_85 k_85 a_87 s_87 a_88 s_88 z_88 z_90 f_90_0 f_90_1 f_90_2 f_90_3 f_90_4 f_90_5 f_90_6 f_90_7 f_90_8 f_90_9 f_90_11 f_90_12 p_90 z_104 f_104_0 p_104 s_107 b_107 z_107 p_107 m_125_Read z_127 f_127_0 p_127 c_132 k_138 a_159 s_159 a_161 s_161 z_163 f_163_0 f_163_1 f_163_2 p_163 z_170 f_170_0 f_170_1 f_170_2 f_170_3 f_170_4 f_170_5 f_170_6 f_170_7 f_170_8 f_170_9 p_170 a_180 s_180 z_180 p_180 m_180_Read s_217 z_217 f_217_0 f_217_1 f_217_2 f_217_3 f_217_4 f_217_5 f_217_6 p_217 z_232 p_232 c_273
attribute [push_cast] Tryz.underlying1 Tryz.underlying102 Tryz.underlying104 Tryz.underlying107 Tryz.underlying109 Tryz.underlying125 Tryz.underlying127 Tryz.underlying128 Tryz.underlying132 Tryz.underlying138 Tryz.underlying148 Tryz.underlying151 Tryz.underlying154 Tryz.underlying159 Tryz.underlying161 Tryz.underlying163 Tryz.underlying165 Tryz.underlying168 Tryz.underlying17 Tryz.underlying170 Tryz.underlying180 Tryz.underlying182 Tryz.underlying185 Tryz.underlying189 Tryz.underlying192 Tryz.underlying194 Tryz.underlying196 Tryz.underlying2 Tryz.underlying20 Tryz.underlying200 Tryz.underlying202 Tryz.underlying204 Tryz.underlying207 Tryz.underlying209 Tryz.underlying21 Tryz.underlying210 Tryz.underlying211 Tryz.underlying217 Tryz.underlying221 Tryz.underlying224 Tryz.underlying226 Tryz.underlying229 Tryz.underlying230 Tryz.underlying232 Tryz.underlying237 Tryz.underlying238 Tryz.underlying240 Tryz.underlying241 Tryz.underlying243 Tryz.underlying253 Tryz.underlying257 Tryz.underlying259 Tryz.underlying267 Tryz.underlying269 Tryz.underlying27 Tryz.underlying271 Tryz.underlying273 Tryz.underlying275 Tryz.underlying277 Tryz.underlying285 Tryz.underlying287 Tryz.underlying288 Tryz.underlying29 Tryz.underlying290 Tryz.underlying3 Tryz.underlying302 Tryz.underlying304 Tryz.underlying306 Tryz.underlying31 Tryz.underlying312 Tryz.underlying316 Tryz.underlying324 Tryz.underlying326 Tryz.underlying328 Tryz.underlying331 Tryz.underlying333 Tryz.underlying334 Tryz.underlying336 Tryz.underlying338 Tryz.underlying339 Tryz.underlying347 Tryz.underlying349 Tryz.underlying35 Tryz.underlying350 Tryz.underlying353 Tryz.underlying357 Tryz.underlying375 Tryz.underlying38 Tryz.underlying390 Tryz.underlying4 Tryz.underlying40 Tryz.underlying48 Tryz.underlying5 Tryz.underlying57 Tryz.underlying60 Tryz.underlying62 Tryz.underlying64 Tryz.underlying75 Tryz.underlying77 Tryz.underlying79 Tryz.underlying82 Tryz.underlying85 Tryz.underlying87 Tryz.underlying88 Tryz.underlying9 Tryz.underlying90
attribute [push_cast] at_put_ne at_new_ne byteVals_get byteVals_app_get byteVals_length Value.cells List.size_toArray single_int single_bool single_string single_pointer single_slice single_map single_iface single_nilIface single_nilFunc single_func single_agg all_nil all_cons all_bytes set_splice afill_zeros ordered zSel_true Bool.and_true Bool.true_and rowSel_true afill_nil afill_struct afillS_one afillS_agg wrap64 List.set_cons_zero List.set_cons_succ List.length_cons List.length_nil List.cons_append List.nil_append wrap_u8 wrap_u64 decide_true decide_false Bool.not_true Bool.not_false not_true not_false_iff decide_not Bool.not_not abits_and abits_or byte_ge fork_some fork_somef slots List.getElem?_toArray List.getElem?_cons_zero List.getElem?_cons_succ forall_const List.toList_toArray true_and and_true if_true if_false ite_true ite_false Nat.zero_add Nat.add_zero Nat.mul_one List.map_cons List.map_nil Bool.false_eq_true not_true_eq_false not_false_eq_true Option.bind_some Option.bind_none
end Go.Proofs.YtbjaapiliegegaaGreatDoor.Sy
end
