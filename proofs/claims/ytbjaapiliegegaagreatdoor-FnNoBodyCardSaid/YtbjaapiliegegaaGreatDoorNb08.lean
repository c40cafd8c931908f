/- Of the proof of FnNoBody: SaO SbA SbB. -/
import Derived.Test.YtbjaapiliegegaaGreatDoorNb07
import Derived.Test.YtbjaapiliegegaaGreatDoorNb00
set_option linter.unusedVariables false
set_option linter.unusedSimpArgs false
section
namespace Go.Proofs.YtbjaapiliegegaaGreatDoor.Sy
open Go
variable {P : Program} {w0 : World} {K : List Fr} {tm : Tm} {df : Df} {h : Heap} {Q : Post}
noncomputable def only {α : Type} (p : Prop) (x : Option α) : Option α := by classical exact if p then x else none
theorem ite_only {α : Type} (p : Prop) [inst : Decidable p] (x : Option α) : @ite (Option α) p inst x none = only p x := by
 unfold only
 by_cases h : p
 ·rw [if_pos h, if_pos h]
 ·rw [if_neg h, if_neg h]
theorem only_pos {α : Type} {p : Prop} {x : Option α} (h : p) : only p x = x := by
 unfold only; rw [if_pos h]
theorem only_neg {α : Type} {p : Prop} {x : Option α} (h : ¬p) : only p x = none := by
 unfold only; rw [if_neg h]
theorem only_true {α : Type} (x : Option α) : only True x = x := only_pos trivial
theorem only_false {α : Type} (x : Option α) : only False x = none := only_neg id
theorem v1_only (p : Prop) (x : Option Value) : v1 h (only p x) = only p (v1 h x) := by
 by_cases hp : p
 ·rw [only_pos hp, only_pos hp]
 ·rw [only_neg hp, only_neg hp]; rfl
theorem v2_only (p : Prop) (x : Option (Value × Heap)) : v2 (only p x) = only p (v2 x) := by
 by_cases hp : p
 ·rw [only_pos hp, only_pos hp]
 ·rw [only_neg hp, only_neg hp]; rfl
theorem v3_only (p : Prop) (x : Option Heap) : v3 (only p x) = only p (v3 x) := by
 by_cases hp : p
 ·rw [only_pos hp, only_pos hp]
 ·rw [only_neg hp, only_neg hp]; rfl
theorem outVal_only (p : Prop) (x : Option Out) : outVal (only p x) = only p (outVal x) := by
 by_cases hp : p
 ·rw [only_pos hp, only_pos hp]
 ·rw [only_neg hp, only_neg hp]; rfl
theorem only_only {α : Type} (p q : Prop) (x : Option α) : only p (only q x) = only (p ∧ q) x := by
 by_cases hp : p
 ·by_cases hq : q
  ·rw [only_pos hp, only_pos hq, only_pos ⟨hp, hq⟩]
  ·rw [only_pos hp, only_neg hq, only_neg (fun h => hq h.2)]
 ·rw [only_neg hp, only_neg (fun h => hp h.1)]
theorem outM_only (p : Prop) (x : Option Out) (dst : Option Tmp) : outM P w0 (only p x) dst K tm df h Q ↔ p ∧ outM P w0 x dst K tm df h Q := by
 by_cases hp : p
 ·rw [only_pos hp]; exact ⟨fun h => ⟨hp, h⟩, fun h => h.2⟩
 ·rw [only_neg hp]; exact ⟨fun h => h.elim, fun h => absurd h.1 hp⟩
theorem outP_only (p : Prop) (x : Option Out) (dst : Option Tmp) (acc : Acc) (ks : List Nat) : outP P w0 (only p x) dst acc ks K tm df h Q ↔ p ∧ outP P w0 x dst acc ks K tm df h Q := by
 by_cases hp : p
 ·rw [only_pos hp]; exact ⟨fun h => ⟨hp, h⟩, fun h => h.2⟩
 ·rw [only_neg hp]; exact ⟨fun h => h.elim, fun h => absurd h.1 hp⟩
theorem valP_only (p : Prop) (x : Option Value) (dst : Option Tmp) : valP P w0 (only p x) dst K tm df h Q ↔ p ∧ valP P w0 x dst K tm df h Q := by
 by_cases hp : p
 ·rw [only_pos hp]; exact ⟨fun h => ⟨hp, h⟩, fun h => h.2⟩
 ·rw [only_neg hp]; exact ⟨fun h => h.elim, fun h => absurd h.1 hp⟩
theorem loadP_only (p : Prop) (x : Option Value) (dst : Option Tmp) (all : Array Oper) (l : Plan) (acc : Acc) (i : Nat) (t : TypeId) (b off : Nat) : loadP P w0 (only p x) dst all l acc i t b off K tm df h Q ↔ p ∧ loadP P w0 x dst all l acc i t b off K tm df h Q := by
 by_cases hp : p
 ·rw [only_pos hp]; exact ⟨fun h => ⟨hp, h⟩, fun h => h.2⟩
 ·rw [only_neg hp]; exact ⟨fun h => h.elim, fun h => absurd h.1 hp⟩
noncomputable def loadC (x : Option AO) (o n : Nat) : Option (List Value) :=
 match x with
 | some (.cells c _ _ _) => only (o + n ≤ c.length) (some ((c.drop o).take n))
 | _ => none
theorem loadN_eq (b o n : Nat) : loadN h b o n = loadC (h.at b) o n := by
 unfold loadN
 generalize h.at b = x
 unfold loadC
 cases x with
 | none => rfl
 | some y =>
  cases y with
  | cells c e lo hi => exact ite_only _ _
  | map => rfl
  | miter => rfl
  | siter => rfl
theorem loadC_some (c : List Value) (e : TypeId) (lo hi o n : Nat) : loadC (some (.cells c e lo hi)) o n = only (o + n ≤ c.length) (some ((c.drop o).take n)) := rfl
theorem loadN_bytes {b n : Nat} {m : List UInt8} {r : List Value} {e : TypeId} {lo hi : Nat} (hat : h.at b = some (.cells (byteVals m ++ r) e lo hi)) (hn : n = m.length) : loadN h b 0 n = some (byteVals m) := by
 subst hn
 rw [loadN_eq, hat, loadC_some, only_pos (by simp [byteVals_length]), List.drop_zero, List.take_left' (by rw [byteVals_length])]
attribute [push_cast] loadN_eq loadC_some
theorem oneM_dec_ {ch : Bool} {p : Prop} {inst : Decidable p} {all : Array Oper} {o : Oper} {l : List Oper} (hA : p → oneM P w0 ch true all o l K tm df h Q) (hB : ¬p → oneM P w0 ch false all o l K tm df h Q) : oneM P w0 ch (decide p) all o l K tm df h Q :=
 oneM_bool (fun h => hA (of_decide_eq_true h)) (fun h => hB (of_decide_eq_false h))
theorem oneM_not_ {ch : Bool} {p : Prop} {inst : Decidable p} {all : Array Oper} {o : Oper} {l : List Oper} (hA : ¬p → oneM P w0 ch true all o l K tm df h Q) (hB : p → oneM P w0 ch false all o l K tm df h Q) : oneM P w0 ch (!decide p) all o l K tm df h Q :=
 oneM_bool (fun h => hA (by simpa using h)) (fun h => hB (by simpa using h))
theorem oneP_dec_ {st ld ch : Bool} {p : Prop} {inst : Decidable p} {all : Array Oper} {o : Oper} {i : Nat} {ks : List Nat} {l : Plan} {acc : Acc} (hA : p → oneP P w0 st ld ch true all o i ks l acc K tm df h Q) (hB : ¬p → oneP P w0 st ld ch false all o i ks l acc K tm df h Q) : oneP P w0 st ld ch (decide p) all o i ks l acc K tm df h Q :=
 oneP_bool (fun h => hA (of_decide_eq_true h)) (fun h => hB (of_decide_eq_false h))
theorem oneP_not_ {st ld ch : Bool} {p : Prop} {inst : Decidable p} {all : Array Oper} {o : Oper} {i : Nat} {ks : List Nat} {l : Plan} {acc : Acc} (hA : ¬p → oneP P w0 st ld ch true all o i ks l acc K tm df h Q) (hB : p → oneP P w0 st ld ch false all o i ks l acc K tm df h Q) : oneP P w0 st ld ch (!decide p) all o i ks l acc K tm df h Q :=
 oneP_bool (fun h => hA (by simpa using h)) (fun h => hB (by simpa using h))
theorem condM_dec_ {p : Prop} {inst : Decidable p} {A B : List Fr} (hA : p → M P w0 A .normal tm df h Q) (hB : ¬p → M P w0 B .normal tm df h Q) : condM P w0 (.bool (decide p)) A B tm df h Q :=
 ⟨fun h => hA (of_decide_eq_true h), fun h => hB (of_decide_eq_false h)⟩
theorem condM_not_ {p : Prop} {inst : Decidable p} {A B : List Fr} (hA : ¬p → M P w0 A .normal tm df h Q) (hB : p → M P w0 B .normal tm df h Q) : condM P w0 (.bool (!decide p)) A B tm df h Q :=
 ⟨fun h => hA (by simpa using h), fun h => hB (by simpa using h)⟩
def sameL (a b : List UInt8) : Bool := decide (a = b)
theorem sameL_true {a b : List UInt8} (h : a = b) : sameL a b = true := decide_eq_true h
theorem sameL_false {a b : List UInt8} (h : a ≠ b) : sameL a b = false := decide_eq_false h
theorem sameL_self (a : List UInt8) : sameL a a = true := decide_eq_true rfl
theorem of_same {a b : List UInt8} (h : sameL a b = true) : a = b := of_decide_eq_true h
theorem of_not_same {a b : List UInt8} (h : sameL a b = false) : ¬a = b := of_decide_eq_false h
theorem astr_add (a b : List UInt8) : astr .add a b = only (a.length + b.length < 2 ^ 40) (some (S (a ++ b))) := ite_only _ _
theorem astr_eql (a b : List UInt8) : astr .eql a b = some (.bool (sameL a b)) := rfl
theorem astr_neq (a b : List UInt8) : astr .neq a b = some (.bool (!sameL a b)) := rfl
theorem astr_lss (a b : List UInt8) : astr .lss a b = some (.bool (Op.bytesLess a b)) := rfl
theorem condM_same {a b : List UInt8} {A B : List Fr} (hA : a = b → M P w0 A .normal tm df h Q) (hB : ¬a = b → M P w0 B .normal tm df h Q) : condM P w0 (.bool (sameL a b)) A B tm df h Q :=
 condM_bool (fun h => hA (of_same h)) (fun h => hB (of_not_same h))
theorem condM_nsame {a b : List UInt8} {A B : List Fr} (hA : ¬a = b → M P w0 A .normal tm df h Q) (hB : a = b → M P w0 B .normal tm df h Q) : condM P w0 (.bool (!sameL a b)) A B tm df h Q :=
 condM_bool (fun h => hA (of_not_same (by simpa using h))) (fun h => hB (of_same (by simpa using h)))
theorem oneM_same {ch : Bool} {a b : List UInt8} {all : Array Oper} {o : Oper} {l : List Oper} (hA : a = b → oneM P w0 ch true all o l K tm df h Q) (hB : ¬a = b → oneM P w0 ch false all o l K tm df h Q) : oneM P w0 ch (sameL a b) all o l K tm df h Q :=
 oneM_bool (fun h => hA (of_same h)) (fun h => hB (of_not_same h))
theorem oneM_nsame {ch : Bool} {a b : List UInt8} {all : Array Oper} {o : Oper} {l : List Oper} (hA : ¬a = b → oneM P w0 ch true all o l K tm df h Q) (hB : a = b → oneM P w0 ch false all o l K tm df h Q) : oneM P w0 ch (!sameL a b) all o l K tm df h Q :=
 oneM_bool (fun h => hA (of_not_same (by simpa using h))) (fun h => hB (of_same (by simpa using h)))
theorem oneP_same {st ld ch : Bool} {a b : List UInt8} {all : Array Oper} {o : Oper} {i : Nat} {ks : List Nat} {l : Plan} {acc : Acc} (hA : a = b → oneP P w0 st ld ch true all o i ks l acc K tm df h Q) (hB : ¬a = b → oneP P w0 st ld ch false all o i ks l acc K tm df h Q) : oneP P w0 st ld ch (sameL a b) all o i ks l acc K tm df h Q :=
 oneP_bool (fun h => hA (of_same h)) (fun h => hB (of_not_same h))
theorem oneP_nsame {st ld ch : Bool} {a b : List UInt8} {all : Array Oper} {o : Oper} {i : Nat} {ks : List Nat} {l : Plan} {acc : Acc} (hA : ¬a = b → oneP P w0 st ld ch true all o i ks l acc K tm df h Q) (hB : a = b → oneP P w0 st ld ch false all o i ks l acc K tm df h Q) : oneP P w0 st ld ch (!sameL a b) all o i ks l acc K tm df h Q :=
 oneP_bool (fun h => hA (of_not_same (by simpa using h))) (fun h => hB (of_same (by simpa using h)))
attribute [push_cast] sameL_true sameL_false sameL_self astr_add astr_eql astr_neq astr_lss
theorem splice_nil0 (c : List Value) : splice c 0 [] = c := by simp [splice]
theorem splice_cons0 (a : Value) (c : List Value) (v : Value) (vs : List Value) : splice (a :: c) 0 (v :: vs) = v :: splice c 0 vs := by simp [splice, Nat.add_comm]
theorem splice_succ (a : Value) (c : List Value) (n : Nat) (vs : List Value) : splice (a :: c) (n + 1) vs = a :: splice c n vs := by
 unfold splice
 rw [List.take_succ_cons, show n + 1 + vs.length = (n + vs.length) + 1 by omega, List.drop_succ_cons]
 rfl
attribute [push_cast] splice_nil0 splice_cons0 splice_succ
theorem afill_row2 (cells : List Value) (i : Nat) (v : Value) (rest : List (Nat × Value)) : afill (rowPlace 2) cells ((i, v) :: rest) = only (v.cells.size = 2 ∧ i * 2 + 2 ≤ cells.length) (afill (rowPlace 2) (splice cells (i * 2) v.cells.toList) rest) := ite_only _ _
theorem zeros_unit (z : List Value) : zeros z 1 = z := by simp [zeros]
attribute [push_cast] afill_row2 zeros_unit
theorem strOf_zero (a : Option Addr) : strOf h a 0 = some (S [], h) := by
 unfold strOf strLoad
 split
 ·rename_i r hr
  split at hr
  ·cases hr; rfl
  ·rename_i b o
   split at hr
   ·rename_i cs hcs
    unfold loadN at hcs
    split at hcs
    ·split at hcs
     ·cases hcs; cases hr; rfl
     ·cases hcs
    ·cases hcs
   ·cases hr
  ·cases hr
 ·rfl
def copyTo (n : Nat) (x : Option Heap) : Option (Value × Heap) :=
 match x with
 | some h' => some (I n, h')
 | none => none
theorem copyTo_some (n : Nat) (h' : Heap) : copyTo n (some h') = some (I n, h') := rfl
theorem copyTo_only (n : Nat) (p : Prop) (x : Option Heap) : copyTo n (only p x) = only p (copyTo n x) := by
 by_cases hp : p
 ·rw [only_pos hp, only_pos hp]
 ·rw [only_neg hp, only_neg hp]; rfl
theorem acopy_eq (N : Nat) (t : TypeId) (dst src : Value) : acopy N P h t dst src =
  match P.underlying t, dst, lenOf src with
  | some (.slice e), .slice a dl _, some sl => match sizeT P e with
   | some 1 => match firstN h 1 (min sl dl) src with
    | some cs => match a with
     | some ⟨b, o, none⟩ => copyTo (min sl dl) (setN N h b o cs)
     | none => if dl = 0 then some (I (min sl dl : Nat), h) else none
     | _ => none
    | none => none
   | _ => none
  | _, _, _ => none := by
 first | rfl | with_unfolding_all rfl
attribute [push_cast] copyTo_some copyTo_only acopy_eq
def yv : Value → Option Bool
 | .bool b => some b
 | _ => none
def yo (tm : Tm) : Option Tmp → Option Bool
 | some t => yv (tget tm t)
 | none => none
theorem ayield_eq (ops : Array Oper) (tm : Tm) (j : Nat) : ayield ops tm j = yo tm ((ops[j]?).bind (·.dst)) := by
 unfold ayield
 cases (ops[j]?).bind (·.dst) with
 | none => rfl
 | some t =>
  show (match tget tm t with | .bool b => some b | _ => none) = yv (tget tm t)
  cases tget tm t <;> rfl
theorem yo_some (tm : Tm) (t : Tmp) : yo tm (some t) = yv (tget tm t) := rfl
theorem yo_none (tm : Tm) : yo tm none = none := rfl
theorem yv_bool (b : Bool) : yv (.bool b) = some b := rfl
theorem yv_undef : yv undef = none := rfl
theorem none_yes (b : Bool) : ((none : Option Bool) == some b) = false := rfl
attribute [push_cast] ayield_eq yo_some yo_none yv_bool yv_undef none_yes
attribute [push_cast] only_true only_false v1_only v2_only v3_only outVal_only only_only outM_only outP_only valP_only loadP_only
theorem zN : (∀ (h : Heap) (b : Nat) (o : AO), (h.put b o).n = h.n) ∧ (∀ (h : Heap) (o : AO), (h.new o).n = h.n + 1) ∧ (∀ {α : Type} (a : α) (l : List α), (a :: l).length = l.length + 1) ∧ (∀ {α : Type}, ([] : List α).length = 0) ∧ (∀ {α : Type} (l : List α) (i : Nat) (a : α), (l.set i a).length = l.length) :=
 ⟨fun _ _ _ => rfl, fun _ _ => rfl, fun _ _ => rfl, rfl, fun _ _ _ => List.length_set⟩
theorem zL : (∀ {α : Type} (a b : List α), (a ++ b).length = a.length + b.length) ∧ (∀ {α : Type} (n : Nat) (a : α), (List.replicate n a).length = n) ∧ (∀ l : List UInt8, (byteVals l).length = l.length) :=
 ⟨fun _ _ => List.length_append, fun _ _ => List.length_replicate, byteVals_length⟩
theorem zT : (∀ (k : Nat) (v : Value) (l : Tm) (t : Nat), tget ((k, v) :: l) t = tsel (k == t) v l t) ∧ (∀ (v : Value) (l : Tm) (t : Nat), tsel true v l t = v) ∧ (∀ (v : Value) (l : Tm) (t : Nat), tsel false v l t = tget l t) := ⟨tget_cons, tsel_true, tsel_false⟩
attribute [go_sem] reduceIte Nat.reduceBEq Nat.reducePow Int.reducePow Nat.reduceEqDiff Nat.reduceAdd Nat.reduceSub Nat.reduceMul Nat.reduceLT Nat.reduceLeDiff Int.reduceEq Int.reduceNe Int.reduceLT Int.reduceLE Int.reduceAdd Int.reduceSub Int.reduceMul Int.reduceNeg Int.reduceToNat
attribute [push_cast] Bool.false_or Bool.true_or Bool.or_true Bool.or_false eq_self ne_eq beq_self_eq_true Nat.sub_zero Nat.zero_mul Option.isNone_none Option.isNone_some Int.toNat_natCast List.drop_zero or_true true_or or_false false_or List.take_succ_cons List.take_zero List.take_nil List.drop_succ_cons
end Go.Proofs.YtbjaapiliegegaaGreatDoor.Sy
end
section
namespace Go.Proofs.YtbjaapiliegegaaGreatDoor.Sy
open Go
set_option maxRecDepth 100000
variable {w0 : World} {h : Heap}
def tokN (n : Nat) : Bool := (48 ≤ n && n ≤ 57) || (97 ≤ n && n ≤ 122) || (65 ≤ n && n ≤ 90) || [33, 35, 36, 37, 38, 39, 42, 43, 45, 46, 94, 95, 96, 124, 126].contains n
def tokB (c : UInt8) : Bool := tokN c.toNat
def tokSigns : List UInt8 := [33, 35, 36, 37, 38, 39, 42, 43, 45, 46, 94, 95, 96, 124, 126]
def rangeB (c : UInt8) : Bool := (48 ≤ c.toNat && c.toNat ≤ 57) || (97 ≤ c.toNat && c.toNat ≤ 122) || (65 ≤ c.toNat && c.toNat ≤ 90)
theorem tok_range {c : UInt8} (h : rangeB c = true) : tokB c = true := by
 have := all256 (p := fun n => ((48 ≤ n && n ≤ 57) || (97 ≤ n && n ≤ 122) || (65 ≤ n && n ≤ 90)) = true → tokN n = true) (by decide +kernel) c
 exact this h
theorem tok_sign (c : UInt8) (h : rangeB c = false) : tokB c = tokSigns.contains c := by
 have := all256 (p := fun n => ((48 ≤ n && n ≤ 57) || (97 ≤ n && n ≤ 122) || (65 ≤ n && n ≤ 90)) = false → tokN n = tokSigns.contains (UInt8.ofNat n)) (by decide +kernel) c
 have h2 := this h
 rwa [UInt8.ofNat_toNat] at h2
theorem range_no (c : UInt8) (h1 : ¬(48 ≤ (c.toNat : Int) ∧ (c.toNat : Int) ≤ 57)) (h2 : ¬(97 ≤ (c.toNat : Int) ∧ (c.toNat : Int) ≤ 122)) (h3 : ¬(65 ≤ (c.toNat : Int) ∧ (c.toNat : Int) ≤ 90)) : rangeB c = false := by
 rw [← Bool.not_eq_true]
 intro h
 simp only [rangeB, Bool.or_eq_true, Bool.and_eq_true, decide_eq_true_eq] at h
 omega
theorem range_yes (c : UInt8) (h1 : (48 ≤ (c.toNat : Int) ∧ (c.toNat : Int) ≤ 57) ∨ (97 ≤ (c.toNat : Int) ∧ (c.toNat : Int) ≤ 122) ∨ (65 ≤ (c.toNat : Int) ∧ (c.toNat : Int) ≤ 90)) : rangeB c = true := by
 simp only [rangeB, Bool.or_eq_true, Bool.and_eq_true, decide_eq_true_eq]
 omega
set_option maxHeartbeats 1000000 in
theorem tokenByte_ok (c0 : UInt8) :
  ACall Tryz.prog w0 65 [B c0] h (fun v h' => v = .bool (tokB c0) ∧ Ext h h') := by
 refine ACall.known fun hKn => ?_
 obtain ⟨hN, hB⟩ := hKn
 refine ACall.run noCount mixed Tryz.func65 rfl (by kernel_rfl) (Nat.le_of_ble_eq_true rfl) fun X hX => ?_
 (repeat simp only[push_cast,go_sem_proc,↓ite_only])
 refine M_cut (fun tm h' => h' = h ∧ tget tm 0 = B c0 ∧ rangeB c0 = false) (fun R hR hE => ?_) ?_
 ·(repeat simp only[push_cast,go_sem_proc,↓ite_only,M_block])
  repeat' ((with_reducible(first|refine condM_same ?_ ?_|refine condM_nsame ?_ ?_|refine oneM_same ?_ ?_|refine oneM_nsame ?_ ?_|refine oneP_same ?_ ?_|refine oneP_nsame ?_ ?_|refine condM_dec_ ?_ ?_|refine condM_not_ ?_ ?_|refine oneM_dec_ ?_ ?_|refine oneM_not_ ?_ ?_|refine oneP_dec_ ?_ ?_|refine oneP_not_ ?_ ?_|refine condM_bool ?_ ?_|refine oneM_bool ?_ ?_|refine oneP_bool ?_ ?_)<;>intro c) <;> first | (exfalso; first | contradiction | omega) | (try (repeat simp only[push_cast,go_sem_proc,↓ite_only,M_block,c])))
  all_goals first
   | ((with_reducible refine hE _ _ _ _ (nomatch ·) ?_); (repeat(first|(simp only[push_cast,go_sem_proc,↓ite_only,M_block])|(with_reducible refine⟨by omega,?_⟩))); ((with_reducible refine hX _ _ _ (fun j hj => nomatch hj) ?_); simp only[push_cast,go_sem_proc,↓ite_only,M_block,Tryz.results65]); refine ⟨?_, .refl _⟩; rw [tok_range (range_yes c0 (by omega))])
   | ((with_reducible refine hR _ _ ⟨rfl, ?_, range_no c0 (by omega) (by omega) (by omega)⟩); simp only [tget_cons, Nat.reduceBEq, tsel_true, tsel_false])
 ·rintro tm h' ⟨rfl, h0, hr⟩
  (repeat(first|(simp only[push_cast,go_sem_proc,↓ite_only,M_block,h0])|(with_reducible refine⟨by omega,?_⟩)))
  refine M_loop (fun tm h1 n => ∃ k : Nat, k ≤ 15 ∧ n = 15 - k ∧ h1.at h'.n = some (.cells (byteVals tokSigns) 5 15 16) ∧ Ext h' h1 ∧ tget tm 27 = I k ∧ tget tm 26 = I 15 ∧
   tget tm 25 = .slice (some ⟨h'.n, 0, none⟩) 15 15 ∧ tget tm 0 = B c0 ∧ (tokSigns.take k).contains c0 = false) 15
   ⟨0, by omega, rfl, by rw [at_put_eq]; rfl, ((Ext.refl _).new _).put (Nat.le_refl _) _, rfl, rfl, rfl, h0, rfl⟩ ?_
  rintro tm1 h1 n R ⟨k, hk, rfl, hat, hx, t27, t26, t25, t0, hno⟩ hR hE
  have hlen : tokSigns.length = 15 := rfl
  (repeat simp only[push_cast,go_sem_proc,↓ite_only,M_block,t27, t26, t25, t0, hat, hlen])
  repeat' ((with_reducible(first|refine condM_same ?_ ?_|refine condM_nsame ?_ ?_|refine oneM_same ?_ ?_|refine oneM_nsame ?_ ?_|refine oneP_same ?_ ?_|refine oneP_nsame ?_ ?_|refine condM_dec_ ?_ ?_|refine condM_not_ ?_ ?_|refine oneM_dec_ ?_ ?_|refine oneM_not_ ?_ ?_|refine oneP_dec_ ?_ ?_|refine oneP_not_ ?_ ?_|refine condM_bool ?_ ?_|refine oneM_bool ?_ ?_|refine oneP_bool ?_ ?_)<;>intro c) <;> first | (exfalso; first | contradiction | omega) | (try (repeat(first|(simp(disch:=omega)only[push_cast,go_sem_proc,↓ite_only,M_block,t27, t26, t25, t0, hat, hlen, c])|(with_reducible refine⟨by omega,?_⟩)))))
  ·have hlt : k < 15 := by omega
   (with_reducible refine hE _ _ _ _ (nomatch ·) ?_)
   (repeat simp only[push_cast,go_sem_proc,↓ite_only,M_block])
   ((with_reducible refine hX _ _ _ (fun j hj => nomatch hj) ?_); simp only[push_cast,go_sem_proc,↓ite_only,M_block,Tryz.results65])
   have e := byte_eq c
   refine ⟨?_, hx⟩
   rw [tok_sign c0 hr, e]
   refine congrArg Value.bool (Eq.symm ?_)
   rw [List.contains_iff_mem]
   exact List.mem_of_getElem? (nth_get (l := tokSigns) (by omega))
  ·have hlt : k < 15 := by omega
   refine hR _ _ (15 - (k + 1)) (by omega) ⟨k + 1, by omega, rfl, hat, hx, (by simp only[zT,Nat.reduceBEq];rfl), ‹_›, ‹_›, ‹_›, ?_⟩
   have e := byte_ne c
   rw [take_snoc tokSigns k (by omega)]
   simp only [List.contains_append, hno, Bool.false_or]
   simpa using e
  ·have hlt : k = 15 := by omega
   subst hlt
   (with_reducible refine hE _ _ _ _ (nomatch ·) ?_)
   (repeat simp only[push_cast,go_sem_proc,↓ite_only,M_block])
   ((with_reducible refine hX _ _ _ (fun j hj => nomatch hj) ?_); simp only[push_cast,go_sem_proc,↓ite_only,M_block,Tryz.results65])
   refine ⟨?_, hx⟩
   rw [tok_sign c0 hr]
   exact congrArg Value.bool (Eq.symm hno)
def tokL (l : List UInt8) : Bool := l.all tokB && !l.isEmpty
theorem token_ok (l : List UInt8) (hl : l.length < 9223372036854775807) :
  ACall Tryz.prog w0 31 [S l] h (fun v h' => v = .bool (tokL l) ∧ Ext h h') := by
 refine ACall.known fun hKn => ?_
 obtain ⟨hN, hB⟩ := hKn
 refine ACall.run noCount mixed Tryz.func31 rfl (by kernel_rfl) (Nat.le_of_ble_eq_true rfl) fun X hX => ?_
 (repeat simp only[push_cast,go_sem_proc,↓ite_only,M_block])
 refine M_loop (fun tm h1 n => ∃ k : Nat, k ≤ l.length ∧ n = l.length - k ∧ Ext h h1 ∧ tget tm 6 = I k ∧ tget tm 5 = I l.length ∧ tget tm 0 = S l ∧ (l.take k).all tokB = true) l.length
  ⟨0, by omega, by omega, .refl _, (by simp only[zT,Nat.reduceBEq];rfl), (by simp only[zT,Nat.reduceBEq]), (by simp only[zT,Nat.reduceBEq]), rfl⟩ ?_
 rintro tm1 h1 n R ⟨k, hk, rfl, hx, t6, t5, t0, hall⟩ hR hE
 (repeat simp only[push_cast,go_sem_proc,↓ite_only,M_block,t6, t5, t0])
 repeat' ((with_reducible(first|refine condM_same ?_ ?_|refine condM_nsame ?_ ?_|refine oneM_same ?_ ?_|refine oneM_nsame ?_ ?_|refine oneP_same ?_ ?_|refine oneP_nsame ?_ ?_|refine condM_dec_ ?_ ?_|refine condM_not_ ?_ ?_|refine oneM_dec_ ?_ ?_|refine oneM_not_ ?_ ?_|refine oneP_dec_ ?_ ?_|refine oneP_not_ ?_ ?_|refine condM_bool ?_ ?_|refine oneM_bool ?_ ?_|refine oneP_bool ?_ ?_)<;>intro c) <;> first | (exfalso; first | contradiction | omega) | (try (repeat(first|(simp only[push_cast,go_sem_proc,↓ite_only,M_block,t6, t5, t0, c])|(with_reducible refine⟨by omega,?_⟩)))))
 ·have hlt : k < l.length := by omega
  refine callM_of (tokenByte_ok _) ?_
  rintro v h2 ⟨rfl, hx2⟩
  have hx3 := hx.trans hx2
  cases hb : tokB (nth l k) with
  | false =>
   (repeat simp only[push_cast,go_sem_proc,↓ite_only,M_block])
   (with_reducible refine hE _ _ _ _ (nomatch ·) ?_)
   (repeat simp only[push_cast,go_sem_proc,↓ite_only,M_block])
   ((with_reducible refine hX _ _ _ (fun j hj => nomatch hj) ?_); simp only[push_cast,go_sem_proc,↓ite_only,M_block,Tryz.results31])
   refine ⟨?_, hx3⟩
   refine congrArg Value.bool (Eq.symm ?_)
   unfold tokL
   rw [Bool.and_eq_false_iff]
   left
   rw [List.all_eq_false]
   exact ⟨_, List.mem_of_getElem? (nth_get hlt), by simp [hb]⟩
  | true =>
   (repeat simp(disch:=omega)only[push_cast,go_sem_proc,↓ite_only,M_block,t6])
   refine hR _ _ (l.length - (k + 1)) (by omega) ⟨k + 1, by omega, rfl, hx3, (by simp only[zT,Nat.reduceBEq];rfl), ‹_›, ‹_›, ?_⟩
   rw [take_snoc l k hlt, List.all_append, hall]
   simp [hb]
 ·have hlt : k = l.length := by omega
  subst hlt
  (with_reducible refine hE _ _ _ _ (nomatch ·) ?_)
  (repeat simp only[push_cast,go_sem_proc,↓ite_only,M_block,t0])
  ((with_reducible refine hX _ _ _ (fun j hj => nomatch hj) ?_); simp only[push_cast,go_sem_proc,↓ite_only,M_block,Tryz.results31])
  refine ⟨?_, hx⟩
  refine congrArg Value.bool ?_
  unfold tokL
  rw [List.take_length] at hall
  rw [hall]
  cases l <;> simp [sameL]
end Go.Proofs.YtbjaapiliegegaaGreatDoor.Sy
end
section
namespace Go.Proofs.YtbjaapiliegegaaGreatDoor.Sy
open Go
set_option maxRecDepth 100000
variable {w0 : World} {h : Heap}
theorem u8_sub32 (c : UInt8) : ((c.toNat : Int) - 32) % 256 = ((c - 32 : UInt8).toNat : Int) := by
 have := c.toNat_lt
 rw [UInt8.toNat_sub]
 simp
 omega
theorem u8_add32 (c : UInt8) : ((c.toNat : Int) + 32) % 256 = ((c + 32 : UInt8).toNat : Int) := by
 have := c.toNat_lt
 rw [UInt8.toNat_add]
 simp
theorem splice_byte (m : List UInt8) (r : List Value) (k : Nat) (c : UInt8) (hk : k < m.length) : splice (byteVals m ++ r) k [B c] = byteVals (m.set k c) ++ r := by
 rw [set_splice _ _ _ (by simp [byteVals]; omega), byteVals_app_set m r k c hk]
theorem nth_mid (a l : List UInt8) (k : Nat) (ha : a.length = l.length) (hk : k < l.length) : nth (a.take k ++ l.drop k) k = nth l k := by
 unfold nth
 rw [List.getD_eq_getElem?_getD, List.getD_eq_getElem?_getD, List.getElem?_append_right (by rw [List.length_take]; omega), List.length_take, Nat.min_eq_left (by omega), Nat.sub_self]
 simp
theorem mid_len (a l : List UInt8) (k : Nat) (ha : a.length = l.length) : (a.take k ++ l.drop k).length = l.length := by
 simp; omega
theorem canon_keep (l : List UInt8) (u : Bool) (k : Nat) (h : k < l.length) (hc : (canonL u l)[k]? = some (nth l k)) :
  (canonL u l).take k ++ l.drop k = (canonL u l).take (k + 1) ++ l.drop (k + 1) := by
 have h1 := canon_step l u k h hc
 rw [← h1]
 refine (List.ext_getElem? fun i => ?_).symm
 rw [List.getElem?_set]
 split
 ·rename_i hi
  subst hi
  rw [if_pos (by rw [mid_len _ _ _ (canon_len l u)]; exact h)]
  have h2 := nth_mid (canonL u l) l k (canon_len l u) h
  rw [← h2]
  exact (nth_get (by rw [mid_len _ _ _ (canon_len l u)]; exact h)).symm
 ·rfl
theorem canon_put (l : List UInt8) (u : Bool) (k : Nat) (r : List Value) (c : UInt8) (hk : k < l.length) (hc : (canonL u l)[k]? = some c) :
  splice (byteVals ((canonL u l).take k ++ l.drop k) ++ r) k [.int .u8 (c.toNat : Int)] = byteVals ((canonL u l).take (k + 1) ++ l.drop (k + 1)) ++ r := by
 rw [splice_byte _ _ _ _ (by rw [mid_len _ _ _ (canon_len l u)]; exact hk), canon_step l u k hk hc]
theorem canon_up (l : List UInt8) (k : Nat) (u : Bool) (hk : k < l.length) (hf : flagFrom u l k = true) (h : 97 ≤ ((nth l k).toNat : Int) ∧ ((nth l k).toNat : Int) ≤ 122) : (canonL u l)[k]? = some (nth l k - 32) := by
 rw [canon_at l u k hk, if_pos hf]
 unfold upB
 exact congrArg some (if_pos (show 97 ≤ (nth l k).toNat ∧ (nth l k).toNat ≤ 122 by omega))
theorem canon_up' (l : List UInt8) (k : Nat) (u : Bool) (hk : k < l.length) (hf : flagFrom u l k = true) (h : ¬(97 ≤ ((nth l k).toNat : Int) ∧ ((nth l k).toNat : Int) ≤ 122)) : (canonL u l)[k]? = some (nth l k) := by
 rw [canon_at l u k hk, if_pos hf]
 unfold upB
 exact congrArg some (if_neg (show ¬(97 ≤ (nth l k).toNat ∧ (nth l k).toNat ≤ 122) by omega))
theorem canon_lo (l : List UInt8) (k : Nat) (u : Bool) (hk : k < l.length) (hf : flagFrom u l k = false) (h : 65 ≤ ((nth l k).toNat : Int) ∧ ((nth l k).toNat : Int) ≤ 90) : (canonL u l)[k]? = some (nth l k + 32) := by
 rw [canon_at l u k hk, hf]
 unfold lowB'
 rw [if_neg (by decide)]
 exact congrArg some (if_pos (show 65 ≤ (nth l k).toNat ∧ (nth l k).toNat ≤ 90 by omega))
theorem canon_lo' (l : List UInt8) (k : Nat) (u : Bool) (hk : k < l.length) (hf : flagFrom u l k = false) (h : ¬(65 ≤ ((nth l k).toNat : Int) ∧ ((nth l k).toNat : Int) ≤ 90)) : (canonL u l)[k]? = some (nth l k) := by
 rw [canon_at l u k hk, hf]
 unfold lowB'
 rw [if_neg (by decide)]
 exact congrArg some (if_neg (show ¬(65 ≤ (nth l k).toNat ∧ (nth l k).toNat ≤ 90) by omega))
theorem flag_next (l : List UInt8) (u : Bool) (k : Nat) : decide (((nth l k).toNat : Int) = 45) = flagFrom u l (k + 1) := by
 show _ = (nth l k == 45)
 rw [Bool.eq_iff_iff, decide_eq_true_eq, beq_iff_eq]
 refine ⟨fun h => byte_eq (b := 45) h, fun h => by rw [h]; rfl⟩
set_option maxHeartbeats 1000000 in
theorem Canonical_ok (l : List UInt8) (hl : l.length < 1099511627776) :
  ACall Tryz.prog w0 13 [S l] h (fun v h' => v = S (canonL true l) ∧ Ext h h') := by
 refine ACall.known fun hKn => ?_
 obtain ⟨hN, hB⟩ := hKn
 refine ACall.run noCount mixed Tryz.func13 rfl (by kernel_rfl) (Nat.le_of_ble_eq_true rfl) fun X hX => ?_
 (repeat simp only[push_cast,go_sem_proc,↓ite_only,M_block])
 intro c0
 have hge := room_ge l.length c0
 generalize room l.length c0 = cap at hge
 (repeat(first|(simp only[push_cast,go_sem_proc,↓ite_only,M_block])|(with_reducible refine⟨by omega,?_⟩)))
 refine M_loop (fun tm h1 n => ∃ k : Nat, k ≤ l.length ∧ n = l.length - k ∧ Ext h h1 ∧ h1.at h.n = some (.cells (byteVals ((canonL true l).take k ++ l.drop k) ++ List.replicate (cap - l.length) (.int .u8 0)) 5 cap (cap + 1)) ∧
   tget tm 11 = I k ∧ tget tm 10 = I l.length ∧ tget tm 9 = .slice (some ⟨h.n, 0, none⟩) l.length cap ∧ tget tm 3 = .slice (some ⟨h.n, 0, none⟩) l.length cap ∧ tget tm 4 = .bool (flagFrom true l k)) l.length
  ⟨0, by omega, by omega, (Ext.refl _).new _, by rw [at_new_eq]; rfl, (by simp only[zT,Nat.reduceBEq];rfl), (by simp only[zT,Nat.reduceBEq]), (by simp only[zT,Nat.reduceBEq]), (by simp only[zT,Nat.reduceBEq]), (by simp only[zT,Nat.reduceBEq];rfl)⟩ ?_
 rintro tm1 h1 n R ⟨k, hk, rfl, hx, hat, t11, t10, t9, t3, t4⟩ hR hE
 have hml := mid_len (canonL true l) l k (canon_len l true)
 have hnm := nth_mid (canonL true l) l k (canon_len l true)
 cases hf : flagFrom true l k <;> rw [hf] at t4
 all_goals (repeat simp only[push_cast,go_sem_proc,↓ite_only,M_block,t11, t10, t9, t3, t4, hat, byteVals_app_get, hml, hnm, u8_sub32, u8_add32])
 repeat' ((with_reducible(first|refine condM_same ?_ ?_|refine condM_nsame ?_ ?_|refine oneM_same ?_ ?_|refine oneM_nsame ?_ ?_|refine oneP_same ?_ ?_|refine oneP_nsame ?_ ?_|refine condM_dec_ ?_ ?_|refine condM_not_ ?_ ?_|refine oneM_dec_ ?_ ?_|refine oneM_not_ ?_ ?_|refine oneP_dec_ ?_ ?_|refine oneP_not_ ?_ ?_|refine condM_bool ?_ ?_|refine oneM_bool ?_ ?_|refine oneP_bool ?_ ?_)<;>intro c) <;> first | (exfalso; first | contradiction | omega) | (try (repeat(first|(simp(disch:=omega)only[push_cast,go_sem_proc,↓ite_only,M_block,t11, t10, t9, t3, t4, hat, byteVals_app_get, hml, hnm, u8_sub32, u8_add32, c])|(with_reducible refine And.intro ?_ ?_;focus(first|omega|(simp only[zL,t11, t10, t9, t3, t4, hat, byteVals_app_get, hml, hnm, u8_sub32, u8_add32, c];omega)))))))
 ·have hlt : k < l.length := by omega
  refine hR _ _ (l.length - (k + 1)) (by omega) ⟨k + 1, by omega, rfl, ?_, ?_, (by simp only[zT,Nat.reduceBEq];rfl), ‹_›, ‹_›, ‹_›, ?_⟩
  ·exact hx.put (Nat.le_refl _) _
  ·rw [at_put_eq, canon_put l true k _ _ hlt (canon_lo l k true hlt hf (by omega))]
  ·(simp only [tget_cons, Nat.reduceBEq, tsel_true, tsel_false, flag_next l true])
 ·have hlt : k < l.length := by omega
  refine hR _ _ (l.length - (k + 1)) (by omega) ⟨k + 1, by omega, rfl, ?_, ?_, (by simp only[zT,Nat.reduceBEq];rfl), ‹_›, ‹_›, ‹_›, ?_⟩
  ·exact hx
  ·rw [← canon_keep l true k hlt (canon_lo' l k true hlt hf (by omega))]; exact hat
  ·(simp only [tget_cons, Nat.reduceBEq, tsel_true, tsel_false, flag_next l true])
 ·have hlt : k < l.length := by omega
  refine hR _ _ (l.length - (k + 1)) (by omega) ⟨k + 1, by omega, rfl, ?_, ?_, (by simp only[zT,Nat.reduceBEq];rfl), ‹_›, ‹_›, ‹_›, ?_⟩
  ·exact hx
  ·rw [← canon_keep l true k hlt (canon_lo' l k true hlt hf (by omega))]; exact hat
  ·(simp only [tget_cons, Nat.reduceBEq, tsel_true, tsel_false, flag_next l true])
 ·have hke : k = l.length := by omega
  subst hke
  rw [List.take_of_length_le (Nat.le_of_eq (canon_len l true)), List.drop_length, List.append_nil] at hat
  (with_reducible refine hE _ _ _ _ (nomatch ·) ?_)
  have hld := loadN_bytes hat (canon_len l true).symm
  (repeat simp only[push_cast,go_sem_proc,↓ite_only,M_block,t3, hld, bytesOf_vals])
  ((with_reducible refine hX _ _ _ (fun j hj => nomatch hj) ?_); simp only[push_cast,go_sem_proc,↓ite_only,M_block,Tryz.results13])
  exact hx
 ·have hlt : k < l.length := by omega
  refine hR _ _ (l.length - (k + 1)) (by omega) ⟨k + 1, by omega, rfl, ?_, ?_, (by simp only[zT,Nat.reduceBEq];rfl), ‹_›, ‹_›, ‹_›, ?_⟩
  ·exact hx.put (Nat.le_refl _) _
  ·rw [at_put_eq, canon_put l true k _ _ hlt (canon_up l k true hlt hf (by omega))]
  ·(simp only [tget_cons, Nat.reduceBEq, tsel_true, tsel_false, flag_next l true])
 ·have hlt : k < l.length := by omega
  refine hR _ _ (l.length - (k + 1)) (by omega) ⟨k + 1, by omega, rfl, ?_, ?_, (by simp only[zT,Nat.reduceBEq];rfl), ‹_›, ‹_›, ‹_›, ?_⟩
  ·exact hx
  ·rw [← canon_keep l true k hlt (canon_up' l k true hlt hf (by omega))]; exact hat
  ·(simp only [tget_cons, Nat.reduceBEq, tsel_true, tsel_false, flag_next l true])
 ·have hlt : k < l.length := by omega
  refine hR _ _ (l.length - (k + 1)) (by omega) ⟨k + 1, by omega, rfl, ?_, ?_, (by simp only[zT,Nat.reduceBEq];rfl), ‹_›, ‹_›, ‹_›, ?_⟩
  ·exact hx
  ·rw [← canon_keep l true k hlt (canon_up' l k true hlt hf (by omega))]; exact hat
  ·(simp only [tget_cons, Nat.reduceBEq, tsel_true, tsel_false, flag_next l true])
 ·have hke : k = l.length := by omega
  subst hke
  rw [List.take_of_length_le (Nat.le_of_eq (canon_len l true)), List.drop_length, List.append_nil] at hat
  (with_reducible refine hE _ _ _ _ (nomatch ·) ?_)
  have hld := loadN_bytes hat (canon_len l true).symm
  (repeat simp only[push_cast,go_sem_proc,↓ite_only,M_block,t3, hld, bytesOf_vals])
  ((with_reducible refine hX _ _ _ (fun j hj => nomatch hj) ?_); simp only[push_cast,go_sem_proc,↓ite_only,M_block,Tryz.results13])
  exact hx
end Go.Proofs.YtbjaapiliegegaaGreatDoor.Sy
end
