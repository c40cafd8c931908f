/- Of the proof of FnNoBody: ScM ScP SdA. -/
import Derived.Test.YtbjaapiliegegaaGreatDoorScK
import Derived.Test.YtbjaapiliegegaaGreatDoorScL
set_option linter.unusedVariables false
set_option linter.unusedSimpArgs false
section
namespace Go.Proofs.YtbjaapiliegegaaGreatDoor.Sy
open Go
set_option maxRecDepth 100000
variable {w0 : World} {h : Heap}
@[push_cast] def p80_5 : Plan := [(0, []), (1, []), (2, []), (3, []), (4, []), (5, []), (6, []), (7, []), (8, []), (9, []), (10, []), (11, [])]
theorem sameL_one (a b : UInt8) : sameL [a] [b] = decide ((a.toNat : Int) = (b.toNat : Int)) := by
 unfold sameL
 rw [Bool.eq_iff_iff, decide_eq_true_eq, decide_eq_true_eq]
 constructor
 ·intro e
  cases e
  rfl
 ·intro e
  rw [byte_eq e]
theorem one_sub (s : List UInt8) (i : Nat) (hi : i < s.length) : (s.take (i + 1)).drop i = [nth s i] := by
 rw [take_snoc s i hi]
 have : (s.take i).length = i := by rw [List.length_take]; omega
 rw [List.drop_append, this, Nat.sub_self, List.drop_eq_nil_of_le (Nat.le_of_eq this)]
 rfl
def notB (c : UInt8) (b : UInt8) : Bool := decide (b.toNat ≠ c.toNat)
def cutL (c : UInt8) (s : Str) : Str × Str × Bool :=
 match decide ((s.takeWhile (notB c)).length < s.length) with
 | true => (s.takeWhile (notB c), s.drop ((s.takeWhile (notB c)).length + 1), true)
 | false => (s, [], false)
set_option maxHeartbeats 2000000 in
theorem cut_ok (s : Str) (sg : UInt8) (hl : s.length < 1099511627776) :
  ACall Tryz.prog w0 80 [S s, S [sg]] h (fun v h' => v = .tuple #[S (cutL sg s).1, S (cutL sg s).2.1, .bool (cutL sg s).2.2] ∧ Ext h h') := by
 refine ACall.known fun hKn => ?_
 obtain ⟨hN, hB⟩ := hKn
 refine ACall.run noCount mixed Tryz.func80 rfl (by kernel_rfl) (Nat.le_of_ble_eq_true rfl) fun X hX => ?_
 (repeat simp only[push_cast,go_sem_proc,↓ite_only,M_block])
 refine M_loop (fun tm h1 n => ∃ i : Nat, i ≤ s.length ∧ n = s.length - i ∧ h1 = h ∧ tget tm 7 = I i ∧ tget tm 0 = S s ∧ tget tm 1 = S [sg] ∧ (s.take i).all (notB sg) = true) s.length
  ⟨0, by omega, by omega, rfl, (by simp only[zT,Nat.reduceBEq];rfl), (by simp only[zT,Nat.reduceBEq]), (by simp only[zT,Nat.reduceBEq]), rfl⟩ ?_
 rintro tm1 h1 n R ⟨i, hi, rfl, rfl, t7, t0, t1, hall⟩ hR hE
 have hi1 : ((i : Int) + 1).toNat = i + 1 := by omega
 rcases Nat.lt_or_ge i s.length with hlt | hge
 ·have hone := one_sub s i hlt
  have hta : s.take s.length = s := List.take_length
  have hse := sameL_one (nth s i) sg
  (repeat simp(disch:=omega)only[push_cast,go_sem_proc,↓ite_only,M_block,t7, t0, t1, hi1, hone, hse, hta])
  repeat' ((with_reducible(first|refine condM_same ?_ ?_|refine condM_nsame ?_ ?_|refine oneM_same ?_ ?_|refine oneM_nsame ?_ ?_|refine oneP_same ?_ ?_|refine oneP_nsame ?_ ?_|refine condM_dec_ ?_ ?_|refine condM_not_ ?_ ?_|refine oneM_dec_ ?_ ?_|refine oneM_not_ ?_ ?_|refine oneP_dec_ ?_ ?_|refine oneP_not_ ?_ ?_|refine condM_bool ?_ ?_|refine oneM_bool ?_ ?_|refine oneP_bool ?_ ?_)<;>intro c) <;> first | (exfalso; first | contradiction | omega) | (try (repeat(first|(simp(disch:=omega)only[push_cast,go_sem_proc,↓ite_only,M_block,t7, t0, t1, hi1, hone, hse, hta, c])|(with_reducible refine⟨by omega,?_⟩)|(with_reducible refine M_draw (id:=5) p80_5 ?_ ?_;focus kernel_rfl)))))
  ·have e := tw_eq (p := notB sg) s i hi hall (.inr (by simp [notB]; omega))
   have hC : cutL sg s = (s.take i, s.drop (i + 1), true) := by
    unfold cutL
    rw [e, List.length_take, Nat.min_eq_left hi, decide_eq_true hlt]
   (with_reducible refine hE _ _ _ _ (nomatch ·) ?_)
   (repeat simp only[push_cast,go_sem_proc,↓ite_only,M_block])
   ((with_reducible refine hX _ _ _ (fun j hj => nomatch hj) ?_); simp only[push_cast,go_sem_proc,↓ite_only,M_block,Tryz.results80])
   rw [hC]
   exact ⟨rfl, .refl _⟩
  ·refine hR _ _ (s.length - (i + 1)) (by omega) ⟨i + 1, by omega, rfl, rfl, (by simp only[zT,Nat.reduceBEq];rfl), ‹_›, ‹_›, all_snoc hlt hall (by simp [notB]; omega)⟩
 ·have hke : i = s.length := by omega
  subst hke
  rw [List.take_length] at hall
  have hC : cutL sg s = (s, [], false) := by
   unfold cutL
   rw [tw_eq s s.length (Nat.le_refl _) (by rw [List.take_length]; exact hall) (.inl rfl), List.take_length, decide_eq_false (by omega)]
  (repeat simp(disch:=omega)only[push_cast,go_sem_proc,↓ite_only,M_block,t7, t0, t1])
  repeat' ((with_reducible(first|refine condM_same ?_ ?_|refine condM_nsame ?_ ?_|refine oneM_same ?_ ?_|refine oneM_nsame ?_ ?_|refine oneP_same ?_ ?_|refine oneP_nsame ?_ ?_|refine condM_dec_ ?_ ?_|refine condM_not_ ?_ ?_|refine oneM_dec_ ?_ ?_|refine oneM_not_ ?_ ?_|refine oneP_dec_ ?_ ?_|refine oneP_not_ ?_ ?_|refine condM_bool ?_ ?_|refine oneM_bool ?_ ?_|refine oneP_bool ?_ ?_)<;>intro c) <;> first | (exfalso; first | contradiction | omega) | (try (repeat simp only[push_cast,go_sem_proc,↓ite_only,M_block,t7, t0, t1, c])))
  (with_reducible refine hE _ _ _ _ (nomatch ·) ?_)
  (repeat simp only[push_cast,go_sem_proc,↓ite_only,M_block,t0])
  ((with_reducible refine hX _ _ _ (fun j hj => nomatch hj) ?_); simp only[push_cast,go_sem_proc,↓ite_only,M_block,Tryz.results80])
  rw [hC]
  exact ⟨rfl, .refl _⟩
def isSp (b : UInt8) : Bool := decide (b.toNat = 32)
set_option maxHeartbeats 2000000 in
theorem trimBlanks_ok (s : Str) (hl : s.length < 1099511627776) :
  ACall Tryz.prog w0 82 [S s] h (fun v h' => v = S (s.dropWhile isSp) ∧ Ext h h') := by
 refine ACall.known fun hKn => ?_
 obtain ⟨hN, hB⟩ := hKn
 refine ACall.run noCount mixed Tryz.func82 rfl (by kernel_rfl) (Nat.le_of_ble_eq_true rfl) fun X hX => ?_
 (repeat simp only[push_cast,go_sem_proc,↓ite_only,M_block])
 refine M_loop (fun tm h1 n => ∃ x : Str, x.length ≤ s.length ∧ n = x.length ∧ h1 = h ∧ tget tm 0 = S x ∧ x.dropWhile isSp = s.dropWhile isSp) s.length
  ⟨s, by omega, rfl, rfl, (by simp only[zT,Nat.reduceBEq]), rfl⟩ ?_
 rintro tm1 h1 n R ⟨x, hxl, rfl, rfl, t0, hdw⟩ hR hE
 have hdx : (x.take x.length).drop 1 = x.drop 1 := by rw [List.take_length]
 (repeat simp only[push_cast,go_sem_proc,↓ite_only,M_block,t0, hdx])
 repeat' ((with_reducible(first|refine condM_same ?_ ?_|refine condM_nsame ?_ ?_|refine oneM_same ?_ ?_|refine oneM_nsame ?_ ?_|refine oneP_same ?_ ?_|refine oneP_nsame ?_ ?_|refine condM_dec_ ?_ ?_|refine condM_not_ ?_ ?_|refine oneM_dec_ ?_ ?_|refine oneM_not_ ?_ ?_|refine oneP_dec_ ?_ ?_|refine oneP_not_ ?_ ?_|refine condM_bool ?_ ?_|refine oneM_bool ?_ ?_|refine oneP_bool ?_ ?_)<;>intro c) <;> first | (exfalso; first | contradiction | omega) | (try (repeat(first|(simp only[push_cast,go_sem_proc,↓ite_only,M_block,t0, hdx, c])|(with_reducible refine⟨by omega,?_⟩)))))
 ·refine hR _ _ (x.length - 1) (by omega) ⟨x.drop 1, by rw [List.length_drop]; omega, by rw [List.length_drop], rfl, (by simp only[zT,Nat.reduceBEq]), ?_⟩
  rw [← dw_go (by omega) (by simp [isSp]; omega), hdw]
 ·(with_reducible refine hE _ _ _ _ (nomatch ·) ?_)
  (repeat simp only[push_cast,go_sem_proc,↓ite_only,M_block,t0])
  ((with_reducible refine hX _ _ _ (fun j hj => nomatch hj) ?_); simp only[push_cast,go_sem_proc,↓ite_only,M_block,Tryz.results82])
  rw [← hdw, dw_stop (.inr (by simp [isSp]; omega))]
  exact ⟨rfl, .refl _⟩
 ·have hxe : x = [] := List.eq_nil_of_length_eq_zero (by omega)
  (with_reducible refine hE _ _ _ _ (nomatch ·) ?_)
  (repeat simp only[push_cast,go_sem_proc,↓ite_only,M_block,t0])
  ((with_reducible refine hX _ _ _ (fun j hj => nomatch hj) ?_); simp only[push_cast,go_sem_proc,↓ite_only,M_block,Tryz.results82])
  rw [← hdw, hxe]
  exact ⟨rfl, .refl _⟩
end Go.Proofs.YtbjaapiliegegaaGreatDoor.Sy
end
section
namespace Go.Proofs.YtbjaapiliegegaaGreatDoor.Sy
open Go
set_option maxRecDepth 100000
variable {w0 : World} {h : Heap}
theorem field_short (s : Str) (first : Bool) : (fieldL s first).1.1.length ≤ s.length ∧ (fieldL s first).1.2.length ≤ s.length := by
 unfold fieldL
 cases blankB (nth s 0) with
 | true => cases first <;> simp
 | false =>
  simp only []
  generalize (s.takeWhile noCol).length = i
  unfold fieldJ
  cases decide (i < s.length) with
  | false => simp
  | true =>
   cases (s.take i).any blankB with
   | true => simp
   | false =>
    cases tokL (s.take i) with
    | false => simp
    | true =>
     cases contentL (trimB (s.drop (i + 1))) with
     | false => simp
     | true =>
      have h1 := trimB_len (s.drop (i + 1))
      rw [List.length_drop] at h1
      refine ⟨?_, ?_⟩
      ·show (s.take i).length ≤ s.length
       rw [List.length_take]
       omega
      ·show (trimB (s.drop (i + 1))).length ≤ s.length
       omega
theorem fieldsJ_short : ∀ (f : Nat) (m : Str) (out : List Fld) (n : Nat), (∀ x ∈ out, x.1.length ≤ n ∧ x.2.length ≤ n) → m.length ≤ n → ∀ x ∈ (fieldsJ f m out).1, x.1.length ≤ n ∧ x.2.length ≤ n
 | 0, m, out, n, _, _ => by simp [fieldsJ]
 | f + 1, m, out, n, ho, hm => by
  unfold fieldsJ
  cases h1 : decide ((lineL m).2.1 = 1) with
  | true => simp
  | false =>
   cases h2 : decide ((lineL m).2.1 = 2) with
   | true => simp
   | false =>
    have h3 := of_decide_eq_false h1
    have h4 := of_decide_eq_false h2
    have h5 : (lineL m).2.1 = 0 := by have := fault_cases m; omega
    obtain ⟨_, _, hlt⟩ := line_take h5
    cases (lineL m).1.isEmpty with
    | true => exact ho
    | false =>
     cases decide (60 < out.length) with
     | true => simp
     | false =>
      cases decide ((fieldL (lineL m).1 out.isEmpty).2 = 0) with
      | false => simp
      | true =>
       refine fieldsJ_short f _ _ n ?_ ?_
       ·intro x hx
        rcases List.mem_append.1 hx with hx | hx
        ·exact ho x hx
        ·have hx' : x = (fieldL (lineL m).1 out.isEmpty).1 := by simpa using hx
         have := field_short (lineL m).1 out.isEmpty
         rw [hx']
         omega
       ·rw [List.length_drop]
        omega
theorem fields_short (m : Str) : ∀ x ∈ (fieldsL m).1, x.1.length ≤ m.length ∧ x.2.length ≤ m.length :=
 fieldsJ_short _ m [] m.length (by simp) (Nat.le_refl _)
theorem fieldsJ_count : ∀ (f : Nat) (m : Str) (out : List Fld), out.length ≤ 61 → (fieldsJ f m out).1.length ≤ 61
 | 0, m, out, _ => by simp [fieldsJ]
 | f + 1, m, out, ho => by
  unfold fieldsJ
  cases decide ((lineL m).2.1 = 1) with
  | true => simp
  | false =>
   cases decide ((lineL m).2.1 = 2) with
   | true => simp
   | false =>
    cases (lineL m).1.isEmpty with
    | true => exact ho
    | false =>
     cases h1 : decide (60 < out.length) with
     | true => simp
     | false =>
      have h2 := of_decide_eq_false h1
      cases decide ((fieldL (lineL m).1 out.isEmpty).2 = 0) with
      | false => simp
      | true => exact fieldsJ_count f _ _ (by simp; omega)
theorem fields_count (m : Str) : (fieldsL m).1.length ≤ 61 := fieldsJ_count _ m [] (by simp)
end Go.Proofs.YtbjaapiliegegaaGreatDoor.Sy
end
section
namespace Go.Proofs.YtbjaapiliegegaaGreatDoor.Sy
open Go
set_option maxRecDepth 100000
variable {w0 : World} {h : Heap}
@[push_cast] def p192_1 : Plan := [(0, []), (1, []), (2, []), (3, []), (4, []), (5, []), (6, []), (7, []), (8, []), (9, []), (10, []), (11, []), (12, []), (13, []), (14, []), (15, []), (16, []), (17, [])]
@[push_cast] def p192_2 : Plan := [(0, []), (1, []), (2, []), (3, []), (4, []), (5, []), (6, []), (7, []), (8, []), (9, []), (10, []), (11, [])]
@[push_cast] def p192_4 : Plan := [(0, []), (1, []), (2, []), (3, []), (4, []), (5, []), (6, []), (7, []), (8, []), (9, [])]
@[push_cast] def p192_9 : Plan := [(0, []), (1, []), (2, []), (3, []), (4, []), (5, []), (6, []), (7, []), (8, []), (9, []), (10, []), (11, []), (12, []), (13, []), (14, []), (15, []), (16, []), (17, []), (18, []), (19, []), (20, [])]
theorem M_hide {P : Program} {K : List Fr} {tm : Tm} {df : Df} {Q : Post} {A C : Code} (e : ∀ C', C' = C → M P w0 (.code A :: .code C' :: K) .normal tm df h Q) : M P w0 (.code A :: .code C :: K) .normal tm df h Q := e C rfl
theorem byteVals_app (a b : Str) : byteVals (a ++ b) = byteVals a ++ byteVals b := by simp [byteVals]
theorem byteVals_take (a : Str) (n : Nat) : (byteVals a).take n = byteVals (a.take n) := by simp [byteVals, List.map_take]
theorem byteVals_drop (a : Str) (n : Nat) : (byteVals a).drop n = byteVals (a.drop n) := by simp [byteVals, List.map_drop]
def spl (c : Str) (o : Nat) (m : Str) : Str := c.take o ++ m ++ c.drop (o + m.length)
theorem splice_bytes (c m : Str) (o : Nat) : splice (byteVals c) o (byteVals m) = byteVals (spl c o m) := by
 unfold splice spl
 rw [byteVals_length, byteVals_take, byteVals_drop, ← byteVals_app, ← byteVals_app]
theorem spl_len {c m : Str} {o : Nat} (h : o + m.length ≤ c.length) : (spl c o m).length = c.length := by
 unfold spl
 simp only [List.length_append, List.length_take, List.length_drop]
 omega
theorem spl_take {c m : Str} {o : Nat} (h : o ≤ c.length) : (spl c o m).take (o + m.length) = c.take o ++ m := by
 unfold spl
 rw [List.take_left' (by simp only [List.length_append, List.length_take]; omega)]
theorem splice_mid (pre mid post vs : List Value) (hv : vs.length ≤ mid.length) : splice (pre ++ (mid ++ post)) pre.length vs = pre ++ (vs ++ (mid.drop vs.length ++ post)) := by
 unfold splice
 rw [List.take_left, List.drop_append, List.drop_eq_nil_of_le (Nat.le_add_right _ _), Nat.add_sub_cancel_left, List.drop_append_of_le_length hv]
 simp
def Keep (X : List Nat) (h h' : Heap) : Prop := h.n ≤ h'.n ∧ ∀ b, b < h.n → b ∉ X → h'.at b = h.at b
theorem Keep.refl (X : List Nat) (h : Heap) : Keep X h h := ⟨Nat.le_refl _, fun _ _ _ => rfl⟩
theorem Keep.trans {X : List Nat} {a b c : Heap} (x : Keep X a b) (y : Keep X b c) : Keep X a c := ⟨Nat.le_trans x.1 y.1, fun i hi hX => (y.2 i (Nat.lt_of_lt_of_le hi x.1) hX).trans (x.2 i hi hX)⟩
theorem Keep.more {X Y : List Nat} {a b : Heap} (x : Keep X a b) (hs : ∀ i, i ∈ X → i ∈ Y) : Keep Y a b := ⟨x.1, fun i hi hY => x.2 i hi (fun hX => hY (hs i hX))⟩
theorem Ext.keep {a b : Heap} (x : Ext a b) (X : List Nat) : Keep X a b := ⟨x.1, fun i hi _ => x.2 i hi⟩
theorem Keep.put {X : List Nat} {a b : Heap} (x : Keep X a b) {c : Nat} (hc : c ∈ X ∨ a.n ≤ c) (o : AO) : Keep X a (b.put c o) := ⟨x.1, fun i hi hX => (at_put_ne _ _ (by rintro rfl; rcases hc with hc | hc; exact hX hc; omega)).trans (x.2 i hi hX)⟩
theorem Keep.new {X : List Nat} {a b : Heap} (x : Keep X a b) (o : AO) : Keep X a (b.new o) := ⟨Nat.le_succ_of_le x.1, fun i hi hX => (at_new_ne _ _ (Nat.ne_of_lt (Nat.lt_of_lt_of_le hi x.1))).trans (x.2 i hi hX)⟩
theorem Keep.ext {a b : Heap} (x : Keep [] a b) : Ext a b := ⟨x.1, fun i hi => x.2 i hi (by simp)⟩
abbrev eofV : Value := .iface 132 (S [69, 79, 70])
def errOf (b : Bool) : Value := match b with | true => eofV | false => .nilIface
theorem errOf_t : errOf true = eofV := rfl
theorem errOf_f : errOf false = .nilIface := rfl
theorem single_errOf (b : Bool) : single (errOf b) = true := by cases b <;> rfl
def SrcD (h : Heap) (db : Nat) (sv : Value) (src : Str) : Prop :=
 (src = [] ∧ ∃ a cp, sv = .slice a 0 cp) ∨ ∃ pre post cp lo hi, sv = .slice (some ⟨db, pre.length, none⟩) src.length cp ∧ src.length ≤ cp ∧ h.at db = some (.cells (pre ++ (byteVals src ++ post)) 5 lo hi)
theorem SrcD.keep {h h' : Heap} {db : Nat} {sv : Value} {src : Str} (d : SrcD h db sv src) (e : h'.at db = h.at db) : SrcD h' db sv src := by
 rcases d with d | ⟨pre, post, cp, lo, hi, h1, h2, h3⟩
 ·exact .inl d
 ·exact .inr ⟨pre, post, cp, lo, hi, h1, h2, e.trans h3⟩
theorem SrcD.len {db : Nat} {sv : Value} {src : Str} (d : SrcD h db sv src) : ∃ a cp, sv = .slice a src.length cp := by
 rcases d with ⟨rfl, a, cp, rfl⟩ | ⟨pre, post, cp, lo, hi, rfl, _, _⟩ <;> exact ⟨_, _, rfl⟩
theorem SrcD.drop {db m cp : Nat} {src : Str} {pre post : List Value} {lo hi : Nat} (hm : m ≤ src.length) (hcp : src.length ≤ cp) (hat : h.at db = some (.cells (pre ++ (byteVals src ++ post)) 5 lo hi)) :
  SrcD h db (.slice (some ⟨db, pre.length + m, none⟩) (src.length - m) (cp - m)) (src.drop m) := by
 refine .inr ⟨pre ++ byteVals (src.take m), post, cp - m, lo, hi, ?_, ?_, ?_⟩
 ·rw [List.length_append, byteVals_length, List.length_take, Nat.min_eq_left hm, List.length_drop]
 ·rw [List.length_drop]; omega
 ·rw [hat]
  have : byteVals src = byteVals (src.take m) ++ byteVals (src.drop m) := by rw [← byteVals_app, List.take_append_drop]
  rw [this]
  simp only [List.append_assoc]
set_option maxHeartbeats 2000000 in
theorem bread_ok {sb db pb n cp : Nat} {sv : Value} {src : Str} {pre mid post : List Value} (hsb : w0.heap.size ≤ sb) (hpb : w0.heap.size ≤ pb) (h1 : h.at sb = some (.cells [sv] 127 0 0)) (h2 : SrcD h db sv src)
  (h3 : h.at pb = some (.cells (pre ++ (mid ++ post)) 5 0 0)) (hn : mid.length = n) (hd1 : pb ≠ sb) (hd2 : pb ≠ db) (hd3 : sb ≠ db) (hl : src.length < 1000000000) (hnl : n < 9223372036854775808) :
  ACall Tryz.prog w0 312 [ptr sb 0, .slice (some ⟨pb, pre.length, none⟩) n cp] h (fun v h' => v = .tuple #[I (min src.length n : Nat), errOf src.isEmpty] ∧ Keep [sb, pb] h h' ∧
   h'.at pb = some (.cells (pre ++ (byteVals (src.take n) ++ (mid.drop src.length ++ post))) 5 0 0) ∧ ∃ sv', h'.at sb = some (.cells [sv'] 127 0 0) ∧ SrcD h' db sv' (src.drop n)) := by
 refine ACall.known fun hKn => ?_
 obtain ⟨hN, hB⟩ := hKn
 refine ACall.run noCount mixed Tryz.func312 rfl (by kernel_rfl) (Nat.le_of_ble_eq_true rfl) fun X hX => ?_
 rcases h2 with ⟨rfl, a, cp', rfl⟩ | ⟨pre2, post2, cp', lo, hi, rfl, hcp, hat⟩
 ·(repeat simp(disch:=omega)only[push_cast,go_sem_proc,↓ite_only,M_block,h1])
  ((with_reducible refine hX _ _ _ (fun j hj => nomatch hj) ?_); simp only[push_cast,go_sem_proc,↓ite_only,M_block,Tryz.results312])
  exact ⟨by simp [errOf_t], .refl _ _, by simpa [byteVals] using h3, _, h1, .inl ⟨by simp, _, _, rfl⟩⟩
 ·rcases Nat.eq_zero_or_pos src.length with h0 | h0
  ·obtain rfl := List.eq_nil_of_length_eq_zero h0
   (repeat simp(disch:=omega)only[push_cast,go_sem_proc,↓ite_only,M_block,h1])
   ((with_reducible refine hX _ _ _ (fun j hj => nomatch hj) ?_); simp only[push_cast,go_sem_proc,↓ite_only,M_block,Tryz.results312])
   exact ⟨by simp [errOf_t], .refl _ _, by simpa [byteVals] using h3, _, h1, .inl ⟨by simp, _, _, rfl⟩⟩
  ·obtain ⟨m, hm⟩ : ∃ m, min src.length n = m := ⟨_, rfl⟩
   have hms : m ≤ src.length := by omega
   have hmn : m ≤ n := by omega
   have htk : src.take m = src.take n := by
    rw [← hm]
    rcases Nat.le_total src.length n with hh | hh
    ·rw [Nat.min_eq_left hh, List.take_length, List.take_of_length_le hh]
    ·rw [Nat.min_eq_right hh]
   have hdr : src.drop m = src.drop n := by
    rw [← hm]
    rcases Nat.le_total src.length n with hh | hh
    ·rw [Nat.min_eq_left hh, List.drop_length, List.drop_of_length_le hh]
    ·rw [Nat.min_eq_right hh]
   have hmd : mid.drop m = mid.drop src.length := by
    rcases Nat.le_total src.length n with hh | hh
    ·rw [show m = src.length by omega]
    ·rw [List.drop_of_length_le (by omega), List.drop_of_length_le (by omega)]
   have hlt : (src.take m).length = m := by rw [List.length_take, Nat.min_eq_left hms]
   have hld : loadN h db pre2.length m = some (byteVals (src.take m)) := by
    have := loadN_sub (p := 0) (n := m) hat (by omega)
    simpa using this
   have hsp : splice (pre ++ (mid ++ post)) pre.length (byteVals (src.take m)) = pre ++ (byteVals (src.take m) ++ (mid.drop m ++ post)) := by
    rw [splice_mid _ _ _ _ (by rw [byteVals_length, hlt]; omega), byteVals_length, hlt]
   have hne : decide ((src.length : Int) = 0) = false := decide_eq_false (by omega)
   have hemp : src.isEmpty = false := by cases src with | nil => simp at h0 | cons _ _ => rfl
   have hml : m ≤ cp' := by omega
   by_cases hc : cp' = m
   ·have hce : (cp' = m) = True := eq_true hc
    have hd0 : src.drop m = [] := List.drop_of_length_le (by omega)
    (repeat(first|(simp(disch:=first|omega|(simp only[zN];omega))only[push_cast,go_sem_proc,↓ite_only,M_block,h1, h3, hm, hld, hsp, hlt, hne, hce])|(with_reducible refine And.intro ?_ ?_;focus(first|omega|(simp only[zL,h1, h3, hm, hld, hsp, hlt, hne, hce];omega)))))
    ((with_reducible refine hX _ _ _ (fun j hj => nomatch hj) ?_); simp(disch:=omega)only[push_cast,go_sem_proc,↓ite_only,M_block,Tryz.results312])
    refine ⟨by rw [hemp, hm]; rfl, ((Keep.refl _ _).put (.inl (by simp)) _).put (.inl (by simp)) _, ?_, _, rfl, ?_⟩
    ·rw [htk, hmd]
    ·rw [← hdr, hd0]
     exact .inl ⟨rfl, _, _, by rw [show src.length - m = 0 by omega]⟩
   ·have hce : (cp' = m) = False := eq_false hc
    (repeat(first|(simp(disch:=first|omega|(simp only[zN];omega))only[push_cast,go_sem_proc,↓ite_only,M_block,h1, h3, hm, hld, hsp, hlt, hne, hce])|(with_reducible refine And.intro ?_ ?_;focus(first|omega|(simp only[zL,h1, h3, hm, hld, hsp, hlt, hne, hce];omega)))))
    ((with_reducible refine hX _ _ _ (fun j hj => nomatch hj) ?_); simp(disch:=omega)only[push_cast,go_sem_proc,↓ite_only,M_block,Tryz.results312])
    refine ⟨by rw [hemp, hm]; rfl, ((Keep.refl _ _).put (.inl (by simp)) _).put (.inl (by simp)) _, ?_, _, rfl, ?_⟩
    ·rw [htk, hmd]
    ·rw [← hdr]
     refine (SrcD.drop hms hcp hat).keep ?_
     rw [at_put_ne _ _ (Ne.symm hd3), at_put_ne _ _ (Ne.symm hd2)]
structure Bio where
 R : Nat
 bb : Nat
 sb : Nat
 db : Nat
structure Bio.Ok (g : Bio) (N : Nat) : Prop where
 nR : N ≤ g.R
 nb : N ≤ g.bb
 ns : N ≤ g.sb
 d1 : g.R ≠ g.bb
 d2 : g.R ≠ g.sb
 d3 : g.R ≠ g.db
 d4 : g.bb ≠ g.sb
 d5 : g.bb ≠ g.db
 d6 : g.sb ≠ g.db
abbrev Bio.X (g : Bio) : List Nat := [g.R, g.bb, g.sb]
structure BRl (h : Heap) (g : Bio) (buf : Str) (r w : Nat) (er : Bool) (lb lrs : Int) (sv : Value) (src : Str) : Prop where
 rd : h.at g.R = some (.cells [.slice (some ⟨g.bb, 0, none⟩) 4096 4096, .iface 125 (ptr g.sb 0), I r, I w, errOf er, I lb, I lrs] 217 0 0)
 bf : h.at g.bb = some (.cells (byteVals buf) 5 0 0)
 bl : buf.length = 4096
 rw : r ≤ w
 ww : w ≤ 4096
 sa : h.at g.sb = some (.cells [sv] 127 0 0)
 sd : SrcD h g.db sv src
 sl : src.length < 1000000000
 lR : g.R < h.n
 lb' : g.bb < h.n
 ls : g.sb < h.n
 ld : g.db < h.n
theorem BRl.keep {h h' : Heap} {g : Bio} {buf : Str} {r w : Nat} {er : Bool} {lb lrs : Int} {sv : Value} {src : Str} {X : List Nat} (b : BRl h g buf r w er lb lrs sv src) (k : Keep X h h') (e1 : g.R ∉ X) (e2 : g.bb ∉ X) (e3 : g.sb ∉ X) (e4 : g.db ∉ X) : BRl h' g buf r w er lb lrs sv src :=
 ⟨(k.2 _ b.lR e1).trans b.rd, (k.2 _ b.lb' e2).trans b.bf, b.bl, b.rw, b.ww, (k.2 _ b.ls e3).trans b.sa, b.sd.keep (k.2 _ b.ld e4), b.sl, Nat.lt_of_lt_of_le b.lR k.1, Nat.lt_of_lt_of_le b.lb' k.1, Nat.lt_of_lt_of_le b.ls k.1, Nat.lt_of_lt_of_le b.ld k.1⟩
theorem BRl.ext {h h' : Heap} {g : Bio} {buf : Str} {r w : Nat} {er : Bool} {lb lrs : Int} {sv : Value} {src : Str} (b : BRl h g buf r w er lb lrs sv src) (k : Ext h h') : BRl h' g buf r w er lb lrs sv src :=
 b.keep (k.keep []) (by simp) (by simp) (by simp) (by simp)
theorem BRl.re {h h' : Heap} {N : Nat} {g : Bio} {buf : Str} {r w r' w' : Nat} {er er' : Bool} {lb lrs lb' lrs' : Int} {sv : Value} {src : Str} (b : BRl h g buf r w er lb lrs sv src) (G : g.Ok N) (k : Keep [g.R] h h')
  (e : h'.at g.R = some (.cells [.slice (some ⟨g.bb, 0, none⟩) 4096 4096, .iface 125 (ptr g.sb 0), I r', I w', errOf er', I lb', I lrs'] 217 0 0)) (h1 : r' ≤ w') (h2 : w' ≤ 4096) : BRl h' g buf r' w' er' lb' lrs' sv src :=
 ⟨e, (k.2 _ b.lb' (by simp [Ne.symm G.d1])).trans b.bf, b.bl, h1, h2, (k.2 _ b.ls (by simp [Ne.symm G.d2])).trans b.sa, b.sd.keep (k.2 _ b.ld (by simp [Ne.symm G.d3])), b.sl, Nat.lt_of_lt_of_le b.lR k.1, Nat.lt_of_lt_of_le b.lb' k.1, Nat.lt_of_lt_of_le b.ls k.1, Nat.lt_of_lt_of_le b.ld k.1⟩
def restL (buf : Str) (r w : Nat) (src : Str) : Str := (buf.drop r).take (w - r) ++ src
theorem BRl.load {g : Bio} {buf : Str} {r w : Nat} {er : Bool} {lb lrs : Int} {sv : Value} {src : Str} (b : BRl h g buf r w er lb lrs sv src) {o n : Nat} (hn : o + n ≤ 4096) : loadN h g.bb o n = some (byteVals ((buf.drop o).take n)) := by
 rw [loadN_eq, b.bf, loadC_some, only_pos (by rw [byteVals_length, b.bl]; exact hn), byteVals_drop, byteVals_take]
theorem BRl.sub {g : Bio} {buf : Str} {r w : Nat} {er : Bool} {lb lrs : Int} {sv : Value} {src : Str} (b : BRl h g buf r w er lb lrs sv src) {o n cp : Nat} (hn : o + n ≤ 4096) (hcp : n ≤ cp) : Data h (.slice (some ⟨g.bb, o, none⟩) n cp) ((buf.drop o).take n) := by
 have hl : ((buf.drop o).take n).length = n := by rw [List.length_take, List.length_drop, b.bl]; omega
 refine .inr ⟨g.bb, byteVals (buf.take o), byteVals (buf.drop (o + n)), cp, 0, 0, ?_, by omega, ?_⟩
 ·rw [byteVals_length, List.length_take, b.bl, Nat.min_eq_left (by omega), hl]
 ·rw [b.bf, ← byteVals_app, ← byteVals_app, ← List.drop_drop, List.take_append_drop, List.take_append_drop]
set_option maxHeartbeats 4000000 in
theorem bfill_ok {g : Bio} {buf : Str} {r w : Nat} {er : Bool} {lb lrs : Int} {sv : Value} {src : Str} (G : g.Ok w0.heap.size) (b : BRl h g buf r w er lb lrs sv src) (hw : w - r < 4096) :
  ACall Tryz.prog w0 192 [ptr g.R 0] h (fun _ h' => Keep g.X h h' ∧ ∃ buf' sv', BRl h' g buf' 0 (w - r + min src.length (4096 - (w - r))) (er || src.isEmpty) lb lrs sv' (src.drop (4096 - (w - r))) ∧
   buf'.take (w - r + min src.length (4096 - (w - r))) = (buf.drop r).take (w - r) ++ src.take (4096 - (w - r))) := by
 refine ACall.known fun hKn => ?_
 obtain ⟨hN, hB⟩ := hKn
 refine ACall.run noCount mixed Tryz.func192 rfl (by kernel_rfl) (Nat.le_of_ble_eq_true rfl) fun X hX => ?_
 have G0 := G
 obtain ⟨nR, nb, ns, d1, d2, d3, d4, d5, d6⟩ := G
 have d1' := Ne.symm d1
 have d2' := Ne.symm d2
 have d3' := Ne.symm d3
 have d4' := Ne.symm d4
 have d5' := Ne.symm d5
 have d6' := Ne.symm d6
 have b0 := b
 obtain ⟨rd, bf, bl, hrw, hww, sa, sd, sl, lR, lB, lS, lD⟩ := b
 have hwr : ((w - r : Nat) : Int) = (w : Int) - (r : Int) := by omega
 have hwt : ((w : Int) - (r : Int)).toNat = w - r := by omega
 rw [M_seq]
 refine M_cut (fun tm h1 => tget tm 0 = ptr g.R 0 ∧ Keep g.X h h1 ∧ ∃ buf1, BRl h1 g buf1 0 (w - r) er lb lrs sv src ∧ buf1.take (w - r) = (buf.drop r).take (w - r)) (fun R hR hE => ?_) ?_
 ·(repeat simp(disch:=omega)only[push_cast,go_sem_proc,↓ite_only,M_block,rd])
  (with_reducible(first|refine condM_same ?_ ?_|refine condM_nsame ?_ ?_|refine oneM_same ?_ ?_|refine oneM_nsame ?_ ?_|refine oneP_same ?_ ?_|refine oneP_nsame ?_ ?_|refine condM_dec_ ?_ ?_|refine condM_not_ ?_ ?_|refine oneM_dec_ ?_ ?_|refine oneM_not_ ?_ ?_|refine oneP_dec_ ?_ ?_|refine oneP_not_ ?_ ?_|refine condM_bool ?_ ?_|refine oneM_bool ?_ ?_|refine oneP_bool ?_ ?_)<;>intro c)
  ·have hml : ((buf.drop r).take (w - r)).length = w - r := by rw [List.length_take, List.length_drop, bl]; omega
   have hmin : min (w - r) 4096 = w - r := by omega
   have hsp := splice_bytes buf ((buf.drop r).take (w - r)) 0
   have hspl : (spl buf 0 ((buf.drop r).take (w - r))).length = 4096 := by rw [spl_len (by omega), bl]
   have htk : (spl buf 0 ((buf.drop r).take (w - r))).take (w - r) = (buf.drop r).take (w - r) := by
    have := spl_take (c := buf) (m := (buf.drop r).take (w - r)) (o := 0) (by omega)
    rw [Nat.zero_add, hml] at this
    rw [this]; simp
   rcases Nat.lt_or_ge r 4096 with hr | hr
   ·have hq : (4096 = r) = False := eq_false (by omega)
    have hld := b0.load (o := r) (n := w - r) (by omega)
    (repeat(first|(simp(disch:=first|omega|(simp only[zN];omega))only[push_cast,go_sem_proc,↓ite_only,M_block,rd, bf, hq, hld, hmin, hml, hsp, hwt, bl])|(with_reducible refine⟨by omega,?_⟩)|(with_reducible refine M_draw (id:=1) p192_1 ?_ ?_;focus kernel_rfl)|(with_reducible refine M_draw (id:=2) p192_2 ?_ ?_;focus kernel_rfl)))
    (with_reducible refine hR _ _ ?_)
    exact ⟨(by simp only[zT,Nat.reduceBEq]), (by repeat (first | exact Keep.refl _ _ | assumption | refine Keep.put ?_ (by first | (left; simp; done) | (right; omega)) _ | refine Keep.new ?_ _)), _, ⟨by rw [hwr]; exact (by first|assumption|(simp(disch:=first|assumption|omega)only[at_put_eq,at_put_ne,at_new_eq,at_new_ne,zN,ne_eq,not_false_eq_true];first|done|assumption|rfl)), (by first|assumption|(simp(disch:=first|assumption|omega)only[at_put_eq,at_put_ne,at_new_eq,at_new_ne,zN,ne_eq,not_false_eq_true];first|done|assumption|rfl)), hspl, by omega, by omega, (by first|assumption|(simp(disch:=first|assumption|omega)only[at_put_eq,at_put_ne,at_new_eq,at_new_ne,zN,ne_eq,not_false_eq_true];first|done|assumption|rfl)), sd.keep (by first|assumption|(simp(disch:=first|assumption|omega)only[at_put_eq,at_put_ne,at_new_eq,at_new_ne,zN,ne_eq,not_false_eq_true];first|done|assumption|rfl)), sl, lR, lB, lS, lD⟩, htk⟩
   ·have hr2 : r = 4096 := by omega
    have hq : (4096 = r) = True := eq_true (by omega)
    have hz : w - r = 0 := by omega
    have hmin0 : min 0 4096 = 0 := rfl
    have hnil : (buf.drop r).take (w - r) = [] := by rw [hz]; rfl
    have hld : loadN h g.bb 0 0 = some (byteVals []) := by have := b0.load (o := 0) (n := 0) (by omega); simpa using this
    rw [hnil] at hsp hspl htk
    (repeat(first|(simp(disch:=first|omega|(simp only[zN];omega))only[push_cast,go_sem_proc,↓ite_only,M_block,rd, bf, hq, hld, hmin0, hsp, hwt, bl, hz])|(with_reducible refine⟨by omega,?_⟩)|(with_reducible refine M_draw (id:=1) p192_1 ?_ ?_;focus kernel_rfl)|(with_reducible refine M_draw (id:=2) p192_2 ?_ ?_;focus kernel_rfl)))
    (with_reducible refine hR _ _ ?_)
    exact ⟨(by simp only[zT,Nat.reduceBEq]), (by repeat (first | exact Keep.refl _ _ | assumption | refine Keep.put ?_ (by first | (left; simp; done) | (right; omega)) _ | refine Keep.new ?_ _)), _, ⟨by rw [hwr]; exact (by first|assumption|(simp(disch:=first|assumption|omega)only[at_put_eq,at_put_ne,at_new_eq,at_new_ne,zN,ne_eq,not_false_eq_true];first|done|assumption|rfl)), (by first|assumption|(simp(disch:=first|assumption|omega)only[at_put_eq,at_put_ne,at_new_eq,at_new_ne,zN,ne_eq,not_false_eq_true];first|done|assumption|rfl)), hspl, by omega, by omega, (by first|assumption|(simp(disch:=first|assumption|omega)only[at_put_eq,at_put_ne,at_new_eq,at_new_ne,zN,ne_eq,not_false_eq_true];first|done|assumption|rfl)), sd.keep (by first|assumption|(simp(disch:=first|assumption|omega)only[at_put_eq,at_put_ne,at_new_eq,at_new_ne,zN,ne_eq,not_false_eq_true];first|done|assumption|rfl)), sl, lR, lB, lS, lD⟩, htk.trans hnil.symm⟩
  ·have hr0 : r = 0 := by omega
   subst hr0
   (repeat simp only[push_cast,go_sem_proc,↓ite_only,M_block])
   (with_reducible refine hR _ _ ?_)
   exact ⟨(by simp only[zT,Nat.reduceBEq]), .refl _ _, buf, b0, rfl⟩
 ·rintro tm h1 ⟨t0, k1, buf1, b1, e1⟩
  obtain ⟨rd1, bf1, bl1, hrw1, hww1, sa1, sd1, sl1, lR1, lB1, lS1, lD1⟩ := b1
  generalize w - r = k at *
  have hc : decide ((4096 : Int) ≤ (k : Int)) = false := decide_eq_false (by omega)
  (repeat(first|(simp(disch:=omega)only[push_cast,go_sem_proc,↓ite_only,M_block,t0, rd1, hc])|(with_reducible refine M_draw (id:=4) p192_4 ?_ ?_;focus kernel_rfl)))
  refine M_loop (fun tm h2 n => tget tm 0 = ptr g.R 0 ∧ tget tm 2 = I 100 ∧ h2 = h1) 0 ⟨‹_›, (by simp only[zT,Nat.reduceBEq]), rfl⟩ ?_
  rintro tm2 h2 n R ⟨t0, t2, rfl⟩ hR hE
  have hq : (4096 = k) = False := eq_false (by omega)
  have hbuf : buf1 = buf1.take k ++ buf1.drop k := (List.take_append_drop _ _).symm
  have hat : h2.at g.bb = some (.cells (byteVals (buf1.take k) ++ (byteVals (buf1.drop k) ++ [])) 5 0 0) := by
   rw [bf1, List.append_nil, ← byteVals_app, List.take_append_drop]
  have hpl : (byteVals (buf1.take k)).length = k := by rw [byteVals_length, List.length_take]; omega
  (repeat(first|(simp(disch:=omega)only[push_cast,go_sem_proc,↓ite_only,M_block,t0, t2, rd1, hq])|(with_reducible refine⟨by omega,?_⟩)|(with_reducible refine M_draw (id:=9) p192_9 ?_ ?_;focus kernel_rfl)))
  have hcall := bread_ok (w0 := w0) (n := 4096 - k) (cp := 4096 - k) ns nb sa1 sd1 hat (by rw [byteVals_length, List.length_drop]; omega) d4 d5 d6 sl1 (by omega)
  rw [hpl] at hcall
  refine callP_of hcall ?_
  rintro v h3 ⟨rfl, k3, hb3, sv3, hs3, sd3⟩
  have rd3 := (k3.2 g.R lR1 (by simp [d1, d2])).trans rd1
  obtain ⟨m, hm⟩ : ∃ m, min src.length (4096 - k) = m := ⟨_, rfl⟩
  have hkm : ((k + m : Nat) : Int) = (k : Int) + (m : Int) := by omega
  have hkl : (buf1.take k).length = k := by rw [List.length_take]; omega
  have hml : (src.take (4096 - k)).length = m := by rw [List.length_take, Nat.min_comm]; exact hm
  have hb3' : h3.at g.bb = some (.cells (byteVals (buf1.take k ++ (src.take (4096 - k) ++ (buf1.drop k).drop src.length))) 5 0 0) := by
   rw [hb3]
   simp only [byteVals_app, byteVals_drop, List.append_nil]
  have hlen : (buf1.take k ++ (src.take (4096 - k) ++ (buf1.drop k).drop src.length)).length = 4096 := by
   simp only [List.length_append, hkl, hml, List.length_drop]
   omega
  have htk : (buf1.take k ++ (src.take (4096 - k) ++ (buf1.drop k).drop src.length)).take (k + m) = (buf.drop r).take k ++ src.take (4096 - k) := by
   rw [← List.append_assoc, List.take_left' (by rw [List.length_append, hkl, hml]), e1]
  have kk := k1.trans (k3.more (Y := g.X) (by simp))
  have lR3 := Nat.lt_of_lt_of_le lR1 k3.1
  have lB3 := Nat.lt_of_lt_of_le lB1 k3.1
  have lS3 := Nat.lt_of_lt_of_le lS1 k3.1
  have lD3 := Nat.lt_of_lt_of_le lD1 k3.1
  rw [hm]
  cases hemp : src.isEmpty with
  | true =>
   have hm0 : m = 0 := by
    have : src = [] := by simpa using hemp
    rw [this] at hm
    simpa using hm.symm
   have hdm2 : decide ((m : Int) < 0) = false := decide_eq_false (by omega)
   (repeat(first|(simp(disch:=first|omega|(simp only[zN];omega))only[push_cast,go_sem_proc,↓ite_only,M_block,t0, rd3, hm, errOf_t, hdm2])|(with_reducible refine⟨by omega,?_⟩)))
   (with_reducible refine hE _ _ _ _ (nomatch ·) ?_)
   (repeat simp only[push_cast,go_sem_proc,↓ite_only,M_block])
   ((with_reducible refine hX _ _ _ (fun j hj => nomatch hj) ?_); simp only[push_cast,go_sem_proc,↓ite_only,M_block,Tryz.results192])
   rw [hm, hemp]
   exact ⟨(by repeat (first | exact Keep.refl _ _ | assumption | refine Keep.put ?_ (by first | (left; simp; done) | (right; omega)) _ | refine Keep.new ?_ _)), _, sv3, ⟨by rw [hkm, Bool.or_true]; exact (by first|assumption|(simp(disch:=first|assumption|omega)only[at_put_eq,at_put_ne,at_new_eq,at_new_ne,zN,ne_eq,not_false_eq_true];first|done|assumption|rfl)), (by first|assumption|(simp(disch:=first|assumption|omega)only[at_put_eq,at_put_ne,at_new_eq,at_new_ne,zN,ne_eq,not_false_eq_true];first|done|assumption|rfl)), hlen, by omega, by omega, (by first|assumption|(simp(disch:=first|assumption|omega)only[at_put_eq,at_put_ne,at_new_eq,at_new_ne,zN,ne_eq,not_false_eq_true];first|done|assumption|rfl)), sd3.keep (by first|assumption|(simp(disch:=first|assumption|omega)only[at_put_eq,at_put_ne,at_new_eq,at_new_ne,zN,ne_eq,not_false_eq_true];first|done|assumption|rfl)), by rw [List.length_drop]; omega, lR3, lB3, lS3, lD3⟩, htk⟩
  | false =>
   have hm0 : 0 < m := by
    have : src ≠ [] := by intro e; rw [e] at hemp; simp at hemp
    have := List.length_pos_iff.2 this
    omega
   have hdm : decide ((0 : Int) < (m : Int)) = true := decide_eq_true (by omega)
   have hdm2 : decide ((m : Int) < 0) = false := decide_eq_false (by omega)
   (repeat(first|(simp(disch:=first|omega|(simp only[zN];omega))only[push_cast,go_sem_proc,↓ite_only,M_block,t0, rd3, hm, errOf_f, hdm, hdm2])|(with_reducible refine⟨by omega,?_⟩)))
   (with_reducible refine hE _ _ _ _ (nomatch ·) ?_)
   (repeat simp only[push_cast,go_sem_proc,↓ite_only,M_block])
   ((with_reducible refine hX _ _ _ (fun j hj => nomatch hj) ?_); simp only[push_cast,go_sem_proc,↓ite_only,M_block,Tryz.results192])
   rw [hm, hemp]
   exact ⟨(by repeat (first | exact Keep.refl _ _ | assumption | refine Keep.put ?_ (by first | (left; simp; done) | (right; omega)) _ | refine Keep.new ?_ _)), _, sv3, ⟨by rw [hkm, Bool.or_false]; exact (by first|assumption|(simp(disch:=first|assumption|omega)only[at_put_eq,at_put_ne,at_new_eq,at_new_ne,zN,ne_eq,not_false_eq_true];first|done|assumption|rfl)), (by first|assumption|(simp(disch:=first|assumption|omega)only[at_put_eq,at_put_ne,at_new_eq,at_new_ne,zN,ne_eq,not_false_eq_true];first|done|assumption|rfl)), hlen, by omega, by omega, (by first|assumption|(simp(disch:=first|assumption|omega)only[at_put_eq,at_put_ne,at_new_eq,at_new_ne,zN,ne_eq,not_false_eq_true];first|done|assumption|rfl)), sd3.keep (by first|assumption|(simp(disch:=first|assumption|omega)only[at_put_eq,at_put_ne,at_new_eq,at_new_ne,zN,ne_eq,not_false_eq_true];first|done|assumption|rfl)), by rw [List.length_drop]; omega, lR3, lB3, lS3, lD3⟩, htk⟩
def BR (h : Heap) (g : Bio) (rest : Str) : Prop := ∃ buf r w lb lrs sv src, BRl h g buf r w false lb lrs sv src ∧ rest = restL buf r w src
end Go.Proofs.YtbjaapiliegegaaGreatDoor.Sy
end
