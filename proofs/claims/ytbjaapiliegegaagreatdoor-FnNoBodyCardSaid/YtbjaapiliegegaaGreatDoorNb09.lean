/- Of the proof of FnNoBody: SbC SbD SbE SbF Lib2. -/
import Derived.Test.YtbjaapiliegegaaGreatDoorNb08
import Derived.Test.YtbjaapiliegegaaGreatDoorNb16
import Derived.Shelf.Bytes.SlCase
import Derived.Test.YtbjaapiliegegaaGreatDoorProg
set_option linter.unusedVariables false
set_option linter.unusedSimpArgs false
section
namespace Go.Proofs.YtbjaapiliegegaaGreatDoor.Sy
open Go
set_option maxRecDepth 100000
variable {w0 : World} {h : Heap}
def vhfN (n : Nat) : Bool :=
 !decide ((((BitVec.ofInt IntKind.u64.bits ((BitVec.ofInt IntKind.u64.bits (1 * 2 ^ min n IntKind.u64.bits % 18446744073709551616) &&& BitVec.ofInt IntKind.u64.bits 288068722172624896).toNat % 18446744073709551616) |||
  BitVec.ofInt IntKind.u64.bits ((BitVec.ofInt IntKind.u64.bits (1 * 2 ^ min (((n : Int) - 64) % 256).toNat IntKind.u64.bits % 18446744073709551616) &&& BitVec.ofInt IntKind.u64.bits 6341068274398134270).toNat % 18446744073709551616)).toNat : Int) % 18446744073709551616) = 0)
theorem vhf_tok (c : UInt8) : vhfN c.toNat = tokB c := all256 (p := fun n => vhfN n = tokN n) (by decide +kernel) c
theorem vhfb_ok (c0 : UInt8) :
  ACall Tryz.prog w0 97 [B c0] h (fun v h' => v = .bool (tokB c0) ∧ Ext h h') := by
 refine ACall.known fun hKn => ?_
 obtain ⟨hN, hB⟩ := hKn
 refine ACall.run noCount mixed Tryz.func97 rfl (by kernel_rfl) (Nat.le_of_ble_eq_true rfl) fun X hX => ?_
 (repeat(first|(simp only[push_cast,go_sem_proc,↓ite_only,M_block])|(with_reducible refine⟨by omega,?_⟩)))
 ((with_reducible refine hX _ _ _ (fun j hj => nomatch hj) ?_); simp only[push_cast,go_sem_proc,↓ite_only,M_block,Tryz.results97])
 exact ⟨congrArg Value.bool (vhf_tok c0), .refl _⟩
def ExtBut (b : Nat) (h h' : Heap) : Prop := h.n ≤ h'.n ∧ ∀ c, c < h.n → c ≠ b → h'.at c = h.at c
theorem mid_get (pre post : List Value) (m : List UInt8) (k : Nat) (hk : k < m.length) : (pre ++ (byteVals m ++ post))[pre.length + k]? = some (B (nth m k)) := by
 rw [List.getElem?_append_right (by omega), Nat.add_sub_cancel_left]
 exact byteVals_app_get m post k hk
theorem mid_put (pre post : List Value) (l : List UInt8) (u : Bool) (k : Nat) (c : UInt8) (hk : k < l.length) (hc : (canonL u l)[k]? = some c) :
  splice (pre ++ (byteVals ((canonL u l).take k ++ l.drop k) ++ post)) (pre.length + k) [.int .u8 (c.toNat : Int)] = pre ++ (byteVals ((canonL u l).take (k + 1) ++ l.drop (k + 1)) ++ post) := by
 have h1 := canon_put l u k post c hk hc
 rw [← h1, set_splice _ _ _ (by simp [byteVals_length, canon_len]; omega), set_splice _ _ _ (by simp [byteVals_length, canon_len]; omega), List.set_append_right _ _ (by omega), Nat.add_sub_cancel_left]
theorem loadN_mid {b n : Nat} {pre post : List Value} {m : List UInt8} {e : TypeId} {lo hi : Nat} (hat : h.at b = some (.cells (pre ++ (byteVals m ++ post)) e lo hi)) (hn : n = m.length) : loadN h b pre.length n = some (byteVals m) := by
 subst hn
 rw [loadN_eq, hat, loadC_some, only_pos (by simp [byteVals_length]), List.drop_left, List.take_left' (by rw [byteVals_length])]
def keyForm (l : List UInt8) : List UInt8 × Bool :=
 match l with
 | [] => ([], false)
 | c :: r => match (c :: r).all (fun c => tokB c || c == 32), (c :: r).contains 32 with
  | false, _ => (c :: r, false)
  | true, true => (c :: r, true)
  | true, false => (canonL true (c :: r), true)
theorem keyForm_bad {l : List UInt8} (h0 : 0 < l.length) (h : l.all (fun c => tokB c || c == 32) = false) : keyForm l = (l, false) := by
 cases l with
 | nil => simp at h0
 | cons c r => simp only [keyForm, h]
theorem keyForm_space {l : List UInt8} (h0 : 0 < l.length) (h : l.all (fun c => tokB c || c == 32) = true) (h2 : l.contains 32 = true) : keyForm l = (l, true) := by
 cases l with
 | nil => simp at h0
 | cons c r => simp only [keyForm, h, h2]
theorem keyForm_good {l : List UInt8} (h0 : 0 < l.length) (h : l.all (fun c => tokB c || c == 32) = true) (h2 : l.contains 32 = false) : keyForm l = (canonL true l, true) := by
 cases l with
 | nil => simp at h0
 | cons c r => simp only [keyForm, h, h2]
theorem keyForm_tok {l : List UInt8} (h : tokL l = true) : keyForm l = (canonL true l, true) := by
 unfold tokL at h
 rw [Bool.and_eq_true] at h
 refine keyForm_good ?_ ?_ ?_
 ·cases l with
  | nil => simp at h
  | cons c r => simp
 ·rw [List.all_eq_true] at h ⊢
  intro c hc
  rw [h.1 c hc]
  rfl
 ·rw [← Bool.not_eq_true, List.contains_iff_mem]
  intro hm
  have := List.all_eq_true.1 h.1 _ hm
  revert this
  decide
theorem flag_next' (l : List UInt8) (u : Bool) (k : Nat) (c : UInt8) (hk : k < l.length) (hc : (canonL u l)[k]? = some c) : decide ((c.toNat : Int) = 45) = flagFrom u l (k + 1) := by
 rw [canon_at l u k hk, Option.some_inj] at hc
 obtain ⟨_, _, _, h4, h5⟩ := byte_law (l.getD k 0)
 have e : (c == 45) = flagFrom u l (k + 1) := by
  rw [← hc]
  show _ = (l.getD k 0 == 45)
  split <;> assumption
 rw [← e, Bool.eq_iff_iff, decide_eq_true_eq, beq_iff_eq]
 exact ⟨fun h => byte_eq (b := 45) h, fun h => by rw [h]; rfl⟩
theorem ExtBut.put {b : Nat} {h h' : Heap} (e : ExtBut b h h') (o : AO) : ExtBut b h (h'.put b o) := ⟨e.1, fun c hc hb => by rw [at_put_ne _ _ hb]; exact e.2 c hc hb⟩
set_option maxHeartbeats 2000000 in
theorem cmk_ok (l : List UInt8) (pre post : List Value) (b cp lo hi : Nat) (hb : w0.heap.size ≤ b) (hl : l.length < 1099511627776)
  (hat : h.at b = some (.cells (pre ++ (byteVals l ++ post)) 5 lo hi)) (hfr : hi ≤ pre.length ∨ pre.length + l.length ≤ lo) :
  ACall Tryz.prog w0 98 [.slice (some ⟨b, pre.length, none⟩) l.length cp] h (fun v h' => v = .tuple #[S (keyForm l).1, .bool (keyForm l).2] ∧
   ExtBut b h h' ∧ ∃ m, m.length = l.length ∧ ((keyForm l).2 = true → m = (keyForm l).1) ∧ h'.at b = some (.cells (pre ++ (byteVals m ++ post)) 5 lo hi)) := by
 refine ACall.known fun hKn => ?_
 obtain ⟨hN, hB⟩ := hKn
 refine ACall.run noCount mixed Tryz.func98 rfl (by kernel_rfl) (Nat.le_of_ble_eq_true rfl) fun X hX => ?_
 have hbn := hB _ _ hat
 (repeat simp only[push_cast,go_sem_proc,↓ite_only])
 (with_reducible(first|refine condM_same ?_ ?_|refine condM_nsame ?_ ?_|refine oneM_same ?_ ?_|refine oneM_nsame ?_ ?_|refine oneP_same ?_ ?_|refine oneP_nsame ?_ ?_|refine condM_dec_ ?_ ?_|refine condM_not_ ?_ ?_|refine oneM_dec_ ?_ ?_|refine oneM_not_ ?_ ?_|refine oneP_dec_ ?_ ?_|refine oneP_not_ ?_ ?_|refine condM_bool ?_ ?_|refine oneM_bool ?_ ?_|refine oneP_bool ?_ ?_)<;>intro c)
 ·have h0 : l = [] := List.eq_nil_of_length_eq_zero (by omega)
  subst h0
  (repeat simp only[push_cast,go_sem_proc,↓ite_only,M_block])
  ((with_reducible refine hX _ _ _ (fun j hj => nomatch hj) ?_); simp only[push_cast,go_sem_proc,↓ite_only,M_block,Tryz.results98])
  refine ⟨rfl, ⟨Nat.le_refl _, fun _ _ _ => rfl⟩, [], rfl, fun e => (nomatch e), hat⟩
 have hl0 : 0 < l.length := by omega
 (repeat simp only[push_cast,go_sem_proc,↓ite_only,M_block])
 refine M_loop (fun tm h1 n => ∃ k : Nat, k ≤ l.length ∧ n = l.length - k ∧ Ext h h1 ∧ tget tm 15 = I k ∧ tget tm 14 = I l.length ∧ tget tm 13 = .slice (some ⟨b, pre.length, none⟩) l.length cp ∧ tget tm 0 = .slice (some ⟨b, pre.length, none⟩) l.length cp ∧
   tget tm 4 = .bool ((l.take k).contains 32) ∧ (l.take k).all (fun c => tokB c || c == 32) = true) l.length
  ⟨0, by omega, by omega, .refl _, (by simp only[zT,Nat.reduceBEq];rfl), (by simp only[zT,Nat.reduceBEq]), (by simp only[zT,Nat.reduceBEq]), (by simp only[zT,Nat.reduceBEq]), (by simp only[zT,Nat.reduceBEq];rfl), rfl⟩ ?_
 rintro tm1 h1 n R ⟨k, hk, rfl, hx, t15, t14, t13, t0, t4, hall⟩ hR hE
 have hat1 := (hx.2 b hbn).trans hat
 (repeat simp only[push_cast,go_sem_proc,↓ite_only,M_block,t15, t14, t13, t0, hat1, mid_get])
 repeat' ((with_reducible(first|refine condM_same ?_ ?_|refine condM_nsame ?_ ?_|refine oneM_same ?_ ?_|refine oneM_nsame ?_ ?_|refine oneP_same ?_ ?_|refine oneP_nsame ?_ ?_|refine condM_dec_ ?_ ?_|refine condM_not_ ?_ ?_|refine oneM_dec_ ?_ ?_|refine oneM_not_ ?_ ?_|refine oneP_dec_ ?_ ?_|refine oneP_not_ ?_ ?_|refine condM_bool ?_ ?_|refine oneM_bool ?_ ?_|refine oneP_bool ?_ ?_)<;>intro c) <;> first | (exfalso; first | contradiction | omega) | (try (repeat(first|(simp(disch:=omega)only[push_cast,go_sem_proc,↓ite_only,M_block,t15, t14, t13, t0, hat1, mid_get, c])|(with_reducible refine⟨by omega,?_⟩)))))
 ·have hlt : k < l.length := by omega
  refine callM_of (vhfb_ok _) ?_
  rintro v h2 ⟨rfl, hx2⟩
  have hx3 := hx.trans hx2
  have hat2 := (hx3.2 b hbn).trans hat
  cases hb' : tokB (nth l k) with
  | true =>
   (repeat simp(disch:=omega)only[push_cast,go_sem_proc,↓ite_only,M_block,t15])
   refine hR _ _ (l.length - (k + 1)) (by omega) ⟨k + 1, by omega, rfl, hx3, (by simp only[zT,Nat.reduceBEq];rfl), ‹_›, ‹_›, ‹_›, ?_, ?_⟩
   ·simp only [tget_cons, Nat.reduceBEq, tsel_true, tsel_false, t4]
    refine congrArg Value.bool ?_
    rw [take_snoc l k hlt, List.contains_append]
    have hne : nth l k ≠ 32 := fun e => by rw [e] at hb'; revert hb'; decide
    simp [Ne.symm hne]
   ·rw [take_snoc l k hlt, List.all_append, hall]
    simp [hb']
  | false =>
   have hld := loadN_mid hat2 rfl
   (repeat simp only[push_cast,go_sem_proc,↓ite_only,M_block,t15, t14, t13, t0, hld, bytesOf_vals])
   repeat' ((with_reducible(first|refine condM_same ?_ ?_|refine condM_nsame ?_ ?_|refine oneM_same ?_ ?_|refine oneM_nsame ?_ ?_|refine oneP_same ?_ ?_|refine oneP_nsame ?_ ?_|refine condM_dec_ ?_ ?_|refine condM_not_ ?_ ?_|refine oneM_dec_ ?_ ?_|refine oneM_not_ ?_ ?_|refine oneP_dec_ ?_ ?_|refine oneP_not_ ?_ ?_|refine condM_bool ?_ ?_|refine oneM_bool ?_ ?_|refine oneP_bool ?_ ?_)<;>intro c) <;> first | (exfalso; first | contradiction | omega) | (try (repeat simp(disch:=omega)only[push_cast,go_sem_proc,↓ite_only,M_block,t15, t14, t13, t0, hld, bytesOf_vals, c])))
   ·refine hR _ _ (l.length - (k + 1)) (by omega) ⟨k + 1, by omega, rfl, hx3, (by simp only[zT,Nat.reduceBEq];rfl), ‹_›, ‹_›, ‹_›, ?_, ?_⟩
    ·simp only [tget_cons, Nat.reduceBEq, tsel_true, tsel_false]
     refine congrArg Value.bool ?_
     rw [take_snoc l k hlt, byte_eq (b := 32) c]
     simp
    ·rw [take_snoc l k hlt, List.all_append, hall, byte_eq (b := 32) c]
     rfl
   ·(with_reducible refine hE _ _ _ _ (nomatch ·) ?_)
    (repeat simp only[push_cast,go_sem_proc,↓ite_only,M_block])
    ((with_reducible refine hX _ _ _ (fun j hj => nomatch hj) ?_); simp only[push_cast,go_sem_proc,↓ite_only,M_block,Tryz.results98])
    have hbad : l.all (fun c => tokB c || c == 32) = false := by
     rw [List.all_eq_false]
     refine ⟨nth l k, List.mem_of_getElem? (nth_get hlt), ?_⟩
     have := byte_ne (b := 32) c
     simp [hb', this]
    rw [keyForm_bad hl0 hbad]
    exact ⟨rfl, ⟨hx3.1, fun c hc _ => hx3.2 c hc⟩, l, rfl, fun e => (nomatch e), hat2⟩
 ·have hke : k = l.length := by omega
  subst hke
  rw [List.take_length] at hall t4
  (with_reducible refine hE _ _ _ _ (nomatch ·) ?_)
  cases hsp : l.contains 32 with
  | true =>
   rw [hsp] at t4
   have hld := loadN_mid hat1 rfl
   (repeat simp only[push_cast,go_sem_proc,↓ite_only,M_block,t4, t0, hld, bytesOf_vals])
   ((with_reducible refine hX _ _ _ (fun j hj => nomatch hj) ?_); simp only[push_cast,go_sem_proc,↓ite_only,M_block,Tryz.results98])
   rw [keyForm_space hl0 hall hsp]
   exact ⟨rfl, ⟨hx.1, fun c hc _ => hx.2 c hc⟩, l, rfl, fun _ => rfl, hat1⟩
  | false =>
   rw [hsp] at t4
   rw [keyForm_good hl0 hall hsp] at hX
   (repeat simp only[push_cast,go_sem_proc,↓ite_only,M_block,t4, t0])
   refine M_loop (fun tm h1 n => ∃ k : Nat, k ≤ l.length ∧ n = l.length - k ∧ ExtBut b h h1 ∧ h1.at b = some (.cells (pre ++ (byteVals ((canonL true l).take k ++ l.drop k) ++ post)) 5 lo hi) ∧ tget tm 31 = I k ∧ tget tm 30 = I l.length ∧
     tget tm 29 = .slice (some ⟨b, pre.length, none⟩) l.length cp ∧ tget tm 0 = .slice (some ⟨b, pre.length, none⟩) l.length cp ∧ tget tm 7 = .bool (flagFrom true l k)) l.length
    ⟨0, by omega, by omega, ⟨hx.1, fun c hc _ => hx.2 c hc⟩, hat1, (by simp only[zT,Nat.reduceBEq];rfl), (by simp only[zT,Nat.reduceBEq]), (by simp only[zT,Nat.reduceBEq]), ‹_›, (by simp only[zT,Nat.reduceBEq];rfl)⟩ ?_
   rintro tm2 h3 n R2 ⟨k, hk, rfl, hx3, hat3, t31, t30, t29, t0, t7⟩ hR2 hE
   have hml := mid_len (canonL true l) l k (canon_len l true)
   have hnm := nth_mid (canonL true l) l k (canon_len l true)
   cases hf : flagFrom true l k <;> rw [hf] at t7
   all_goals (repeat simp only[push_cast,go_sem_proc,↓ite_only,M_block,t31, t30, t29, t0, t7, hat3, mid_get, hml, hnm, u8_sub32, u8_add32])
   repeat' ((with_reducible(first|refine condM_same ?_ ?_|refine condM_nsame ?_ ?_|refine oneM_same ?_ ?_|refine oneM_nsame ?_ ?_|refine oneP_same ?_ ?_|refine oneP_nsame ?_ ?_|refine condM_dec_ ?_ ?_|refine condM_not_ ?_ ?_|refine oneM_dec_ ?_ ?_|refine oneM_not_ ?_ ?_|refine oneP_dec_ ?_ ?_|refine oneP_not_ ?_ ?_|refine condM_bool ?_ ?_|refine oneM_bool ?_ ?_|refine oneP_bool ?_ ?_)<;>intro c) <;> first | (exfalso; first | contradiction | omega) | (try (repeat(first|(simp(disch:=omega)only[push_cast,go_sem_proc,↓ite_only,M_block,t31, t30, t29, t0, t7, hat3, mid_get, hml, hnm, u8_sub32, u8_add32, c])|(with_reducible refine And.intro ?_ ?_;focus(first|omega|(simp only[zL,t31, t30, t29, t0, t7, hat3, mid_get, hml, hnm, u8_sub32, u8_add32, c];omega)))))))
   ·have hlt : k < l.length := by omega
    have hcc := canon_lo l k true hlt hf (by omega)
    refine hR2 _ _ (l.length - (k + 1)) (by omega) ⟨k + 1, by omega, rfl, hx3.put _, by rw [at_put_eq, mid_put _ _ _ _ _ _ hlt hcc], (by simp only[zT,Nat.reduceBEq];rfl), ‹_›, ‹_›, ‹_›, ?_⟩
    simp only [tget_cons, Nat.reduceBEq, tsel_true, tsel_false]
    exact congrArg Value.bool (flag_next' l true k _ hlt hcc)
   ·have hlt : k < l.length := by omega
    have hcc := canon_lo' l k true hlt hf (by omega)
    refine hR2 _ _ (l.length - (k + 1)) (by omega) ⟨k + 1, by omega, rfl, hx3.put _, by rw [at_put_eq, mid_put _ _ _ _ _ _ hlt hcc], (by simp only[zT,Nat.reduceBEq];rfl), ‹_›, ‹_›, ‹_›, ?_⟩
    simp only [tget_cons, Nat.reduceBEq, tsel_true, tsel_false]
    exact congrArg Value.bool (flag_next' l true k _ hlt hcc)
   ·have hlt : k < l.length := by omega
    have hcc := canon_lo' l k true hlt hf (by omega)
    refine hR2 _ _ (l.length - (k + 1)) (by omega) ⟨k + 1, by omega, rfl, hx3.put _, by rw [at_put_eq, mid_put _ _ _ _ _ _ hlt hcc], (by simp only[zT,Nat.reduceBEq];rfl), ‹_›, ‹_›, ‹_›, ?_⟩
    simp only [tget_cons, Nat.reduceBEq, tsel_true, tsel_false]
    exact congrArg Value.bool (flag_next' l true k _ hlt hcc)
   ·have hke : k = l.length := by omega
    subst hke
    rw [List.take_of_length_le (Nat.le_of_eq (canon_len l true)), List.drop_length, List.append_nil] at hat3
    have hld := loadN_mid hat3 (canon_len l true).symm
    (with_reducible refine hE _ _ _ _ (nomatch ·) ?_)
    (repeat simp only[push_cast,go_sem_proc,↓ite_only,M_block,t0, hld, bytesOf_vals])
    ((with_reducible refine hX _ _ _ (fun j hj => nomatch hj) ?_); simp only[push_cast,go_sem_proc,↓ite_only,M_block,Tryz.results98])
    exact ⟨hx3, canonL true l, canon_len l true, rfl, hat3⟩
   ·have hlt : k < l.length := by omega
    have hcc := canon_up l k true hlt hf (by omega)
    refine hR2 _ _ (l.length - (k + 1)) (by omega) ⟨k + 1, by omega, rfl, hx3.put _, by rw [at_put_eq, mid_put _ _ _ _ _ _ hlt hcc], (by simp only[zT,Nat.reduceBEq];rfl), ‹_›, ‹_›, ‹_›, ?_⟩
    simp only [tget_cons, Nat.reduceBEq, tsel_true, tsel_false]
    exact congrArg Value.bool (flag_next' l true k _ hlt hcc)
   ·have hlt : k < l.length := by omega
    have hcc := canon_up' l k true hlt hf (by omega)
    refine hR2 _ _ (l.length - (k + 1)) (by omega) ⟨k + 1, by omega, rfl, hx3.put _, by rw [at_put_eq, mid_put _ _ _ _ _ _ hlt hcc], (by simp only[zT,Nat.reduceBEq];rfl), ‹_›, ‹_›, ‹_›, ?_⟩
    simp only [tget_cons, Nat.reduceBEq, tsel_true, tsel_false]
    exact congrArg Value.bool (flag_next' l true k _ hlt hcc)
   ·have hlt : k < l.length := by omega
    have hcc := canon_up' l k true hlt hf (by omega)
    refine hR2 _ _ (l.length - (k + 1)) (by omega) ⟨k + 1, by omega, rfl, hx3.put _, by rw [at_put_eq, mid_put _ _ _ _ _ _ hlt hcc], (by simp only[zT,Nat.reduceBEq];rfl), ‹_›, ‹_›, ‹_›, ?_⟩
    simp only [tget_cons, Nat.reduceBEq, tsel_true, tsel_false]
    exact congrArg Value.bool (flag_next' l true k _ hlt hcc)
   ·have hke : k = l.length := by omega
    subst hke
    rw [List.take_of_length_le (Nat.le_of_eq (canon_len l true)), List.drop_length, List.append_nil] at hat3
    have hld := loadN_mid hat3 (canon_len l true).symm
    (with_reducible refine hE _ _ _ _ (nomatch ·) ?_)
    (repeat simp only[push_cast,go_sem_proc,↓ite_only,M_block,t0, hld, bytesOf_vals])
    ((with_reducible refine hX _ _ _ (fun j hj => nomatch hj) ?_); simp only[push_cast,go_sem_proc,↓ite_only,M_block,Tryz.results98])
    exact ⟨hx3, canonL true l, canon_len l true, rfl, hat3⟩
def canonKey (l : List UInt8) : List UInt8 :=
 match l.all tokB with
 | true => canonL true l
 | false => l
theorem keyForm_fst {l : List UInt8} (h0 : 0 < l.length) : (keyForm l).1 = canonKey l := by
 cases ht : l.all tokB with
 | true =>
  rw [keyForm_tok (by unfold tokL; rw [ht]; cases l with | nil => simp at h0 | cons c r => rfl)]
  simp only [canonKey, ht]
 | false =>
  simp only [canonKey, ht]
  cases h1 : l.all (fun c => tokB c || c == 32) with
  | false => rw [keyForm_bad h0 h1]
  | true =>
   rw [keyForm_space h0 h1 ?_]
   rw [List.all_eq_false] at ht
   obtain ⟨c, hc, hn⟩ := ht
   have h2 := List.all_eq_true.1 h1 c hc
   rw [Bool.or_eq_true] at h2
   rcases h2 with h2 | h2
   ·exact absurd h2 hn
   ·rw [List.contains_iff_mem, ← eq_of_beq h2]
    exact hc
theorem ExtBut.ext {h h' : Heap} {o : AO} (e : ExtBut h.n (h.new o) h') : Ext h h' :=
 ⟨Nat.le_of_succ_le e.1, fun c hc => (e.2 c (Nat.lt_succ_of_lt hc) (Nat.ne_of_lt hc)).trans (at_new_ne _ _ (Nat.ne_of_lt hc))⟩
theorem canon_hold (l : List UInt8) (u : Bool) (k : Nat) (h : k < l.length) (hp : (canonL u l).take k = l.take k) (hc : (canonL u l)[k]? = some (nth l k)) : (canonL u l).take (k + 1) = l.take (k + 1) := by
 rw [List.take_add_one, List.take_add_one, hp, hc, nth_get h]
set_option maxHeartbeats 2000000 in
theorem CMHK_ok (l : List UInt8) (hl : l.length < 1099511627776) :
  ACall Tryz.prog w0 66 [S l] h (fun v h' => v = S (canonKey l) ∧ Ext h h') := by
 refine ACall.known fun hKn => ?_
 obtain ⟨hN, hB⟩ := hKn
 refine ACall.run noCount mixed Tryz.func66 rfl (by kernel_rfl) (Nat.le_of_ble_eq_true rfl) fun X hX => ?_
 (repeat simp only[push_cast,go_sem_proc,↓ite_only,M_block])
 refine M_loop (fun tm h1 n => ∃ k : Nat, k ≤ l.length ∧ n = l.length - k ∧ Ext h h1 ∧ tget tm 4 = I k ∧ tget tm 0 = S l ∧ tget tm 3 = .bool (flagFrom true l k) ∧ (l.take k).all tokB = true ∧ (canonL true l).take k = l.take k) l.length
  ⟨0, by omega, by omega, .refl _, (by simp only[zT,Nat.reduceBEq];rfl), (by simp only[zT,Nat.reduceBEq]), (by simp only[zT,Nat.reduceBEq];rfl), rfl, rfl⟩ ?_
 rintro tm1 h1 n R ⟨k, hk, rfl, hx, t4, t0, t3, hall, hsame⟩ hR hE
 (repeat simp only[push_cast,go_sem_proc,↓ite_only,M_block,t4, t3, t0])
 repeat' ((with_reducible(first|refine condM_same ?_ ?_|refine condM_nsame ?_ ?_|refine oneM_same ?_ ?_|refine oneM_nsame ?_ ?_|refine oneP_same ?_ ?_|refine oneP_nsame ?_ ?_|refine condM_dec_ ?_ ?_|refine condM_not_ ?_ ?_|refine oneM_dec_ ?_ ?_|refine oneM_not_ ?_ ?_|refine oneP_dec_ ?_ ?_|refine oneP_not_ ?_ ?_|refine condM_bool ?_ ?_|refine oneM_bool ?_ ?_|refine oneP_bool ?_ ?_)<;>intro c) <;> first | (exfalso; first | contradiction | omega) | (try (repeat(first|(simp only[push_cast,go_sem_proc,↓ite_only,M_block,t4, t3, t0, c])|(with_reducible refine⟨by omega,?_⟩)))))
 ·have hlt : k < l.length := by omega
  refine callM_of (vhfb_ok _) ?_
  rintro v h2 ⟨rfl, hx2⟩
  have hx3 := hx.trans hx2
  have hx1 := hx3.1
  cases hb' : tokB (nth l k) with
  | false =>
   have hbad : l.all tokB = false := by
    rw [List.all_eq_false]
    exact ⟨nth l k, List.mem_of_getElem? (nth_get hlt), by simp [hb']⟩
   (repeat simp only[push_cast,go_sem_proc,↓ite_only,M_block,t0])
   (with_reducible refine hE _ _ _ _ (nomatch ·) ?_)
   (repeat simp only[push_cast,go_sem_proc,↓ite_only,M_block,t0])
   ((with_reducible refine hX _ _ _ (fun j hj => nomatch hj) ?_); simp only[push_cast,go_sem_proc,↓ite_only,M_block,Tryz.results66])
   simp only [canonKey, hbad]
   exact ⟨trivial, hx3⟩
  | true =>
   cases hf : flagFrom true l k <;> rw [hf] at t3
   all_goals (repeat simp only[push_cast,go_sem_proc,↓ite_only,M_block,t4, t3, t0])
   repeat' ((with_reducible(first|refine condM_same ?_ ?_|refine condM_nsame ?_ ?_|refine oneM_same ?_ ?_|refine oneM_nsame ?_ ?_|refine oneP_same ?_ ?_|refine oneP_nsame ?_ ?_|refine condM_dec_ ?_ ?_|refine condM_not_ ?_ ?_|refine oneM_dec_ ?_ ?_|refine oneM_not_ ?_ ?_|refine oneP_dec_ ?_ ?_|refine oneP_not_ ?_ ?_|refine condM_bool ?_ ?_|refine oneM_bool ?_ ?_|refine oneP_bool ?_ ?_)<;>intro c) <;> first | (exfalso; first | contradiction | omega) | (try (repeat simp(disch:=omega)only[push_cast,go_sem_proc,↓ite_only,M_block,t4, t3, t0, c])))
   ·intro c1
    refine ⟨hl, ?_⟩
    have hge := room_ge l.length c1
    generalize room l.length c1 = cap at hge
    refine callM_of (cmk_ok l [] (List.replicate (cap - l.length) (.int .u8 0)) h2.n cap cap (cap + 1) (by omega) hl (at_new_eq _ _) (Or.inr (by simp; exact hge))) ?_
    rintro v h4 ⟨rfl, hb4, _⟩
    have hx4 := hx3.trans hb4.ext
    have hfst := keyForm_fst (l := l) (by omega)
    (repeat simp only[push_cast,go_sem_proc,↓ite_only,M_block])
    (with_reducible refine hE _ _ _ _ (nomatch ·) ?_)
    (repeat simp only[push_cast,go_sem_proc,↓ite_only,M_block])
    ((with_reducible refine hX _ _ _ (fun j hj => nomatch hj) ?_); simp only[push_cast,go_sem_proc,↓ite_only,M_block,Tryz.results66])
    rw [hfst]
    exact ⟨rfl, hx4⟩
   ·refine hR _ _ (l.length - (k + 1)) (by omega) ⟨k + 1, by omega, rfl, hx3, (by simp only[zT,Nat.reduceBEq];rfl), ‹_›, ?_, ?_, canon_hold l true k hlt hsame (canon_lo' l k true hlt hf (by omega))⟩
    ·simp only [tget_cons, Nat.reduceBEq, tsel_true, tsel_false, flag_next l true]
    ·rw [take_snoc l k hlt, List.all_append, hall]
     simp [hb']
   ·refine hR _ _ (l.length - (k + 1)) (by omega) ⟨k + 1, by omega, rfl, hx3, (by simp only[zT,Nat.reduceBEq];rfl), ‹_›, ?_, ?_, canon_hold l true k hlt hsame (canon_lo' l k true hlt hf (by omega))⟩
    ·simp only [tget_cons, Nat.reduceBEq, tsel_true, tsel_false, flag_next l true]
    ·rw [take_snoc l k hlt, List.all_append, hall]
     simp [hb']
   ·intro c1
    refine ⟨hl, ?_⟩
    have hge := room_ge l.length c1
    generalize room l.length c1 = cap at hge
    refine callM_of (cmk_ok l [] (List.replicate (cap - l.length) (.int .u8 0)) h2.n cap cap (cap + 1) (by omega) hl (at_new_eq _ _) (Or.inr (by simp; exact hge))) ?_
    rintro v h4 ⟨rfl, hb4, _⟩
    have hx4 := hx3.trans hb4.ext
    have hfst := keyForm_fst (l := l) (by omega)
    (repeat simp only[push_cast,go_sem_proc,↓ite_only,M_block])
    (with_reducible refine hE _ _ _ _ (nomatch ·) ?_)
    (repeat simp only[push_cast,go_sem_proc,↓ite_only,M_block])
    ((with_reducible refine hX _ _ _ (fun j hj => nomatch hj) ?_); simp only[push_cast,go_sem_proc,↓ite_only,M_block,Tryz.results66])
    rw [hfst]
    exact ⟨rfl, hx4⟩
   ·refine hR _ _ (l.length - (k + 1)) (by omega) ⟨k + 1, by omega, rfl, hx3, (by simp only[zT,Nat.reduceBEq];rfl), ‹_›, ?_, ?_, canon_hold l true k hlt hsame (canon_up' l k true hlt hf (by omega))⟩
    ·simp only [tget_cons, Nat.reduceBEq, tsel_true, tsel_false, flag_next l true]
    ·rw [take_snoc l k hlt, List.all_append, hall]
     simp [hb']
   ·refine hR _ _ (l.length - (k + 1)) (by omega) ⟨k + 1, by omega, rfl, hx3, (by simp only[zT,Nat.reduceBEq];rfl), ‹_›, ?_, ?_, canon_hold l true k hlt hsame (canon_up' l k true hlt hf (by omega))⟩
    ·simp only [tget_cons, Nat.reduceBEq, tsel_true, tsel_false, flag_next l true]
    ·rw [take_snoc l k hlt, List.all_append, hall]
     simp [hb']
 ·have hke : k = l.length := by omega
  subst hke
  (with_reducible refine hE _ _ _ _ (nomatch ·) ?_)
  (repeat simp only[push_cast,go_sem_proc,↓ite_only,M_block,t0])
  ((with_reducible refine hX _ _ _ (fun j hj => nomatch hj) ?_); simp only[push_cast,go_sem_proc,↓ite_only,M_block,Tryz.results66])
  rw [List.take_length] at hall
  simp only [canonKey, hall]
  rw [← canon_len l true, List.take_length, canon_len, List.take_length] at hsame
  rw [hsame]
  exact ⟨rfl, hx⟩
end Go.Proofs.YtbjaapiliegegaaGreatDoor.Sy
end
section
namespace Go.Proofs.YtbjaapiliegegaaGreatDoor.Sy
open Go
set_option maxRecDepth 100000
variable {w0 : World} {h : Heap}
def aoOf : Option Obj → Option AO
 | some (.cells c e mk) => some (.cells c.toList e mk.1 mk.2)
 | _ => none
theorem aoOf_obj {x : Option Obj} {o : AO} (h : aoOf x = some o) : x = some o.obj := by
 unfold aoOf at h
 split at h
 ·cases h
  simp [AO.obj]
 ·cases h
def seen (h : Heap) (w : World) : Heap := ⟨w.heap.size, fun c => match decide (c < h.n) with
 | true => h.l c
 | false => aoOf w.heap[c]?⟩
theorem seen_old {w : World} {c : Nat} (hc : c < h.n) : (seen h w).at c = h.at c := by
 show (match decide (c < h.n) with | true => h.l c | false => aoOf w.heap[c]?) = _
 rw [decide_eq_true hc]
 rfl
theorem seen_new {w : World} {c : Nat} (hc : h.n ≤ c) : (seen h w).at c = aoOf w.heap[c]? := by
 show (match decide (c < h.n) with | true => h.l c | false => aoOf w.heap[c]?) = _
 rw [decide_eq_false (Nat.not_lt.2 hc)]
theorem seen_ext {w : World} (hs : h.n ≤ w.heap.size) : Ext h (seen h w) := ⟨hs, fun _ hc => seen_old hc⟩
theorem seen_full {w w' : World} (hF : Full w0 h w) (hb : RowKit.Below w.heap.size w w') : Full w0 (seen h w') w' := by
 refine ⟨rfl, fun b o e => ?_, hF.below.trans (hb.mono hF.below.size)⟩
 rcases Nat.lt_or_ge b h.n with hc | hc
 ·rw [seen_old hc] at e
  rw [hb.block b (by rw [hF.size]; exact hc)]
  exact hF.den b o e
 ·rw [seen_new hc] at e
  exact aoOf_obj e
theorem ACall.of_calls {f : FuncId} {args : List Value} {Q : Value → Heap → Prop} (R : World → Value → World → Prop)
  (e : ∀ w, Full w0 h w → Calls Tryz.prog f args.toArray w fun e w' => ∃ v, e = .returned v ∧ RowKit.Below w.heap.size w w' ∧ R w v w')
  (hq : ∀ w v w', Full w0 h w → RowKit.Below w.heap.size w w' → R w v w' → Q v (seen h w')) : ACall Tryz.prog w0 f args h Q :=
 fun w hF => Calls.mono (e w hF) fun _ w' ⟨v, h1, h2, h3⟩ => ⟨v, seen h w', h1, seen_full hF h2, hq w v w' hF h2 h3⟩
structure Ready (w : World) : Prop where
 size : 8 ≤ w.heap.size
 table : Tabled w
theorem works_ok (hR : Ready w0) : ACall Tryz.prog w0 9 [] h (fun v h' => v = .bool true ∧ Ext h h') := by
 refine ACall.of_calls (fun w v w' => v = .bool true) (fun w hF => ?_) ?_
 ·have hs := hR.size
  have hz := hF.below.size
  refine Calls.mono (works_calls (w := w) (by omega) (fun i n e => (hF.below.cell (p := ⟨7, i, none⟩) (show 7 < _ by omega)).trans (hR.table i n e))) ?_
  rintro e w' ⟨rfl, hb⟩
  exact ⟨_, rfl, hb, rfl⟩
 ·rintro w v w' hF hb rfl
  exact ⟨rfl, seen_ext (by rw [← hF.size]; exact hb.size)⟩
end Go.Proofs.YtbjaapiliegegaaGreatDoor.Sy
end
section
namespace Go.Proofs.YtbjaapiliegegaaGreatDoor.Sy
open Go
set_option maxRecDepth 100000
variable {w0 : World} {h : Heap}
end Go.Proofs.YtbjaapiliegegaaGreatDoor.Sy
end
section
namespace Go.Proofs.YtbjaapiliegegaaGreatDoor.Sy
open Go
set_option maxRecDepth 100000
variable {w0 : World} {h : Heap} {N : Nat} {P : Program}
def Row (lo : Nat) (h : Heap) (e z : Nat) (v : Value) (n : Nat) (cs : List Value) : Prop :=
 (v = .slice none 0 0 ∧ n = 0 ∧ cs = []) ∨ ∃ b cp rest, v = .slice (some ⟨b, 0, none⟩) n cp ∧ lo ≤ b ∧ b < h.n ∧ h.at b = some (.cells (cs ++ rest) e 0 0) ∧ cs.length = n * z ∧ cs.length + rest.length = cp * z
def Off (b : Nat) : Value → Prop
 | .slice (some ⟨c, _, _⟩) _ _ => b ≠ c
 | _ => True
theorem Row.nil (lo : Nat) (h : Heap) (e z : Nat) : Row lo h e z (.slice none 0 0) 0 [] := .inl ⟨rfl, rfl, rfl⟩
theorem Row.keep {lo e z n : Nat} {h h' : Heap} {v : Value} {cs : List Value} (r : Row lo h e z v n cs) (hn : h.n ≤ h'.n) (hk : ∀ b, b < h.n → lo ≤ b → ¬Off b v → h'.at b = h.at b) : Row lo h' e z v n cs := by
 rcases r with r | ⟨b, cp, rest, rfl, h1, h2, h3, h4, h5⟩
 ·exact .inl r
 ·exact .inr ⟨b, cp, rest, rfl, h1, Nat.lt_of_lt_of_le h2 hn, (hk b h2 h1 (fun ho => ho rfl)).trans h3, h4, h5⟩
theorem Row.off {lo e z n : Nat} {v : Value} {cs : List Value} (r : Row lo h e z v n cs) {b : Nat} (hb : b < lo) : Off b v := by
 rcases r with ⟨rfl, _⟩ | ⟨c, cp, rest, rfl, h1, _⟩
 ·trivial
 ·exact Nat.ne_of_lt (Nat.lt_of_lt_of_le hb h1)
theorem Row.len {lo e z n : Nat} {v : Value} {cs : List Value} (r : Row lo h e z v n cs) : ∃ a cp, v = .slice a n cp := by
 rcases r with ⟨rfl, rfl, _⟩ | ⟨b, cp, rest, rfl, _⟩
 ·exact ⟨_, _, rfl⟩
 ·exact ⟨_, _, rfl⟩
theorem setN_some {b o lo hi : Nat} {c vs : List Value} {e : TypeId} (hat : h.at b = some (.cells c e lo hi)) (hN : N ≤ b) (hs : ∀ v ∈ vs, single v = true) (hf : hi ≤ o ∨ o + vs.length ≤ lo) (hl : o + vs.length ≤ c.length) :
  setN N h b o vs = some (h.put b (.cells (splice c o vs) e lo hi)) := by
 unfold setN
 rw [hat]
 exact if_pos ⟨hN, hs, hf, hl⟩
theorem splice_end (cs rest vs : List Value) (hl : vs.length ≤ rest.length) : splice (cs ++ rest) cs.length vs = (cs ++ vs) ++ rest.drop vs.length := by
 unfold splice
 rw [List.take_left, List.drop_append]
 simp [List.drop_eq_nil_of_le (Nat.le_add_right cs.length vs.length)]
theorem aappend_row {lo e t : TypeId} {z y n m c : Nat} {zv v x : Value} {cs new : List Value} (ht : P.underlying t = some (.slice e)) (hz : sizeT P e = some z) (hy : bytesT P e = some y) (hzv : zeroT P e = some zv)
  (hzz : z = zv.cells.size) (hy64 : y ≤ 64) (hz0 : 0 < z) (hN : N ≤ lo) (hlo : lo ≤ h.n) (r : Row lo h e z v n cs) (hx : tailOf h (.slice e) z zv x = some (m, new)) (hnew : new.length = m * z) (hs : ∀ v ∈ new, single v = true) (hbig : n + m ≤ 2 ^ 32) :
  ∃ v' h', aappend N P h #[t, t] v x c = some (v', h') ∧ Row lo h' e z v' (n + m) (cs ++ new) ∧ h.n ≤ h'.n ∧ (∀ b, b < h.n → Off b v → h'.at b = h.at b) ∧ (∀ b, ¬Off b v' → ¬Off b v ∨ h.n ≤ b) := by
 have hzl : zv.cells.toList.length = z := by rw [Array.length_toList, hzz]
 obtain ⟨a, cp, rfl⟩ := r.len
 have e0 : aappend N P h #[t, t] (.slice a n cp) x c =
   if n + m ≤ cp then
    match putAt N h a (n * z) new with
    | some h' => some (.slice a (n + m) cp, h')
    | none => none
   else if n + m ≤ 2 ^ 32 then
    match firstN h z n (.slice a n cp) with
    | some old => if old.length = n * z then some (.slice (some ⟨h.n, 0, none⟩) (n + m) (room (n + m) c), h.new (.cells (old ++ new ++ zeros zv.cells.toList (room (n + m) c - (n + m))) e 0 0)) else none
    | none => none
   else none := by
  unfold aappend
  simp only [List.getElem?_toArray, List.getElem?_cons_zero, List.getElem?_cons_succ, ht, hz, hy, hzv, hx]
  rw [if_pos ⟨hzz, hnew, hy64⟩]
  rfl
 rw [e0]
 rcases r with ⟨hv, rfl, rfl⟩ | ⟨b, cp', rest, hv, h1, h2, h3, h4, h5⟩
 ·cases hv
  by_cases hm : 0 + m ≤ 0
  ·obtain rfl : m = 0 := by omega
   obtain rfl : new = [] := List.eq_nil_of_length_eq_zero (by rw [hnew, Nat.zero_mul])
   exact ⟨_, h, by rw [if_pos hm]; rfl, .inl ⟨rfl, rfl, rfl⟩, Nat.le_refl _, fun _ _ _ => rfl, fun b hb => .inl hb⟩
  ·have hf : firstN h z 0 (.slice none 0 0) = some [] := rfl
   rw [if_neg hm, if_pos hbig, hf]
   simp only [List.length_nil, Nat.zero_mul, if_true]
   refine ⟨_, _, rfl, .inr ⟨h.n, _, zeros zv.cells.toList (room (0 + m) c - (0 + m)), rfl, hlo, Nat.lt_succ_self _, ?_, ?_, ?_⟩, Nat.le_succ _, fun b hb _ => at_new_ne _ _ (Nat.ne_of_lt hb), fun b hb => .inr ?_⟩
   ·rw [at_new_eq]
   ·simp [hnew]
   ·rw [zeros_length, hzl, List.nil_append, hnew]
    have := room_ge (0 + m) c
    rw [← Nat.add_mul]
    congr 1
    omega
   ·exact Nat.le_of_eq (Classical.not_not.1 hb).symm
 ·cases hv
  by_cases hm : n + m ≤ cp
  ·have hl : m * z ≤ rest.length := by
    have : (n + m) * z ≤ cp * z := Nat.mul_le_mul_right z hm
    rw [Nat.add_mul] at this
    omega
   rw [if_pos hm]
   have hp : putAt N h (some ⟨b, 0, none⟩) (n * z) new = some (h.put b (.cells ((cs ++ new) ++ rest.drop new.length) e 0 0)) := by
    show setN N h b (0 + n * z) new = _
    rw [Nat.zero_add, ← h4, setN_some h3 (Nat.le_trans hN h1) hs (.inl (Nat.zero_le _)) (by rw [List.length_append]; omega), splice_end _ _ _ (by omega)]
   rw [hp]
   refine ⟨_, _, rfl, .inr ⟨b, cp, rest.drop new.length, rfl, h1, h2, at_put_eq _ _ _, ?_, ?_⟩, Nat.le_refl _, fun d hd ho => at_put_ne _ _ ho, fun d hd => .inl hd⟩
   ·rw [List.length_append, Nat.add_mul]
    omega
   ·rw [List.length_append, List.length_drop]
    omega
  ·have hf : firstN h z n (.slice (some ⟨b, 0, none⟩) n cp) = some cs := by
    show orNil (n * z) (loadN h b 0 (n * z)) = _
    rw [← h4, loadN_eq, h3, loadC_some, only_pos (by rw [List.length_append]; omega), List.drop_zero, List.take_left]
    rfl
   rw [if_neg hm, if_pos hbig, hf]
   simp only [h4, if_true]
   refine ⟨_, _, rfl, .inr ⟨h.n, _, zeros zv.cells.toList (room (n + m) c - (n + m)), rfl, hlo, Nat.lt_succ_self _, ?_, ?_, ?_⟩, Nat.le_succ _, fun b hb _ => at_new_ne _ _ (Nat.ne_of_lt hb), fun b hb => .inr ?_⟩
   ·rw [at_new_eq]
   ·rw [List.length_append, Nat.add_mul]
    omega
   ·rw [zeros_length, hzl, List.length_append, hnew, h4, ← Nat.add_mul, ← Nat.add_mul]
    have := room_ge (n + m) c
    congr 1
    omega
   ·exact Nat.le_of_eq (Classical.not_not.1 hb).symm
end Go.Proofs.YtbjaapiliegegaaGreatDoor.Sy
end
section
namespace Go.Proofs
open Go.Shelf
end Go.Proofs
end
