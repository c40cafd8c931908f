/- Contracts of small functions: the canonical form. -/
import Derived.Test.YtbjaapiliegegaaGreatDoorSbA
import Derived.Test.YtbjaapiliegegaaGreatDoorCanA
namespace Go.Proofs.YtbjaapiliegegaaGreatDoor.Sy
open Go
set_option maxRecDepth 100000
set_option pp.maxSteps 1500
set_option linter.unusedSimpArgs false
set_option linter.unusedVariables false
variable {w0 : World} {h : Heap}

theorem u8_sub32 (c : UInt8) : ((c.toNat : Int) - 32) % 256 = ((c - 32 : UInt8).toNat : Int) := by
  have := c.toNat_lt
  rw [UInt8.toNat_sub]
  simp
  omega
theorem u8_add32 (c : UInt8) : ((c.toNat : Int) + 32) % 256 = ((c + 32 : UInt8).toNat : Int) := by
  have := c.toNat_lt
  rw [UInt8.toNat_add]
  simp
theorem splice_byte (m : List UInt8) (r : List Value) (k : Nat) (c : UInt8) (hk : k < m.length) : splice (byteVals m ++ r) k [B c] = byteVals (m.set k c) ++ r := by
  rw [set_splice _ _ _ (by simp [byteVals]; omega), byteVals_app_set m r k c hk]
theorem nth_mid (a l : List UInt8) (k : Nat) (ha : a.length = l.length) (hk : k < l.length) : nth (a.take k ++ l.drop k) k = nth l k := by
  unfold nth
  rw [List.getD_eq_getElem?_getD, List.getD_eq_getElem?_getD, List.getElem?_append_right (by rw [List.length_take]; omega), List.length_take, Nat.min_eq_left (by omega), Nat.sub_self]
  simp
theorem mid_len (a l : List UInt8) (k : Nat) (ha : a.length = l.length) : (a.take k ++ l.drop k).length = l.length := by
  simp; omega
theorem canon_keep (l : List UInt8) (u : Bool) (k : Nat) (h : k < l.length) (hc : (canonL u l)[k]? = some (nth l k)) :
    (canonL u l).take k ++ l.drop k = (canonL u l).take (k + 1) ++ l.drop (k + 1) := by
  have h1 := canon_step l u k h hc
  rw [← h1]
  refine (List.ext_getElem? fun i => ?_).symm
  rw [List.getElem?_set]
  split
  · rename_i hi
    subst hi
    rw [if_pos (by rw [mid_len _ _ _ (canon_len l u)]; exact h)]
    have h2 := nth_mid (canonL u l) l k (canon_len l u) h
    rw [← h2]
    exact (nth_get (by rw [mid_len _ _ _ (canon_len l u)]; exact h)).symm
  · rfl
theorem bytes_string (m : List UInt8) (r : List Value) : bytesOf ((byteVals m ++ r).take m.length) = some m := by
  rw [List.take_left' (by simp [byteVals])]
  exact bytesOf_vals m

theorem canon_put (l : List UInt8) (u : Bool) (k : Nat) (r : List Value) (c : UInt8) (hk : k < l.length) (hc : (canonL u l)[k]? = some c) :
    splice (byteVals ((canonL u l).take k ++ l.drop k) ++ r) k [.int .u8 (c.toNat : Int)] = byteVals ((canonL u l).take (k + 1) ++ l.drop (k + 1)) ++ r := by
  rw [splice_byte _ _ _ _ (by rw [mid_len _ _ _ (canon_len l u)]; exact hk), canon_step l u k hk hc]
theorem canon_up (l : List UInt8) (k : Nat) (u : Bool) (hk : k < l.length) (hf : flagFrom u l k = true) (h : 97 ≤ ((nth l k).toNat : Int) ∧ ((nth l k).toNat : Int) ≤ 122) : (canonL u l)[k]? = some (nth l k - 32) := by
  rw [canon_at l u k hk, if_pos hf]
  unfold upB
  exact congrArg some (if_pos (show 97 ≤ (nth l k).toNat ∧ (nth l k).toNat ≤ 122 by omega))
theorem canon_up' (l : List UInt8) (k : Nat) (u : Bool) (hk : k < l.length) (hf : flagFrom u l k = true) (h : ¬(97 ≤ ((nth l k).toNat : Int) ∧ ((nth l k).toNat : Int) ≤ 122)) : (canonL u l)[k]? = some (nth l k) := by
  rw [canon_at l u k hk, if_pos hf]
  unfold upB
  exact congrArg some (if_neg (show ¬(97 ≤ (nth l k).toNat ∧ (nth l k).toNat ≤ 122) by omega))
theorem canon_lo (l : List UInt8) (k : Nat) (u : Bool) (hk : k < l.length) (hf : flagFrom u l k = false) (h : 65 ≤ ((nth l k).toNat : Int) ∧ ((nth l k).toNat : Int) ≤ 90) : (canonL u l)[k]? = some (nth l k + 32) := by
  rw [canon_at l u k hk, hf]
  unfold lowB'
  rw [if_neg (by decide)]
  exact congrArg some (if_pos (show 65 ≤ (nth l k).toNat ∧ (nth l k).toNat ≤ 90 by omega))
theorem canon_lo' (l : List UInt8) (k : Nat) (u : Bool) (hk : k < l.length) (hf : flagFrom u l k = false) (h : ¬(65 ≤ ((nth l k).toNat : Int) ∧ ((nth l k).toNat : Int) ≤ 90)) : (canonL u l)[k]? = some (nth l k) := by
  rw [canon_at l u k hk, hf]
  unfold lowB'
  rw [if_neg (by decide)]
  exact congrArg some (if_neg (show ¬(65 ≤ (nth l k).toNat ∧ (nth l k).toNat ≤ 90) by omega))
theorem flag_next (l : List UInt8) (u : Bool) (k : Nat) : decide (((nth l k).toNat : Int) = 45) = flagFrom u l (k + 1) := by
  show _ = (nth l k == 45)
  rw [Bool.eq_iff_iff, decide_eq_true_eq, beq_iff_eq]
  refine ⟨fun h => byte_eq (b := 45) h, fun h => by rw [h]; rfl⟩

set_option maxHeartbeats 1000000 in
theorem Canonical_ok (l : List UInt8) (hl : l.length < 1099511627776) :
    ACall Tryz.prog w0 13 [S l] h (fun v h' => v = S (canonL true l) ∧ Ext h h') := by
  refine ACall.known fun hKn => ?_
  obtain ⟨hN, hB⟩ := hKn
  refine ACall.run noCount mixed Tryz.func13 rfl (by kernel_rfl) (Nat.le_of_ble_eq_true rfl) fun X hX => ?_
  (repeat (first | (simp (disch := first | assumption | omega | (simp only [n_put, n_new, List.length_cons, List.length_nil, List.length_set]; first | done | omega)) only [push_cast, ↓ite_only, M_block, reduceIte, Nat.reduceBEq, Nat.reducePow, Int.reducePow, Nat.reduceEqDiff, Nat.reduceAdd, Nat.reduceSub, Nat.reduceMul, Nat.reduceLT, Nat.reduceLeDiff, Int.reduceEq, Int.reduceNe, Int.reduceLT, Int.reduceLE, Int.reduceAdd, Int.reduceSub, Int.reduceMul, Int.reduceNeg, Int.toNat_natCast]) | ((with_reducible refine And.intro ?_ ?_); focus (first | omega | assumption | (simp only [List.length_append, List.length_replicate, byteVals_length]; first | done | omega)))))
  intro c0
  have hge := room_ge l.length c0
  generalize room l.length c0 = cap at hge
  (repeat (first | (simp (disch := first | assumption | omega | (simp only [n_put, n_new, List.length_cons, List.length_nil, List.length_set]; first | done | omega)) only [push_cast, ↓ite_only, M_block, reduceIte, Nat.reduceBEq, Nat.reducePow, Int.reducePow, Nat.reduceEqDiff, Nat.reduceAdd, Nat.reduceSub, Nat.reduceMul, Nat.reduceLT, Nat.reduceLeDiff, Int.reduceEq, Int.reduceNe, Int.reduceLT, Int.reduceLE, Int.reduceAdd, Int.reduceSub, Int.reduceMul, Int.reduceNeg, Int.toNat_natCast]) | ((with_reducible refine And.intro ?_ ?_); focus (first | omega | assumption | (simp only [List.length_append, List.length_replicate, byteVals_length]; first | done | omega)))))
  refine M_loop (fun tm h1 n => ∃ k : Nat, k ≤ l.length ∧ n = l.length - k ∧ Ext h h1 ∧ h1.at h.n = some (.cells (byteVals ((canonL true l).take k ++ l.drop k) ++ List.replicate (cap - l.length) (.int .u8 0)) 5 cap (cap + 1)) ∧
      tget tm 11 = I k ∧ tget tm 10 = I l.length ∧ tget tm 9 = .slice (some ⟨h.n, 0, none⟩) l.length cap ∧ tget tm 3 = .slice (some ⟨h.n, 0, none⟩) l.length cap ∧ tget tm 4 = .bool (flagFrom true l k)) l.length
    ⟨0, by omega, by omega, (Ext.refl _).new _, by rw [at_new_eq]; rfl, (by (simp only [tget_cons, Nat.reduceBEq, tsel_true, tsel_false]; first | done | assumption | rfl)), (by (simp only [tget_cons, Nat.reduceBEq, tsel_true, tsel_false]; first | done | assumption | rfl)), (by (simp only [tget_cons, Nat.reduceBEq, tsel_true, tsel_false]; first | done | assumption | rfl)), (by (simp only [tget_cons, Nat.reduceBEq, tsel_true, tsel_false]; first | done | assumption | rfl)), (by (simp only [tget_cons, Nat.reduceBEq, tsel_true, tsel_false]; first | done | assumption | rfl))⟩ ?_
  rintro tm1 h1 n R ⟨k, hk, rfl, hx, hat, t11, t10, t9, t3, t4⟩ hR hE
  have hml := mid_len (canonL true l) l k (canon_len l true)
  have hnm := nth_mid (canonL true l) l k (canon_len l true)
  cases hf : flagFrom true l k <;> rw [hf] at t4
  all_goals (repeat (first | (simp (disch := first | assumption | omega | (simp only [n_put, n_new, List.length_cons, List.length_nil, List.length_set]; first | done | omega)) only [push_cast, ↓ite_only, M_block, reduceIte, Nat.reduceBEq, Nat.reducePow, Int.reducePow, Nat.reduceEqDiff, Nat.reduceAdd, Nat.reduceSub, Nat.reduceMul, Nat.reduceLT, Nat.reduceLeDiff, Int.reduceEq, Int.reduceNe, Int.reduceLT, Int.reduceLE, Int.reduceAdd, Int.reduceSub, Int.reduceMul, Int.reduceNeg, Int.toNat_natCast, t11, t10, t9, t3, t4, hat, byteVals_app_get, hml, hnm, u8_sub32, u8_add32]) | ((with_reducible refine And.intro ?_ ?_); focus (first | omega | assumption | (simp only [List.length_append, List.length_replicate, byteVals_length, t11, t10, t9, t3, t4, hat, byteVals_app_get, hml, hnm, u8_sub32, u8_add32]; first | done | omega)))))
  repeat' ((with_reducible first | refine condM_dec (fun c => ?_) (fun c => ?_) | refine condM_not (fun c => ?_) (fun c => ?_) | refine oneM_dec (fun c => ?_) (fun c => ?_) | refine oneM_not (fun c => ?_) (fun c => ?_) | refine oneP_dec (fun c => ?_) (fun c => ?_) | refine oneP_not (fun c => ?_) (fun c => ?_)) <;> first | (exfalso; omega) | (try (repeat (first | (simp (disch := first | assumption | omega | (simp only [n_put, n_new, List.length_cons, List.length_nil, List.length_set]; first | done | omega)) only [push_cast, ↓ite_only, M_block, reduceIte, Nat.reduceBEq, Nat.reducePow, Int.reducePow, Nat.reduceEqDiff, Nat.reduceAdd, Nat.reduceSub, Nat.reduceMul, Nat.reduceLT, Nat.reduceLeDiff, Int.reduceEq, Int.reduceNe, Int.reduceLT, Int.reduceLE, Int.reduceAdd, Int.reduceSub, Int.reduceMul, Int.reduceNeg, Int.toNat_natCast, t11, t10, t9, t3, t4, hat, byteVals_app_get, hml, hnm, u8_sub32, u8_add32, c]) | ((with_reducible refine And.intro ?_ ?_); focus (first | omega | assumption | (simp only [List.length_append, List.length_replicate, byteVals_length, t11, t10, t9, t3, t4, hat, byteVals_app_get, hml, hnm, u8_sub32, u8_add32, c]; first | done | omega)))))))
  · have hlt : k < l.length := by omega
    refine hR _ _ (l.length - (k + 1)) (by omega) ⟨k + 1, by omega, rfl, ?_, ?_, (by (simp only [tget_cons, Nat.reduceBEq, tsel_true, tsel_false]; first | done | assumption | rfl)), (by (simp only [tget_cons, Nat.reduceBEq, tsel_true, tsel_false]; first | done | assumption | rfl)), (by (simp only [tget_cons, Nat.reduceBEq, tsel_true, tsel_false]; first | done | assumption | rfl)), (by (simp only [tget_cons, Nat.reduceBEq, tsel_true, tsel_false]; first | done | assumption | rfl)), ?_⟩
    · exact hx.put (Nat.le_refl _) _
    · rw [at_put_eq, canon_put l true k _ _ hlt (canon_lo l k true hlt hf (by omega))]
    · (simp only [tget_cons, Nat.reduceBEq, tsel_true, tsel_false, flag_next l true])
  · have hlt : k < l.length := by omega
    refine hR _ _ (l.length - (k + 1)) (by omega) ⟨k + 1, by omega, rfl, ?_, ?_, (by (simp only [tget_cons, Nat.reduceBEq, tsel_true, tsel_false]; first | done | assumption | rfl)), (by (simp only [tget_cons, Nat.reduceBEq, tsel_true, tsel_false]; first | done | assumption | rfl)), (by (simp only [tget_cons, Nat.reduceBEq, tsel_true, tsel_false]; first | done | assumption | rfl)), (by (simp only [tget_cons, Nat.reduceBEq, tsel_true, tsel_false]; first | done | assumption | rfl)), ?_⟩
    · exact hx
    · rw [← canon_keep l true k hlt (canon_lo' l k true hlt hf (by omega))]; exact hat
    · (simp only [tget_cons, Nat.reduceBEq, tsel_true, tsel_false, flag_next l true])
  · have hlt : k < l.length := by omega
    refine hR _ _ (l.length - (k + 1)) (by omega) ⟨k + 1, by omega, rfl, ?_, ?_, (by (simp only [tget_cons, Nat.reduceBEq, tsel_true, tsel_false]; first | done | assumption | rfl)), (by (simp only [tget_cons, Nat.reduceBEq, tsel_true, tsel_false]; first | done | assumption | rfl)), (by (simp only [tget_cons, Nat.reduceBEq, tsel_true, tsel_false]; first | done | assumption | rfl)), (by (simp only [tget_cons, Nat.reduceBEq, tsel_true, tsel_false]; first | done | assumption | rfl)), ?_⟩
    · exact hx
    · rw [← canon_keep l true k hlt (canon_lo' l k true hlt hf (by omega))]; exact hat
    · (simp only [tget_cons, Nat.reduceBEq, tsel_true, tsel_false, flag_next l true])
  · have hke : k = l.length := by omega
    subst hke
    rw [List.take_of_length_le (Nat.le_of_eq (canon_len l true)), List.drop_length, List.append_nil] at hat
    (with_reducible refine hE _ _ _ _ (fun e => nomatch e) ?_)
    have hld := loadN_bytes hat (canon_len l true).symm
    (repeat (first | (simp (disch := first | assumption | omega | (simp only [n_put, n_new, List.length_cons, List.length_nil, List.length_set]; first | done | omega)) only [push_cast, ↓ite_only, M_block, reduceIte, Nat.reduceBEq, Nat.reducePow, Int.reducePow, Nat.reduceEqDiff, Nat.reduceAdd, Nat.reduceSub, Nat.reduceMul, Nat.reduceLT, Nat.reduceLeDiff, Int.reduceEq, Int.reduceNe, Int.reduceLT, Int.reduceLE, Int.reduceAdd, Int.reduceSub, Int.reduceMul, Int.reduceNeg, Int.toNat_natCast, t3, hld, bytesOf_vals]) | ((with_reducible refine And.intro ?_ ?_); focus (first | omega | assumption | (simp only [List.length_append, List.length_replicate, byteVals_length, t3, hld, bytesOf_vals]; first | done | omega)))))
    ((with_reducible refine hX _ _ _ (fun j hj => nomatch hj) ?_); simp (disch := first | assumption | omega | (simp only [n_put, n_new, List.length_cons, List.length_nil, List.length_set]; first | done | omega)) only [push_cast, ↓ite_only, M_block, reduceIte, Nat.reduceBEq, Nat.reducePow, Int.reducePow, Nat.reduceEqDiff, Nat.reduceAdd, Nat.reduceSub, Nat.reduceMul, Nat.reduceLT, Nat.reduceLeDiff, Int.reduceEq, Int.reduceNe, Int.reduceLT, Int.reduceLE, Int.reduceAdd, Int.reduceSub, Int.reduceMul, Int.reduceNeg, Int.toNat_natCast, Tryz.results13])
    exact hx
  · have hlt : k < l.length := by omega
    refine hR _ _ (l.length - (k + 1)) (by omega) ⟨k + 1, by omega, rfl, ?_, ?_, (by (simp only [tget_cons, Nat.reduceBEq, tsel_true, tsel_false]; first | done | assumption | rfl)), (by (simp only [tget_cons, Nat.reduceBEq, tsel_true, tsel_false]; first | done | assumption | rfl)), (by (simp only [tget_cons, Nat.reduceBEq, tsel_true, tsel_false]; first | done | assumption | rfl)), (by (simp only [tget_cons, Nat.reduceBEq, tsel_true, tsel_false]; first | done | assumption | rfl)), ?_⟩
    · exact hx.put (Nat.le_refl _) _
    · rw [at_put_eq, canon_put l true k _ _ hlt (canon_up l k true hlt hf (by omega))]
    · (simp only [tget_cons, Nat.reduceBEq, tsel_true, tsel_false, flag_next l true])
  · have hlt : k < l.length := by omega
    refine hR _ _ (l.length - (k + 1)) (by omega) ⟨k + 1, by omega, rfl, ?_, ?_, (by (simp only [tget_cons, Nat.reduceBEq, tsel_true, tsel_false]; first | done | assumption | rfl)), (by (simp only [tget_cons, Nat.reduceBEq, tsel_true, tsel_false]; first | done | assumption | rfl)), (by (simp only [tget_cons, Nat.reduceBEq, tsel_true, tsel_false]; first | done | assumption | rfl)), (by (simp only [tget_cons, Nat.reduceBEq, tsel_true, tsel_false]; first | done | assumption | rfl)), ?_⟩
    · exact hx
    · rw [← canon_keep l true k hlt (canon_up' l k true hlt hf (by omega))]; exact hat
    · (simp only [tget_cons, Nat.reduceBEq, tsel_true, tsel_false, flag_next l true])
  · have hlt : k < l.length := by omega
    refine hR _ _ (l.length - (k + 1)) (by omega) ⟨k + 1, by omega, rfl, ?_, ?_, (by (simp only [tget_cons, Nat.reduceBEq, tsel_true, tsel_false]; first | done | assumption | rfl)), (by (simp only [tget_cons, Nat.reduceBEq, tsel_true, tsel_false]; first | done | assumption | rfl)), (by (simp only [tget_cons, Nat.reduceBEq, tsel_true, tsel_false]; first | done | assumption | rfl)), (by (simp only [tget_cons, Nat.reduceBEq, tsel_true, tsel_false]; first | done | assumption | rfl)), ?_⟩
    · exact hx
    · rw [← canon_keep l true k hlt (canon_up' l k true hlt hf (by omega))]; exact hat
    · (simp only [tget_cons, Nat.reduceBEq, tsel_true, tsel_false, flag_next l true])
  · have hke : k = l.length := by omega
    subst hke
    rw [List.take_of_length_le (Nat.le_of_eq (canon_len l true)), List.drop_length, List.append_nil] at hat
    (with_reducible refine hE _ _ _ _ (fun e => nomatch e) ?_)
    have hld := loadN_bytes hat (canon_len l true).symm
    (repeat (first | (simp (disch := first | assumption | omega | (simp only [n_put, n_new, List.length_cons, List.length_nil, List.length_set]; first | done | omega)) only [push_cast, ↓ite_only, M_block, reduceIte, Nat.reduceBEq, Nat.reducePow, Int.reducePow, Nat.reduceEqDiff, Nat.reduceAdd, Nat.reduceSub, Nat.reduceMul, Nat.reduceLT, Nat.reduceLeDiff, Int.reduceEq, Int.reduceNe, Int.reduceLT, Int.reduceLE, Int.reduceAdd, Int.reduceSub, Int.reduceMul, Int.reduceNeg, Int.toNat_natCast, t3, hld, bytesOf_vals]) | ((with_reducible refine And.intro ?_ ?_); focus (first | omega | assumption | (simp only [List.length_append, List.length_replicate, byteVals_length, t3, hld, bytesOf_vals]; first | done | omega)))))
    ((with_reducible refine hX _ _ _ (fun j hj => nomatch hj) ?_); simp (disch := first | assumption | omega | (simp only [n_put, n_new, List.length_cons, List.length_nil, List.length_set]; first | done | omega)) only [push_cast, ↓ite_only, M_block, reduceIte, Nat.reduceBEq, Nat.reducePow, Int.reducePow, Nat.reduceEqDiff, Nat.reduceAdd, Nat.reduceSub, Nat.reduceMul, Nat.reduceLT, Nat.reduceLeDiff, Int.reduceEq, Int.reduceNe, Int.reduceLT, Int.reduceLE, Int.reduceAdd, Int.reduceSub, Int.reduceMul, Int.reduceNeg, Int.toNat_natCast, Tryz.results13])
    exact hx
end Go.Proofs.YtbjaapiliegegaaGreatDoor.Sy
