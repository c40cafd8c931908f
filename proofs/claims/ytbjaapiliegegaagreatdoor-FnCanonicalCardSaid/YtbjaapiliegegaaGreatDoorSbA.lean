/- Contracts of small functions: the signs of a token. -/
import Derived.Test.YtbjaapiliegegaaGreatDoorSaO
namespace Go.Proofs.YtbjaapiliegegaaGreatDoor.Sy
open Go
set_option maxRecDepth 100000
set_option pp.maxSteps 1500
set_option linter.unusedSimpArgs false
set_option linter.unusedVariables false
variable {w0 : World} {h : Heap}
/-- A token's byte. -/
def tokN (n : Nat) : Bool := (48 ≤ n && n ≤ 57) || (97 ≤ n && n ≤ 122) || (65 ≤ n && n ≤ 90) || [33, 35, 36, 37, 38, 39, 42, 43, 45, 46, 94, 95, 96, 124, 126].contains n
def tokB (c : UInt8) : Bool := tokN c.toNat
/-- The signs of a token beside figures and letters. -/
def tokSigns : List UInt8 := [33, 35, 36, 37, 38, 39, 42, 43, 45, 46, 94, 95, 96, 124, 126]
def rangeB (c : UInt8) : Bool := (48 ≤ c.toNat && c.toNat ≤ 57) || (97 ≤ c.toNat && c.toNat ≤ 122) || (65 ≤ c.toNat && c.toNat ≤ 90)
theorem tok_range {c : UInt8} (h : rangeB c = true) : tokB c = true := by
  have := all256 (p := fun n => ((48 ≤ n && n ≤ 57) || (97 ≤ n && n ≤ 122) || (65 ≤ n && n ≤ 90)) = true → tokN n = true) (by decide +kernel) c
  exact this h
theorem tok_sign (c : UInt8) (h : rangeB c = false) : tokB c = tokSigns.contains c := by
  have := all256 (p := fun n => ((48 ≤ n && n ≤ 57) || (97 ≤ n && n ≤ 122) || (65 ≤ n && n ≤ 90)) = false → tokN n = tokSigns.contains (UInt8.ofNat n)) (by decide +kernel) c
  have h2 := this h
  rwa [UInt8.ofNat_toNat] at h2
theorem range_no (c : UInt8) (h1 : ¬(48 ≤ (c.toNat : Int) ∧ (c.toNat : Int) ≤ 57)) (h2 : ¬(97 ≤ (c.toNat : Int) ∧ (c.toNat : Int) ≤ 122)) (h3 : ¬(65 ≤ (c.toNat : Int) ∧ (c.toNat : Int) ≤ 90)) : rangeB c = false := by
  rw [← Bool.not_eq_true]
  intro h
  simp only [rangeB, Bool.or_eq_true, Bool.and_eq_true, decide_eq_true_eq] at h
  omega
theorem range_yes (c : UInt8) (h1 : (48 ≤ (c.toNat : Int) ∧ (c.toNat : Int) ≤ 57) ∨ (97 ≤ (c.toNat : Int) ∧ (c.toNat : Int) ≤ 122) ∨ (65 ≤ (c.toNat : Int) ∧ (c.toNat : Int) ≤ 90)) : rangeB c = true := by
  simp only [rangeB, Bool.or_eq_true, Bool.and_eq_true, decide_eq_true_eq]
  omega
set_option maxHeartbeats 1000000 in
theorem tokenByte_ok (c0 : UInt8) :
    ACall Tryz.prog w0 65 [B c0] h (fun v h' => v = .bool (tokB c0) ∧ Ext h h') := by
  refine ACall.known fun hKn => ?_
  obtain ⟨hN, hB⟩ := hKn
  refine ACall.run noCount mixed Tryz.func65 rfl (by kernel_rfl) (Nat.le_of_ble_eq_true rfl) fun X hX => ?_
  (repeat (first | (simp (disch := first | assumption | omega | (simp only [n_put, n_new, List.length_cons, List.length_nil, List.length_set]; first | done | omega)) only [push_cast, ↓ite_only, reduceIte, Nat.reduceBEq, Nat.reducePow, Int.reducePow, Nat.reduceEqDiff, Nat.reduceAdd, Nat.reduceSub, Nat.reduceMul, Nat.reduceLT, Nat.reduceLeDiff, Int.reduceEq, Int.reduceNe, Int.reduceLT, Int.reduceLE, Int.reduceAdd, Int.reduceSub, Int.reduceMul, Int.reduceNeg, Int.toNat_natCast]) | ((with_reducible refine And.intro ?_ ?_); focus (first | omega | assumption | (simp only [List.length_append, List.length_replicate, byteVals_length]; first | done | omega)))))
  refine M_cut (fun tm h' => h' = h ∧ tget tm 0 = B c0 ∧ rangeB c0 = false) (fun R hR hE => ?_) ?_
  · (repeat (first | (simp (disch := first | assumption | omega | (simp only [n_put, n_new, List.length_cons, List.length_nil, List.length_set]; first | done | omega)) only [push_cast, ↓ite_only, M_block, reduceIte, Nat.reduceBEq, Nat.reducePow, Int.reducePow, Nat.reduceEqDiff, Nat.reduceAdd, Nat.reduceSub, Nat.reduceMul, Nat.reduceLT, Nat.reduceLeDiff, Int.reduceEq, Int.reduceNe, Int.reduceLT, Int.reduceLE, Int.reduceAdd, Int.reduceSub, Int.reduceMul, Int.reduceNeg, Int.toNat_natCast]) | ((with_reducible refine And.intro ?_ ?_); focus (first | omega | assumption | (simp only [List.length_append, List.length_replicate, byteVals_length]; first | done | omega)))))
    repeat' ((with_reducible first | refine condM_dec (fun c => ?_) (fun c => ?_) | refine condM_not (fun c => ?_) (fun c => ?_) | refine oneM_dec (fun c => ?_) (fun c => ?_) | refine oneM_not (fun c => ?_) (fun c => ?_) | refine oneP_dec (fun c => ?_) (fun c => ?_) | refine oneP_not (fun c => ?_) (fun c => ?_)) <;> first | (exfalso; omega) | (try (repeat (first | (simp (disch := first | assumption | omega | (simp only [n_put, n_new, List.length_cons, List.length_nil, List.length_set]; first | done | omega)) only [push_cast, ↓ite_only, M_block, reduceIte, Nat.reduceBEq, Nat.reducePow, Int.reducePow, Nat.reduceEqDiff, Nat.reduceAdd, Nat.reduceSub, Nat.reduceMul, Nat.reduceLT, Nat.reduceLeDiff, Int.reduceEq, Int.reduceNe, Int.reduceLT, Int.reduceLE, Int.reduceAdd, Int.reduceSub, Int.reduceMul, Int.reduceNeg, Int.toNat_natCast, c]) | ((with_reducible refine And.intro ?_ ?_); focus (first | omega | assumption | (simp only [List.length_append, List.length_replicate, byteVals_length, c]; first | done | omega)))))))
    all_goals first
      | ((with_reducible refine hE _ _ _ _ (fun e => nomatch e) ?_); (repeat (first | (simp (disch := first | assumption | omega | (simp only [n_put, n_new, List.length_cons, List.length_nil, List.length_set]; first | done | omega)) only [push_cast, ↓ite_only, M_block, reduceIte, Nat.reduceBEq, Nat.reducePow, Int.reducePow, Nat.reduceEqDiff, Nat.reduceAdd, Nat.reduceSub, Nat.reduceMul, Nat.reduceLT, Nat.reduceLeDiff, Int.reduceEq, Int.reduceNe, Int.reduceLT, Int.reduceLE, Int.reduceAdd, Int.reduceSub, Int.reduceMul, Int.reduceNeg, Int.toNat_natCast]) | ((with_reducible refine And.intro ?_ ?_); focus (first | omega | assumption | (simp only [List.length_append, List.length_replicate, byteVals_length]; first | done | omega))))); ((with_reducible refine hX _ _ _ (fun j hj => nomatch hj) ?_); simp (disch := first | assumption | omega | (simp only [n_put, n_new, List.length_cons, List.length_nil, List.length_set]; first | done | omega)) only [push_cast, ↓ite_only, M_block, reduceIte, Nat.reduceBEq, Nat.reducePow, Int.reducePow, Nat.reduceEqDiff, Nat.reduceAdd, Nat.reduceSub, Nat.reduceMul, Nat.reduceLT, Nat.reduceLeDiff, Int.reduceEq, Int.reduceNe, Int.reduceLT, Int.reduceLE, Int.reduceAdd, Int.reduceSub, Int.reduceMul, Int.reduceNeg, Int.toNat_natCast, Tryz.results65]); refine ⟨?_, .refl _⟩; rw [tok_range (range_yes c0 (by omega))])
      | ((with_reducible refine hR _ _ ⟨rfl, ?_, range_no c0 (by omega) (by omega) (by omega)⟩); simp only [tget_cons, Nat.reduceBEq, tsel_true, tsel_false])
  · rintro tm h' ⟨rfl, h0, hr⟩
    (repeat (first | (simp (disch := first | assumption | omega | (simp only [n_put, n_new, List.length_cons, List.length_nil, List.length_set]; first | done | omega)) only [push_cast, ↓ite_only, M_block, reduceIte, Nat.reduceBEq, Nat.reducePow, Int.reducePow, Nat.reduceEqDiff, Nat.reduceAdd, Nat.reduceSub, Nat.reduceMul, Nat.reduceLT, Nat.reduceLeDiff, Int.reduceEq, Int.reduceNe, Int.reduceLT, Int.reduceLE, Int.reduceAdd, Int.reduceSub, Int.reduceMul, Int.reduceNeg, Int.toNat_natCast, h0]) | ((with_reducible refine And.intro ?_ ?_); focus (first | omega | assumption | (simp only [List.length_append, List.length_replicate, byteVals_length, h0]; first | done | omega)))))
    refine M_loop (fun tm h1 n => ∃ k : Nat, k ≤ 15 ∧ n = 15 - k ∧ h1.at h'.n = some (.cells (byteVals tokSigns) 5 15 16) ∧ Ext h' h1 ∧ tget tm 27 = I k ∧ tget tm 26 = I 15 ∧
      tget tm 25 = .slice (some ⟨h'.n, 0, none⟩) 15 15 ∧ tget tm 0 = B c0 ∧ (tokSigns.take k).contains c0 = false) 15
      ⟨0, by omega, rfl, by rw [at_put_eq]; rfl, ((Ext.refl _).new _).put (Nat.le_refl _) _, rfl, rfl, rfl, h0, rfl⟩ ?_
    rintro tm1 h1 n R ⟨k, hk, rfl, hat, hx, t27, t26, t25, t0, hno⟩ hR hE
    have hlen : tokSigns.length = 15 := rfl
    (repeat (first | (simp (disch := first | assumption | omega | (simp only [n_put, n_new, List.length_cons, List.length_nil, List.length_set]; first | done | omega)) only [push_cast, ↓ite_only, M_block, reduceIte, Nat.reduceBEq, Nat.reducePow, Int.reducePow, Nat.reduceEqDiff, Nat.reduceAdd, Nat.reduceSub, Nat.reduceMul, Nat.reduceLT, Nat.reduceLeDiff, Int.reduceEq, Int.reduceNe, Int.reduceLT, Int.reduceLE, Int.reduceAdd, Int.reduceSub, Int.reduceMul, Int.reduceNeg, Int.toNat_natCast, t27, t26, t25, t0, hat, hlen]) | ((with_reducible refine And.intro ?_ ?_); focus (first | omega | assumption | (simp only [List.length_append, List.length_replicate, byteVals_length, t27, t26, t25, t0, hat, hlen]; first | done | omega)))))
    repeat' ((with_reducible first | refine condM_dec (fun c => ?_) (fun c => ?_) | refine condM_not (fun c => ?_) (fun c => ?_) | refine oneM_dec (fun c => ?_) (fun c => ?_) | refine oneM_not (fun c => ?_) (fun c => ?_) | refine oneP_dec (fun c => ?_) (fun c => ?_) | refine oneP_not (fun c => ?_) (fun c => ?_)) <;> first | (exfalso; omega) | (try (repeat (first | (simp (disch := first | assumption | omega | (simp only [n_put, n_new, List.length_cons, List.length_nil, List.length_set]; first | done | omega)) only [push_cast, ↓ite_only, M_block, reduceIte, Nat.reduceBEq, Nat.reducePow, Int.reducePow, Nat.reduceEqDiff, Nat.reduceAdd, Nat.reduceSub, Nat.reduceMul, Nat.reduceLT, Nat.reduceLeDiff, Int.reduceEq, Int.reduceNe, Int.reduceLT, Int.reduceLE, Int.reduceAdd, Int.reduceSub, Int.reduceMul, Int.reduceNeg, Int.toNat_natCast, t27, t26, t25, t0, hat, hlen, c]) | ((with_reducible refine And.intro ?_ ?_); focus (first | omega | assumption | (simp only [List.length_append, List.length_replicate, byteVals_length, t27, t26, t25, t0, hat, hlen, c]; first | done | omega)))))))
    · have hlt : k < 15 := by omega
      (with_reducible refine hE _ _ _ _ (fun e => nomatch e) ?_)
      (repeat (first | (simp (disch := first | assumption | omega | (simp only [n_put, n_new, List.length_cons, List.length_nil, List.length_set]; first | done | omega)) only [push_cast, ↓ite_only, M_block, reduceIte, Nat.reduceBEq, Nat.reducePow, Int.reducePow, Nat.reduceEqDiff, Nat.reduceAdd, Nat.reduceSub, Nat.reduceMul, Nat.reduceLT, Nat.reduceLeDiff, Int.reduceEq, Int.reduceNe, Int.reduceLT, Int.reduceLE, Int.reduceAdd, Int.reduceSub, Int.reduceMul, Int.reduceNeg, Int.toNat_natCast]) | ((with_reducible refine And.intro ?_ ?_); focus (first | omega | assumption | (simp only [List.length_append, List.length_replicate, byteVals_length]; first | done | omega)))))
      ((with_reducible refine hX _ _ _ (fun j hj => nomatch hj) ?_); simp (disch := first | assumption | omega | (simp only [n_put, n_new, List.length_cons, List.length_nil, List.length_set]; first | done | omega)) only [push_cast, ↓ite_only, M_block, reduceIte, Nat.reduceBEq, Nat.reducePow, Int.reducePow, Nat.reduceEqDiff, Nat.reduceAdd, Nat.reduceSub, Nat.reduceMul, Nat.reduceLT, Nat.reduceLeDiff, Int.reduceEq, Int.reduceNe, Int.reduceLT, Int.reduceLE, Int.reduceAdd, Int.reduceSub, Int.reduceMul, Int.reduceNeg, Int.toNat_natCast, Tryz.results65])
      have e := byte_eq c
      refine ⟨?_, hx⟩
      rw [tok_sign c0 hr, e]
      refine congrArg Value.bool (Eq.symm ?_)
      rw [List.contains_iff_mem]
      exact List.mem_of_getElem? (nth_get (l := tokSigns) (by omega))
    · have hlt : k < 15 := by omega
      refine hR _ _ (15 - (k + 1)) (by omega) ⟨k + 1, by omega, rfl, hat, hx, (by (simp only [tget_cons, Nat.reduceBEq, tsel_true, tsel_false]; first | done | assumption | rfl)), (by (simp only [tget_cons, Nat.reduceBEq, tsel_true, tsel_false]; first | done | assumption | rfl)), (by (simp only [tget_cons, Nat.reduceBEq, tsel_true, tsel_false]; first | done | assumption | rfl)), (by (simp only [tget_cons, Nat.reduceBEq, tsel_true, tsel_false]; first | done | assumption | rfl)), ?_⟩
      have e := byte_ne c
      rw [take_snoc tokSigns k (by omega)]
      simp only [List.contains_append, hno, Bool.false_or]
      simpa using e
    · have hlt : k = 15 := by omega
      subst hlt
      (with_reducible refine hE _ _ _ _ (fun e => nomatch e) ?_)
      (repeat (first | (simp (disch := first | assumption | omega | (simp only [n_put, n_new, List.length_cons, List.length_nil, List.length_set]; first | done | omega)) only [push_cast, ↓ite_only, M_block, reduceIte, Nat.reduceBEq, Nat.reducePow, Int.reducePow, Nat.reduceEqDiff, Nat.reduceAdd, Nat.reduceSub, Nat.reduceMul, Nat.reduceLT, Nat.reduceLeDiff, Int.reduceEq, Int.reduceNe, Int.reduceLT, Int.reduceLE, Int.reduceAdd, Int.reduceSub, Int.reduceMul, Int.reduceNeg, Int.toNat_natCast]) | ((with_reducible refine And.intro ?_ ?_); focus (first | omega | assumption | (simp only [List.length_append, List.length_replicate, byteVals_length]; first | done | omega)))))
      ((with_reducible refine hX _ _ _ (fun j hj => nomatch hj) ?_); simp (disch := first | assumption | omega | (simp only [n_put, n_new, List.length_cons, List.length_nil, List.length_set]; first | done | omega)) only [push_cast, ↓ite_only, M_block, reduceIte, Nat.reduceBEq, Nat.reducePow, Int.reducePow, Nat.reduceEqDiff, Nat.reduceAdd, Nat.reduceSub, Nat.reduceMul, Nat.reduceLT, Nat.reduceLeDiff, Int.reduceEq, Int.reduceNe, Int.reduceLT, Int.reduceLE, Int.reduceAdd, Int.reduceSub, Int.reduceMul, Int.reduceNeg, Int.toNat_natCast, Tryz.results65])
      refine ⟨?_, hx⟩
      rw [tok_sign c0 hr]
      exact congrArg Value.bool (Eq.symm hno)

/-- A token. -/
def tokL (l : List UInt8) : Bool := l.all tokB && !l.isEmpty
theorem token_ok (l : List UInt8) (hl : l.length < 9223372036854775807) :
    ACall Tryz.prog w0 31 [S l] h (fun v h' => v = .bool (tokL l) ∧ Ext h h') := by
  refine ACall.known fun hKn => ?_
  obtain ⟨hN, hB⟩ := hKn
  refine ACall.run noCount mixed Tryz.func31 rfl (by kernel_rfl) (Nat.le_of_ble_eq_true rfl) fun X hX => ?_
  (repeat (first | (simp (disch := first | assumption | omega | (simp only [n_put, n_new, List.length_cons, List.length_nil, List.length_set]; first | done | omega)) only [push_cast, ↓ite_only, M_block, reduceIte, Nat.reduceBEq, Nat.reducePow, Int.reducePow, Nat.reduceEqDiff, Nat.reduceAdd, Nat.reduceSub, Nat.reduceMul, Nat.reduceLT, Nat.reduceLeDiff, Int.reduceEq, Int.reduceNe, Int.reduceLT, Int.reduceLE, Int.reduceAdd, Int.reduceSub, Int.reduceMul, Int.reduceNeg, Int.toNat_natCast]) | ((with_reducible refine And.intro ?_ ?_); focus (first | omega | assumption | (simp only [List.length_append, List.length_replicate, byteVals_length]; first | done | omega)))))
  refine M_loop (fun tm h1 n => ∃ k : Nat, k ≤ l.length ∧ n = l.length - k ∧ Ext h h1 ∧ tget tm 6 = I k ∧ tget tm 5 = I l.length ∧ tget tm 0 = S l ∧ (l.take k).all tokB = true) l.length
    ⟨0, by omega, by omega, .refl _, (by (simp only [tget_cons, Nat.reduceBEq, tsel_true, tsel_false]; first | done | assumption | rfl)), (by (simp only [tget_cons, Nat.reduceBEq, tsel_true, tsel_false]; first | done | assumption | rfl)), (by (simp only [tget_cons, Nat.reduceBEq, tsel_true, tsel_false]; first | done | assumption | rfl)), rfl⟩ ?_
  rintro tm1 h1 n R ⟨k, hk, rfl, hx, t6, t5, t0, hall⟩ hR hE
  (repeat (first | (simp (disch := first | assumption | omega | (simp only [n_put, n_new, List.length_cons, List.length_nil, List.length_set]; first | done | omega)) only [push_cast, ↓ite_only, M_block, reduceIte, Nat.reduceBEq, Nat.reducePow, Int.reducePow, Nat.reduceEqDiff, Nat.reduceAdd, Nat.reduceSub, Nat.reduceMul, Nat.reduceLT, Nat.reduceLeDiff, Int.reduceEq, Int.reduceNe, Int.reduceLT, Int.reduceLE, Int.reduceAdd, Int.reduceSub, Int.reduceMul, Int.reduceNeg, Int.toNat_natCast, t6, t5, t0]) | ((with_reducible refine And.intro ?_ ?_); focus (first | omega | assumption | (simp only [List.length_append, List.length_replicate, byteVals_length, t6, t5, t0]; first | done | omega)))))
  repeat' ((with_reducible first | refine condM_dec (fun c => ?_) (fun c => ?_) | refine condM_not (fun c => ?_) (fun c => ?_) | refine oneM_dec (fun c => ?_) (fun c => ?_) | refine oneM_not (fun c => ?_) (fun c => ?_) | refine oneP_dec (fun c => ?_) (fun c => ?_) | refine oneP_not (fun c => ?_) (fun c => ?_)) <;> first | (exfalso; omega) | (try (repeat (first | (simp (disch := first | assumption | omega | (simp only [n_put, n_new, List.length_cons, List.length_nil, List.length_set]; first | done | omega)) only [push_cast, ↓ite_only, M_block, reduceIte, Nat.reduceBEq, Nat.reducePow, Int.reducePow, Nat.reduceEqDiff, Nat.reduceAdd, Nat.reduceSub, Nat.reduceMul, Nat.reduceLT, Nat.reduceLeDiff, Int.reduceEq, Int.reduceNe, Int.reduceLT, Int.reduceLE, Int.reduceAdd, Int.reduceSub, Int.reduceMul, Int.reduceNeg, Int.toNat_natCast, t6, t5, t0, c]) | ((with_reducible refine And.intro ?_ ?_); focus (first | omega | assumption | (simp only [List.length_append, List.length_replicate, byteVals_length, t6, t5, t0, c]; first | done | omega)))))))
  · have hlt : k < l.length := by omega
    refine callM_of (tokenByte_ok _) ?_
    rintro v h2 ⟨rfl, hx2⟩
    have hx3 := hx.trans hx2
    cases hb : tokB (nth l k) with
    | false =>
      (repeat (first | (simp (disch := first | assumption | omega | (simp only [n_put, n_new, List.length_cons, List.length_nil, List.length_set]; first | done | omega)) only [push_cast, ↓ite_only, M_block, reduceIte, Nat.reduceBEq, Nat.reducePow, Int.reducePow, Nat.reduceEqDiff, Nat.reduceAdd, Nat.reduceSub, Nat.reduceMul, Nat.reduceLT, Nat.reduceLeDiff, Int.reduceEq, Int.reduceNe, Int.reduceLT, Int.reduceLE, Int.reduceAdd, Int.reduceSub, Int.reduceMul, Int.reduceNeg, Int.toNat_natCast]) | ((with_reducible refine And.intro ?_ ?_); focus (first | omega | assumption | (simp only [List.length_append, List.length_replicate, byteVals_length]; first | done | omega)))))
      (with_reducible refine hE _ _ _ _ (fun e => nomatch e) ?_)
      (repeat (first | (simp (disch := first | assumption | omega | (simp only [n_put, n_new, List.length_cons, List.length_nil, List.length_set]; first | done | omega)) only [push_cast, ↓ite_only, M_block, reduceIte, Nat.reduceBEq, Nat.reducePow, Int.reducePow, Nat.reduceEqDiff, Nat.reduceAdd, Nat.reduceSub, Nat.reduceMul, Nat.reduceLT, Nat.reduceLeDiff, Int.reduceEq, Int.reduceNe, Int.reduceLT, Int.reduceLE, Int.reduceAdd, Int.reduceSub, Int.reduceMul, Int.reduceNeg, Int.toNat_natCast]) | ((with_reducible refine And.intro ?_ ?_); focus (first | omega | assumption | (simp only [List.length_append, List.length_replicate, byteVals_length]; first | done | omega)))))
      ((with_reducible refine hX _ _ _ (fun j hj => nomatch hj) ?_); simp (disch := first | assumption | omega | (simp only [n_put, n_new, List.length_cons, List.length_nil, List.length_set]; first | done | omega)) only [push_cast, ↓ite_only, M_block, reduceIte, Nat.reduceBEq, Nat.reducePow, Int.reducePow, Nat.reduceEqDiff, Nat.reduceAdd, Nat.reduceSub, Nat.reduceMul, Nat.reduceLT, Nat.reduceLeDiff, Int.reduceEq, Int.reduceNe, Int.reduceLT, Int.reduceLE, Int.reduceAdd, Int.reduceSub, Int.reduceMul, Int.reduceNeg, Int.toNat_natCast, Tryz.results31])
      refine ⟨?_, hx3⟩
      refine congrArg Value.bool (Eq.symm ?_)
      unfold tokL
      rw [Bool.and_eq_false_iff]
      left
      rw [List.all_eq_false]
      exact ⟨_, List.mem_of_getElem? (nth_get hlt), by simp [hb]⟩
    | true =>
      (repeat (first | (simp (disch := first | assumption | omega | (simp only [n_put, n_new, List.length_cons, List.length_nil, List.length_set]; first | done | omega)) only [push_cast, ↓ite_only, M_block, reduceIte, Nat.reduceBEq, Nat.reducePow, Int.reducePow, Nat.reduceEqDiff, Nat.reduceAdd, Nat.reduceSub, Nat.reduceMul, Nat.reduceLT, Nat.reduceLeDiff, Int.reduceEq, Int.reduceNe, Int.reduceLT, Int.reduceLE, Int.reduceAdd, Int.reduceSub, Int.reduceMul, Int.reduceNeg, Int.toNat_natCast, t6]) | ((with_reducible refine And.intro ?_ ?_); focus (first | omega | assumption | (simp only [List.length_append, List.length_replicate, byteVals_length, t6]; first | done | omega)))))
      refine hR _ _ (l.length - (k + 1)) (by omega) ⟨k + 1, by omega, rfl, hx3, (by (simp only [tget_cons, Nat.reduceBEq, tsel_true, tsel_false]; first | done | assumption | rfl)), (by (simp only [tget_cons, Nat.reduceBEq, tsel_true, tsel_false]; first | done | assumption | rfl)), (by (simp only [tget_cons, Nat.reduceBEq, tsel_true, tsel_false]; first | done | assumption | rfl)), ?_⟩
      rw [take_snoc l k hlt, List.all_append, hall]
      simp [hb]
  · have hlt : k = l.length := by omega
    subst hlt
    (with_reducible refine hE _ _ _ _ (fun e => nomatch e) ?_)
    (repeat (first | (simp (disch := first | assumption | omega | (simp only [n_put, n_new, List.length_cons, List.length_nil, List.length_set]; first | done | omega)) only [push_cast, ↓ite_only, M_block, reduceIte, Nat.reduceBEq, Nat.reducePow, Int.reducePow, Nat.reduceEqDiff, Nat.reduceAdd, Nat.reduceSub, Nat.reduceMul, Nat.reduceLT, Nat.reduceLeDiff, Int.reduceEq, Int.reduceNe, Int.reduceLT, Int.reduceLE, Int.reduceAdd, Int.reduceSub, Int.reduceMul, Int.reduceNeg, Int.toNat_natCast, t0]) | ((with_reducible refine And.intro ?_ ?_); focus (first | omega | assumption | (simp only [List.length_append, List.length_replicate, byteVals_length, t0]; first | done | omega)))))
    ((with_reducible refine hX _ _ _ (fun j hj => nomatch hj) ?_); simp (disch := first | assumption | omega | (simp only [n_put, n_new, List.length_cons, List.length_nil, List.length_set]; first | done | omega)) only [push_cast, ↓ite_only, M_block, reduceIte, Nat.reduceBEq, Nat.reducePow, Int.reducePow, Nat.reduceEqDiff, Nat.reduceAdd, Nat.reduceSub, Nat.reduceMul, Nat.reduceLT, Nat.reduceLeDiff, Int.reduceEq, Int.reduceNe, Int.reduceLT, Int.reduceLE, Int.reduceAdd, Int.reduceSub, Int.reduceMul, Int.reduceNeg, Int.toNat_natCast, Tryz.results31])
    refine ⟨?_, hx⟩
    refine congrArg Value.bool ?_
    unfold tokL
    rw [List.take_length] at hall
    rw [hall]
    cases l <;> simp
theorem Token_ok (l : List UInt8) (hl : l.length < 9223372036854775807) :
    ACall Tryz.prog w0 12 [S l] h (fun v h' => v = .bool (tokL l) ∧ Ext h h') := by
  refine ACall.known fun hKn => ?_
  obtain ⟨hN, hB⟩ := hKn
  refine ACall.run noCount mixed Tryz.func12 rfl (by kernel_rfl) (Nat.le_of_ble_eq_true rfl) fun X hX => ?_
  (repeat (first | (simp (disch := first | assumption | omega | (simp only [n_put, n_new, List.length_cons, List.length_nil, List.length_set]; first | done | omega)) only [push_cast, ↓ite_only, M_block, reduceIte, Nat.reduceBEq, Nat.reducePow, Int.reducePow, Nat.reduceEqDiff, Nat.reduceAdd, Nat.reduceSub, Nat.reduceMul, Nat.reduceLT, Nat.reduceLeDiff, Int.reduceEq, Int.reduceNe, Int.reduceLT, Int.reduceLE, Int.reduceAdd, Int.reduceSub, Int.reduceMul, Int.reduceNeg, Int.toNat_natCast]) | ((with_reducible refine And.intro ?_ ?_); focus (first | omega | assumption | (simp only [List.length_append, List.length_replicate, byteVals_length]; first | done | omega)))))
  refine callM_of (token_ok l hl) ?_
  rintro v h2 ⟨rfl, hx2⟩
  (repeat (first | (simp (disch := first | assumption | omega | (simp only [n_put, n_new, List.length_cons, List.length_nil, List.length_set]; first | done | omega)) only [push_cast, ↓ite_only, M_block, reduceIte, Nat.reduceBEq, Nat.reducePow, Int.reducePow, Nat.reduceEqDiff, Nat.reduceAdd, Nat.reduceSub, Nat.reduceMul, Nat.reduceLT, Nat.reduceLeDiff, Int.reduceEq, Int.reduceNe, Int.reduceLT, Int.reduceLE, Int.reduceAdd, Int.reduceSub, Int.reduceMul, Int.reduceNeg, Int.toNat_natCast]) | ((with_reducible refine And.intro ?_ ?_); focus (first | omega | assumption | (simp only [List.length_append, List.length_replicate, byteVals_length]; first | done | omega)))))
  ((with_reducible refine hX _ _ _ (fun j hj => nomatch hj) ?_); simp (disch := first | assumption | omega | (simp only [n_put, n_new, List.length_cons, List.length_nil, List.length_set]; first | done | omega)) only [push_cast, ↓ite_only, M_block, reduceIte, Nat.reduceBEq, Nat.reducePow, Int.reducePow, Nat.reduceEqDiff, Nat.reduceAdd, Nat.reduceSub, Nat.reduceMul, Nat.reduceLT, Nat.reduceLeDiff, Int.reduceEq, Int.reduceNe, Int.reduceLT, Int.reduceLE, Int.reduceAdd, Int.reduceSub, Int.reduceMul, Int.reduceNeg, Int.toNat_natCast, Tryz.results12])
  exact hx2
end Go.Proofs.YtbjaapiliegegaaGreatDoor.Sy
