/- laws.FnCanonical returns true. -/
import Derived.Test.YtbjaapiliegegaaGreatDoorSbD
namespace Go.Proofs.YtbjaapiliegegaaGreatDoor.Sy
open Go
set_option maxRecDepth 100000
set_option pp.maxSteps 3000
set_option linter.unusedSimpArgs false
set_option linter.unusedVariables false
variable {w0 : World} {h : Heap}

theorem tok_up (c : UInt8) (h : tokB c = true) : tokB (upB c) = true ∧ tokB (lowB' c) = true ∧ c.toNat < 128 := by
  have := all256 (p := fun n => tokN n = true → (tokB (upB (UInt8.ofNat n)) && tokB (lowB' (UInt8.ofNat n)) && decide (n < 128)) = true) (by decide +kernel) c h
  rw [UInt8.ofNat_toNat, Bool.and_eq_true, Bool.and_eq_true, decide_eq_true_eq] at this
  exact ⟨this.1.1, this.1.2, this.2⟩
theorem tok_canon : ∀ (l : List UInt8) (u : Bool), l.all tokB = true → (canonL u l).all tokB = true
  | [], _, _ => rfl
  | c :: l, u, h => by
    rw [List.all_cons, Bool.and_eq_true] at h
    obtain ⟨h1, h2, _⟩ := tok_up c h.1
    simp only [canonL, List.all_cons, tok_canon l _ h.2, Bool.and_true]
    cases u
    · exact h2
    · exact h1
theorem tok_lower (l : List UInt8) (h : l.all tokB = true) : (l.map lowB').all tokB = true := by
  rw [List.all_eq_true] at h ⊢
  intro c hc
  obtain ⟨d, hd, rfl⟩ := List.mem_map.1 hc
  exact (tok_up d (h d hd)).2.1
theorem canonKey_tok {l : List UInt8} (h : l.all tokB = true) : canonKey l = canonL true l := by simp only [canonKey, h]

set_option maxHeartbeats 2000000 in
theorem FnCanonical_ok (l : List UInt8) (hR : Ready w0) : ACall Tryz.prog w0 4 [S l] h (fun v h' => v = .bool true) := by
  refine ACall.known fun hKn => ?_
  obtain ⟨hN, hB⟩ := hKn
  refine ACall.run noCount mixed Tryz.func4 rfl (by kernel_rfl) (Nat.le_of_ble_eq_true rfl) fun X hX => ?_
  (repeat (first | (simp (disch := first | assumption | omega | (simp only [n_put, n_new, List.length_cons, List.length_nil, List.length_set]; first | done | omega)) only [push_cast, ↓ite_only, M_block, reduceIte, Nat.reduceBEq, Nat.reducePow, Int.reducePow, Nat.reduceEqDiff, Nat.reduceAdd, Nat.reduceSub, Nat.reduceMul, Nat.reduceLT, Nat.reduceLeDiff, Int.reduceEq, Int.reduceNe, Int.reduceLT, Int.reduceLE, Int.reduceAdd, Int.reduceSub, Int.reduceMul, Int.reduceNeg, Int.toNat_natCast]) | ((with_reducible refine And.intro ?_ ?_); focus (first | omega | assumption | (simp only [List.length_append, List.length_replicate, byteVals_length]; first | done | omega)))))
  repeat' ((with_reducible first | refine condM_dec (fun c => ?_) (fun c => ?_) | refine condM_not (fun c => ?_) (fun c => ?_) | refine oneM_dec (fun c => ?_) (fun c => ?_) | refine oneM_not (fun c => ?_) (fun c => ?_) | refine oneP_dec (fun c => ?_) (fun c => ?_) | refine oneP_not (fun c => ?_) (fun c => ?_)) <;> first | (exfalso; omega) | (try (repeat (first | (simp (disch := first | assumption | omega | (simp only [n_put, n_new, List.length_cons, List.length_nil, List.length_set]; first | done | omega)) only [push_cast, ↓ite_only, M_block, reduceIte, Nat.reduceBEq, Nat.reducePow, Int.reducePow, Nat.reduceEqDiff, Nat.reduceAdd, Nat.reduceSub, Nat.reduceMul, Nat.reduceLT, Nat.reduceLeDiff, Int.reduceEq, Int.reduceNe, Int.reduceLT, Int.reduceLE, Int.reduceAdd, Int.reduceSub, Int.reduceMul, Int.reduceNeg, Int.toNat_natCast, c]) | ((with_reducible refine And.intro ?_ ?_); focus (first | omega | assumption | (simp only [List.length_append, List.length_replicate, byteVals_length, c]; first | done | omega)))))))
  · ((with_reducible refine hX _ _ _ (fun j hj => nomatch hj) ?_); simp (disch := first | assumption | omega | (simp only [n_put, n_new, List.length_cons, List.length_nil, List.length_set]; first | done | omega)) only [push_cast, ↓ite_only, M_block, reduceIte, Nat.reduceBEq, Nat.reducePow, Int.reducePow, Nat.reduceEqDiff, Nat.reduceAdd, Nat.reduceSub, Nat.reduceMul, Nat.reduceLT, Nat.reduceLeDiff, Int.reduceEq, Int.reduceNe, Int.reduceLT, Int.reduceLE, Int.reduceAdd, Int.reduceSub, Int.reduceMul, Int.reduceNeg, Int.toNat_natCast, Tryz.results4])
  · refine callM_of (Token_ok l (by omega)) ?_
    rintro v h1 ⟨rfl, hx1⟩
    cases ht : tokL l with
    | false =>
      (repeat (first | (simp (disch := first | assumption | omega | (simp only [n_put, n_new, List.length_cons, List.length_nil, List.length_set]; first | done | omega)) only [push_cast, ↓ite_only, M_block, reduceIte, Nat.reduceBEq, Nat.reducePow, Int.reducePow, Nat.reduceEqDiff, Nat.reduceAdd, Nat.reduceSub, Nat.reduceMul, Nat.reduceLT, Nat.reduceLeDiff, Int.reduceEq, Int.reduceNe, Int.reduceLT, Int.reduceLE, Int.reduceAdd, Int.reduceSub, Int.reduceMul, Int.reduceNeg, Int.toNat_natCast]) | ((with_reducible refine And.intro ?_ ?_); focus (first | omega | assumption | (simp only [List.length_append, List.length_replicate, byteVals_length]; first | done | omega)))))
      refine callM_of (works_ok hR) ?_
      rintro v h2 ⟨rfl, hx2⟩
      (repeat (first | (simp (disch := first | assumption | omega | (simp only [n_put, n_new, List.length_cons, List.length_nil, List.length_set]; first | done | omega)) only [push_cast, ↓ite_only, M_block, reduceIte, Nat.reduceBEq, Nat.reducePow, Int.reducePow, Nat.reduceEqDiff, Nat.reduceAdd, Nat.reduceSub, Nat.reduceMul, Nat.reduceLT, Nat.reduceLeDiff, Int.reduceEq, Int.reduceNe, Int.reduceLT, Int.reduceLE, Int.reduceAdd, Int.reduceSub, Int.reduceMul, Int.reduceNeg, Int.toNat_natCast]) | ((with_reducible refine And.intro ?_ ?_); focus (first | omega | assumption | (simp only [List.length_append, List.length_replicate, byteVals_length]; first | done | omega)))))
      ((with_reducible refine hX _ _ _ (fun j hj => nomatch hj) ?_); simp (disch := first | assumption | omega | (simp only [n_put, n_new, List.length_cons, List.length_nil, List.length_set]; first | done | omega)) only [push_cast, ↓ite_only, M_block, reduceIte, Nat.reduceBEq, Nat.reducePow, Int.reducePow, Nat.reduceEqDiff, Nat.reduceAdd, Nat.reduceSub, Nat.reduceMul, Nat.reduceLT, Nat.reduceLeDiff, Int.reduceEq, Int.reduceNe, Int.reduceLT, Int.reduceLE, Int.reduceAdd, Int.reduceSub, Int.reduceMul, Int.reduceNeg, Int.toNat_natCast, Tryz.results4])
    | true =>
      have hall : l.all tokB = true := by
        unfold tokL at ht
        rw [Bool.and_eq_true] at ht
        exact ht.1
      have hl0 : 0 < l.length := by
        cases l with
        | nil => cases ht
        | cons c r => simp
      have k1 := canonKey_tok hall
      have k2 := (canonKey_tok (tok_canon l true hall)).trans (canon_idem l true)
      have k3 := (canonKey_tok (tok_lower l hall)).trans (canon_lower l true)
      have hasc : ∀ c ∈ l, c.toNat < 128 := fun c hc => (tok_up c (List.all_eq_true.1 hall c hc)).2.2
      (repeat (first | (simp (disch := first | assumption | omega | (simp only [n_put, n_new, List.length_cons, List.length_nil, List.length_set]; first | done | omega)) only [push_cast, ↓ite_only, M_block, reduceIte, Nat.reduceBEq, Nat.reducePow, Int.reducePow, Nat.reduceEqDiff, Nat.reduceAdd, Nat.reduceSub, Nat.reduceMul, Nat.reduceLT, Nat.reduceLeDiff, Int.reduceEq, Int.reduceNe, Int.reduceLT, Int.reduceLE, Int.reduceAdd, Int.reduceSub, Int.reduceMul, Int.reduceNeg, Int.toNat_natCast]) | ((with_reducible refine And.intro ?_ ?_); focus (first | omega | assumption | (simp only [List.length_append, List.length_replicate, byteVals_length]; first | done | omega)))))
      refine callM_of (Canonical_ok l (by omega)) ?_
      rintro v h2 ⟨rfl, hx2⟩
      (repeat (first | (simp (disch := first | assumption | omega | (simp only [n_put, n_new, List.length_cons, List.length_nil, List.length_set]; first | done | omega)) only [push_cast, ↓ite_only, M_block, reduceIte, Nat.reduceBEq, Nat.reducePow, Int.reducePow, Nat.reduceEqDiff, Nat.reduceAdd, Nat.reduceSub, Nat.reduceMul, Nat.reduceLT, Nat.reduceLeDiff, Int.reduceEq, Int.reduceNe, Int.reduceLT, Int.reduceLE, Int.reduceAdd, Int.reduceSub, Int.reduceMul, Int.reduceNeg, Int.toNat_natCast]) | ((with_reducible refine And.intro ?_ ?_); focus (first | omega | assumption | (simp only [List.length_append, List.length_replicate, byteVals_length]; first | done | omega)))))
      refine callM_of (implCanonical_ok l (by omega)) ?_
      rintro v h3 ⟨rfl, hx3⟩
      (repeat (first | (simp (disch := first | assumption | omega | (simp only [n_put, n_new, List.length_cons, List.length_nil, List.length_set]; first | done | omega)) only [push_cast, ↓ite_only, M_block, reduceIte, Nat.reduceBEq, Nat.reducePow, Int.reducePow, Nat.reduceEqDiff, Nat.reduceAdd, Nat.reduceSub, Nat.reduceMul, Nat.reduceLT, Nat.reduceLeDiff, Int.reduceEq, Int.reduceNe, Int.reduceLT, Int.reduceLE, Int.reduceAdd, Int.reduceSub, Int.reduceMul, Int.reduceNeg, Int.toNat_natCast, k1]) | ((with_reducible refine And.intro ?_ ?_); focus (first | omega | assumption | (simp only [List.length_append, List.length_replicate, byteVals_length, k1]; first | done | omega)))))
      refine callM_of (implCanonical_ok (canonL true l) (by rw [canon_len]; omega)) ?_
      rintro v h4 ⟨rfl, hx4⟩
      (repeat (first | (simp (disch := first | assumption | omega | (simp only [n_put, n_new, List.length_cons, List.length_nil, List.length_set]; first | done | omega)) only [push_cast, ↓ite_only, M_block, reduceIte, Nat.reduceBEq, Nat.reducePow, Int.reducePow, Nat.reduceEqDiff, Nat.reduceAdd, Nat.reduceSub, Nat.reduceMul, Nat.reduceLT, Nat.reduceLeDiff, Int.reduceEq, Int.reduceNe, Int.reduceLT, Int.reduceLE, Int.reduceAdd, Int.reduceSub, Int.reduceMul, Int.reduceNeg, Int.toNat_natCast, k2]) | ((with_reducible refine And.intro ?_ ?_); focus (first | omega | assumption | (simp only [List.length_append, List.length_replicate, byteVals_length, k2]; first | done | omega)))))
      intro c0
      refine ⟨by omega, ?_⟩
      refine callM_of (ToLower_ok l [] _ h4.n _ _ _ hl0 (by omega) (at_new_eq _ _) hasc) ?_
      rintro v h5 ⟨hx5, g, cap, rfl, hld⟩
      (repeat (first | (simp (disch := first | assumption | omega | (simp only [n_put, n_new, List.length_cons, List.length_nil, List.length_set]; first | done | omega)) only [push_cast, ↓ite_only, M_block, reduceIte, Nat.reduceBEq, Nat.reducePow, Int.reducePow, Nat.reduceEqDiff, Nat.reduceAdd, Nat.reduceSub, Nat.reduceMul, Nat.reduceLT, Nat.reduceLeDiff, Int.reduceEq, Int.reduceNe, Int.reduceLT, Int.reduceLE, Int.reduceAdd, Int.reduceSub, Int.reduceMul, Int.reduceNeg, Int.toNat_natCast, hld, bytesOf_vals]) | ((with_reducible refine And.intro ?_ ?_); focus (first | omega | assumption | (simp only [List.length_append, List.length_replicate, byteVals_length, hld, bytesOf_vals]; first | done | omega)))))
      refine callM_of (implCanonical_ok (l.map lowB') (by rw [List.length_map]; omega)) ?_
      rintro v h6 ⟨rfl, hx6⟩
      (repeat (first | (simp (disch := first | assumption | omega | (simp only [n_put, n_new, List.length_cons, List.length_nil, List.length_set]; first | done | omega)) only [push_cast, ↓ite_only, M_block, reduceIte, Nat.reduceBEq, Nat.reducePow, Int.reducePow, Nat.reduceEqDiff, Nat.reduceAdd, Nat.reduceSub, Nat.reduceMul, Nat.reduceLT, Nat.reduceLeDiff, Int.reduceEq, Int.reduceNe, Int.reduceLT, Int.reduceLE, Int.reduceAdd, Int.reduceSub, Int.reduceMul, Int.reduceNeg, Int.toNat_natCast, k3]) | ((with_reducible refine And.intro ?_ ?_); focus (first | omega | assumption | (simp only [List.length_append, List.length_replicate, byteVals_length, k3]; first | done | omega)))))
      refine callM_of (works_ok hR) ?_
      rintro v h7 ⟨rfl, hx7⟩
      (repeat (first | (simp (disch := first | assumption | omega | (simp only [n_put, n_new, List.length_cons, List.length_nil, List.length_set]; first | done | omega)) only [push_cast, ↓ite_only, M_block, reduceIte, Nat.reduceBEq, Nat.reducePow, Int.reducePow, Nat.reduceEqDiff, Nat.reduceAdd, Nat.reduceSub, Nat.reduceMul, Nat.reduceLT, Nat.reduceLeDiff, Int.reduceEq, Int.reduceNe, Int.reduceLT, Int.reduceLE, Int.reduceAdd, Int.reduceSub, Int.reduceMul, Int.reduceNeg, Int.toNat_natCast]) | ((with_reducible refine And.intro ?_ ?_); focus (first | omega | assumption | (simp only [List.length_append, List.length_replicate, byteVals_length]; first | done | omega)))))
      ((with_reducible refine hX _ _ _ (fun j hj => nomatch hj) ?_); simp (disch := first | assumption | omega | (simp only [n_put, n_new, List.length_cons, List.length_nil, List.length_set]; first | done | omega)) only [push_cast, ↓ite_only, M_block, reduceIte, Nat.reduceBEq, Nat.reducePow, Int.reducePow, Nat.reduceEqDiff, Nat.reduceAdd, Nat.reduceSub, Nat.reduceMul, Nat.reduceLT, Nat.reduceLeDiff, Int.reduceEq, Int.reduceNe, Int.reduceLT, Int.reduceLE, Int.reduceAdd, Int.reduceSub, Int.reduceMul, Int.reduceNeg, Int.toNat_natCast, Tryz.results4])
  · refine callM_of (works_ok hR) ?_
    rintro v h2 ⟨rfl, hx2⟩
    (repeat (first | (simp (disch := first | assumption | omega | (simp only [n_put, n_new, List.length_cons, List.length_nil, List.length_set]; first | done | omega)) only [push_cast, ↓ite_only, M_block, reduceIte, Nat.reduceBEq, Nat.reducePow, Int.reducePow, Nat.reduceEqDiff, Nat.reduceAdd, Nat.reduceSub, Nat.reduceMul, Nat.reduceLT, Nat.reduceLeDiff, Int.reduceEq, Int.reduceNe, Int.reduceLT, Int.reduceLE, Int.reduceAdd, Int.reduceSub, Int.reduceMul, Int.reduceNeg, Int.toNat_natCast]) | ((with_reducible refine And.intro ?_ ?_); focus (first | omega | assumption | (simp only [List.length_append, List.length_replicate, byteVals_length]; first | done | omega)))))
    ((with_reducible refine hX _ _ _ (fun j hj => nomatch hj) ?_); simp (disch := first | assumption | omega | (simp only [n_put, n_new, List.length_cons, List.length_nil, List.length_set]; first | done | omega)) only [push_cast, ↓ite_only, M_block, reduceIte, Nat.reduceBEq, Nat.reducePow, Int.reducePow, Nat.reduceEqDiff, Nat.reduceAdd, Nat.reduceSub, Nat.reduceMul, Nat.reduceLT, Nat.reduceLeDiff, Int.reduceEq, Int.reduceNe, Int.reduceLT, Int.reduceLE, Int.reduceAdd, Int.reduceSub, Int.reduceMul, Int.reduceNeg, Int.toNat_natCast, Tryz.results4])
end Go.Proofs.YtbjaapiliegegaaGreatDoor.Sy
