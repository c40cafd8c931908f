/- Contracts of small functions: a key's canonical form by the library. -/
import Derived.Test.YtbjaapiliegegaaGreatDoorSbB
namespace Go.Proofs.YtbjaapiliegegaaGreatDoor.Sy
open Go
set_option maxRecDepth 100000
set_option pp.maxSteps 3000
set_option linter.unusedSimpArgs false
set_option linter.unusedVariables false
variable {w0 : World} {h : Heap}

def vhfN (n : Nat) : Bool :=
  !decide ((((BitVec.ofInt IntKind.u64.bits ((BitVec.ofInt IntKind.u64.bits (1 * 2 ^ min n IntKind.u64.bits % 18446744073709551616) &&& BitVec.ofInt IntKind.u64.bits 288068722172624896).toNat % 18446744073709551616) |||
    BitVec.ofInt IntKind.u64.bits ((BitVec.ofInt IntKind.u64.bits (1 * 2 ^ min (((n : Int) - 64) % 256).toNat IntKind.u64.bits % 18446744073709551616) &&& BitVec.ofInt IntKind.u64.bits 6341068274398134270).toNat % 18446744073709551616)).toNat : Int) % 18446744073709551616) = 0)
theorem vhf_tok (c : UInt8) : vhfN c.toNat = tokB c := all256 (p := fun n => vhfN n = tokN n) (by decide +kernel) c
theorem vhfb_ok (c0 : UInt8) :
    ACall Tryz.prog w0 97 [B c0] h (fun v h' => v = .bool (tokB c0) ∧ Ext h h') := by
  refine ACall.known fun hKn => ?_
  obtain ⟨hN, hB⟩ := hKn
  refine ACall.run noCount mixed Tryz.func97 rfl (by kernel_rfl) (Nat.le_of_ble_eq_true rfl) fun X hX => ?_
  (repeat (first | (simp (disch := first | assumption | omega | (simp only [n_put, n_new, List.length_cons, List.length_nil, List.length_set]; first | done | omega)) only [push_cast, ↓ite_only, M_block, reduceIte, Nat.reduceBEq, Nat.reducePow, Int.reducePow, Nat.reduceEqDiff, Nat.reduceAdd, Nat.reduceSub, Nat.reduceMul, Nat.reduceLT, Nat.reduceLeDiff, Int.reduceEq, Int.reduceNe, Int.reduceLT, Int.reduceLE, Int.reduceAdd, Int.reduceSub, Int.reduceMul, Int.reduceNeg, Int.toNat_natCast]) | ((with_reducible refine And.intro ?_ ?_); focus (first | omega | assumption | (simp only [List.length_append, List.length_replicate, byteVals_length]; first | done | omega)))))
  ((with_reducible refine hX _ _ _ (fun j hj => nomatch hj) ?_); simp (disch := first | assumption | omega | (simp only [n_put, n_new, List.length_cons, List.length_nil, List.length_set]; first | done | omega)) only [push_cast, ↓ite_only, M_block, reduceIte, Nat.reduceBEq, Nat.reducePow, Int.reducePow, Nat.reduceEqDiff, Nat.reduceAdd, Nat.reduceSub, Nat.reduceMul, Nat.reduceLT, Nat.reduceLeDiff, Int.reduceEq, Int.reduceNe, Int.reduceLT, Int.reduceLE, Int.reduceAdd, Int.reduceSub, Int.reduceMul, Int.reduceNeg, Int.toNat_natCast, Tryz.results97])
  exact ⟨congrArg Value.bool (vhf_tok c0), .refl _⟩

/-- Old blocks but one are as they were. -/
def ExtBut (b : Nat) (h h' : Heap) : Prop := h.n ≤ h'.n ∧ ∀ c, c < h.n → c ≠ b → h'.at c = h.at c
theorem mid_get (pre post : List Value) (m : List UInt8) (k : Nat) (hk : k < m.length) : (pre ++ (byteVals m ++ post))[pre.length + k]? = some (B (nth m k)) := by
  rw [List.getElem?_append_right (by omega), Nat.add_sub_cancel_left]
  exact byteVals_app_get m post k hk
theorem mid_put (pre post : List Value) (l : List UInt8) (u : Bool) (k : Nat) (c : UInt8) (hk : k < l.length) (hc : (canonL u l)[k]? = some c) :
    splice (pre ++ (byteVals ((canonL u l).take k ++ l.drop k) ++ post)) (pre.length + k) [.int .u8 (c.toNat : Int)] = pre ++ (byteVals ((canonL u l).take (k + 1) ++ l.drop (k + 1)) ++ post) := by
  have h1 := canon_put l u k post c hk hc
  rw [← h1, set_splice _ _ _ (by simp [byteVals_length, canon_len]; omega), set_splice _ _ _ (by simp [byteVals_length, canon_len]; omega), List.set_append_right _ _ (by omega), Nat.add_sub_cancel_left]
theorem loadN_mid {b n : Nat} {pre post : List Value} {m : List UInt8} {e : TypeId} {lo hi : Nat} (hat : h.at b = some (.cells (pre ++ (byteVals m ++ post)) e lo hi)) (hn : n = m.length) : loadN h b pre.length n = some (byteVals m) := by
  subst hn
  rw [loadN_eq, hat, loadC_some, only_pos (by simp [byteVals_length]), List.drop_left, List.take_left' (by rw [byteVals_length])]

/-- What the key's form comes to. -/
def keyForm (l : List UInt8) : List UInt8 × Bool :=
  match l with
  | [] => ([], false)
  | c :: r => match (c :: r).all (fun c => tokB c || c == 32), (c :: r).contains 32 with
    | false, _ => (c :: r, false)
    | true, true => (c :: r, true)
    | true, false => (canonL true (c :: r), true)

theorem keyForm_bad {l : List UInt8} (h0 : 0 < l.length) (h : l.all (fun c => tokB c || c == 32) = false) : keyForm l = (l, false) := by
  cases l with
  | nil => simp at h0
  | cons c r => simp only [keyForm, h]
theorem keyForm_space {l : List UInt8} (h0 : 0 < l.length) (h : l.all (fun c => tokB c || c == 32) = true) (h2 : l.contains 32 = true) : keyForm l = (l, true) := by
  cases l with
  | nil => simp at h0
  | cons c r => simp only [keyForm, h, h2]
theorem keyForm_good {l : List UInt8} (h0 : 0 < l.length) (h : l.all (fun c => tokB c || c == 32) = true) (h2 : l.contains 32 = false) : keyForm l = (canonL true l, true) := by
  cases l with
  | nil => simp at h0
  | cons c r => simp only [keyForm, h, h2]
theorem keyForm_tok {l : List UInt8} (h : tokL l = true) : keyForm l = (canonL true l, true) := by
  unfold tokL at h
  rw [Bool.and_eq_true] at h
  refine keyForm_good ?_ ?_ ?_
  · cases l with
    | nil => simp at h
    | cons c r => simp
  · rw [List.all_eq_true] at h ⊢
    intro c hc
    rw [h.1 c hc]
    rfl
  · rw [← Bool.not_eq_true, List.contains_iff_mem]
    intro hm
    have := List.all_eq_true.1 h.1 _ hm
    revert this
    decide
theorem flag_next' (l : List UInt8) (u : Bool) (k : Nat) (c : UInt8) (hk : k < l.length) (hc : (canonL u l)[k]? = some c) : decide ((c.toNat : Int) = 45) = flagFrom u l (k + 1) := by
  rw [canon_at l u k hk, Option.some_inj] at hc
  obtain ⟨_, _, _, h4, h5⟩ := byte_law (l.getD k 0)
  have e : (c == 45) = flagFrom u l (k + 1) := by
    rw [← hc]
    show _ = (l.getD k 0 == 45)
    split <;> assumption
  rw [← e, Bool.eq_iff_iff, decide_eq_true_eq, beq_iff_eq]
  exact ⟨fun h => byte_eq (b := 45) h, fun h => by rw [h]; rfl⟩
theorem ExtBut.put {b : Nat} {h h' : Heap} (e : ExtBut b h h') (o : AO) : ExtBut b h (h'.put b o) := ⟨e.1, fun c hc hb => by rw [at_put_ne _ _ hb]; exact e.2 c hc hb⟩
set_option maxHeartbeats 2000000 in
theorem cmk_ok (l : List UInt8) (pre post : List Value) (b cp lo hi : Nat) (hb : w0.heap.size ≤ b) (hl : l.length < 1099511627776)
    (hat : h.at b = some (.cells (pre ++ (byteVals l ++ post)) 5 lo hi)) (hfr : hi ≤ pre.length ∨ pre.length + l.length ≤ lo) :
    ACall Tryz.prog w0 98 [.slice (some ⟨b, pre.length, none⟩) l.length cp] h (fun v h' => v = .tuple #[S (keyForm l).1, .bool (keyForm l).2] ∧
      ExtBut b h h' ∧ ∃ m, m.length = l.length ∧ ((keyForm l).2 = true → m = (keyForm l).1) ∧ h'.at b = some (.cells (pre ++ (byteVals m ++ post)) 5 lo hi)) := by
  refine ACall.known fun hKn => ?_
  obtain ⟨hN, hB⟩ := hKn
  refine ACall.run noCount mixed Tryz.func98 rfl (by kernel_rfl) (Nat.le_of_ble_eq_true rfl) fun X hX => ?_
  have hbn := hB _ _ hat
  (repeat (first | (simp (disch := first | assumption | omega | (simp only [n_put, n_new, List.length_cons, List.length_nil, List.length_set]; first | done | omega)) only [push_cast, ↓ite_only, reduceIte, Nat.reduceBEq, Nat.reducePow, Int.reducePow, Nat.reduceEqDiff, Nat.reduceAdd, Nat.reduceSub, Nat.reduceMul, Nat.reduceLT, Nat.reduceLeDiff, Int.reduceEq, Int.reduceNe, Int.reduceLT, Int.reduceLE, Int.reduceAdd, Int.reduceSub, Int.reduceMul, Int.reduceNeg, Int.toNat_natCast]) | ((with_reducible refine And.intro ?_ ?_); focus (first | omega | assumption | (simp only [List.length_append, List.length_replicate, byteVals_length]; first | done | omega)))))
  (with_reducible first | refine condM_dec (fun c => ?_) (fun c => ?_) | refine condM_not (fun c => ?_) (fun c => ?_) | refine oneM_dec (fun c => ?_) (fun c => ?_) | refine oneM_not (fun c => ?_) (fun c => ?_) | refine oneP_dec (fun c => ?_) (fun c => ?_) | refine oneP_not (fun c => ?_) (fun c => ?_))
  · have h0 : l = [] := List.eq_nil_of_length_eq_zero (by omega)
    subst h0
    (repeat (first | (simp (disch := first | assumption | omega | (simp only [n_put, n_new, List.length_cons, List.length_nil, List.length_set]; first | done | omega)) only [push_cast, ↓ite_only, M_block, reduceIte, Nat.reduceBEq, Nat.reducePow, Int.reducePow, Nat.reduceEqDiff, Nat.reduceAdd, Nat.reduceSub, Nat.reduceMul, Nat.reduceLT, Nat.reduceLeDiff, Int.reduceEq, Int.reduceNe, Int.reduceLT, Int.reduceLE, Int.reduceAdd, Int.reduceSub, Int.reduceMul, Int.reduceNeg, Int.toNat_natCast]) | ((with_reducible refine And.intro ?_ ?_); focus (first | omega | assumption | (simp only [List.length_append, List.length_replicate, byteVals_length]; first | done | omega)))))
    ((with_reducible refine hX _ _ _ (fun j hj => nomatch hj) ?_); simp (disch := first | assumption | omega | (simp only [n_put, n_new, List.length_cons, List.length_nil, List.length_set]; first | done | omega)) only [push_cast, ↓ite_only, M_block, reduceIte, Nat.reduceBEq, Nat.reducePow, Int.reducePow, Nat.reduceEqDiff, Nat.reduceAdd, Nat.reduceSub, Nat.reduceMul, Nat.reduceLT, Nat.reduceLeDiff, Int.reduceEq, Int.reduceNe, Int.reduceLT, Int.reduceLE, Int.reduceAdd, Int.reduceSub, Int.reduceMul, Int.reduceNeg, Int.toNat_natCast, Tryz.results98])
    refine ⟨rfl, ⟨Nat.le_refl _, fun _ _ _ => rfl⟩, [], rfl, fun e => (nomatch e), hat⟩
  have hl0 : 0 < l.length := by omega
  (repeat (first | (simp (disch := first | assumption | omega | (simp only [n_put, n_new, List.length_cons, List.length_nil, List.length_set]; first | done | omega)) only [push_cast, ↓ite_only, M_block, reduceIte, Nat.reduceBEq, Nat.reducePow, Int.reducePow, Nat.reduceEqDiff, Nat.reduceAdd, Nat.reduceSub, Nat.reduceMul, Nat.reduceLT, Nat.reduceLeDiff, Int.reduceEq, Int.reduceNe, Int.reduceLT, Int.reduceLE, Int.reduceAdd, Int.reduceSub, Int.reduceMul, Int.reduceNeg, Int.toNat_natCast]) | ((with_reducible refine And.intro ?_ ?_); focus (first | omega | assumption | (simp only [List.length_append, List.length_replicate, byteVals_length]; first | done | omega)))))
  refine M_loop (fun tm h1 n => ∃ k : Nat, k ≤ l.length ∧ n = l.length - k ∧ Ext h h1 ∧ tget tm 15 = I k ∧ tget tm 14 = I l.length ∧ tget tm 13 = .slice (some ⟨b, pre.length, none⟩) l.length cp ∧ tget tm 0 = .slice (some ⟨b, pre.length, none⟩) l.length cp ∧
      tget tm 4 = .bool ((l.take k).contains 32) ∧ (l.take k).all (fun c => tokB c || c == 32) = true) l.length
    ⟨0, by omega, by omega, .refl _, (by (simp only [tget_cons, Nat.reduceBEq, tsel_true, tsel_false]; first | done | assumption | rfl)), (by (simp only [tget_cons, Nat.reduceBEq, tsel_true, tsel_false]; first | done | assumption | rfl)), (by (simp only [tget_cons, Nat.reduceBEq, tsel_true, tsel_false]; first | done | assumption | rfl)), (by (simp only [tget_cons, Nat.reduceBEq, tsel_true, tsel_false]; first | done | assumption | rfl)), (by (simp only [tget_cons, Nat.reduceBEq, tsel_true, tsel_false]; first | done | assumption | rfl)), rfl⟩ ?_
  rintro tm1 h1 n R ⟨k, hk, rfl, hx, t15, t14, t13, t0, t4, hall⟩ hR hE
  have hat1 := (hx.2 b hbn).trans hat
  (repeat (first | (simp (disch := first | assumption | omega | (simp only [n_put, n_new, List.length_cons, List.length_nil, List.length_set]; first | done | omega)) only [push_cast, ↓ite_only, M_block, reduceIte, Nat.reduceBEq, Nat.reducePow, Int.reducePow, Nat.reduceEqDiff, Nat.reduceAdd, Nat.reduceSub, Nat.reduceMul, Nat.reduceLT, Nat.reduceLeDiff, Int.reduceEq, Int.reduceNe, Int.reduceLT, Int.reduceLE, Int.reduceAdd, Int.reduceSub, Int.reduceMul, Int.reduceNeg, Int.toNat_natCast, t15, t14, t13, t0, hat1, mid_get]) | ((with_reducible refine And.intro ?_ ?_); focus (first | omega | assumption | (simp only [List.length_append, List.length_replicate, byteVals_length, t15, t14, t13, t0, hat1, mid_get]; first | done | omega)))))
  repeat' ((with_reducible first | refine condM_dec (fun c => ?_) (fun c => ?_) | refine condM_not (fun c => ?_) (fun c => ?_) | refine oneM_dec (fun c => ?_) (fun c => ?_) | refine oneM_not (fun c => ?_) (fun c => ?_) | refine oneP_dec (fun c => ?_) (fun c => ?_) | refine oneP_not (fun c => ?_) (fun c => ?_)) <;> first | (exfalso; omega) | (try (repeat (first | (simp (disch := first | assumption | omega | (simp only [n_put, n_new, List.length_cons, List.length_nil, List.length_set]; first | done | omega)) only [push_cast, ↓ite_only, M_block, reduceIte, Nat.reduceBEq, Nat.reducePow, Int.reducePow, Nat.reduceEqDiff, Nat.reduceAdd, Nat.reduceSub, Nat.reduceMul, Nat.reduceLT, Nat.reduceLeDiff, Int.reduceEq, Int.reduceNe, Int.reduceLT, Int.reduceLE, Int.reduceAdd, Int.reduceSub, Int.reduceMul, Int.reduceNeg, Int.toNat_natCast, t15, t14, t13, t0, hat1, mid_get, c]) | ((with_reducible refine And.intro ?_ ?_); focus (first | omega | assumption | (simp only [List.length_append, List.length_replicate, byteVals_length, t15, t14, t13, t0, hat1, mid_get, c]; first | done | omega)))))))
  · have hlt : k < l.length := by omega
    refine callM_of (vhfb_ok _) ?_
    rintro v h2 ⟨rfl, hx2⟩
    have hx3 := hx.trans hx2
    have hat2 := (hx3.2 b hbn).trans hat
    cases hb' : tokB (nth l k) with
    | true =>
      (repeat (first | (simp (disch := first | assumption | omega | (simp only [n_put, n_new, List.length_cons, List.length_nil, List.length_set]; first | done | omega)) only [push_cast, ↓ite_only, M_block, reduceIte, Nat.reduceBEq, Nat.reducePow, Int.reducePow, Nat.reduceEqDiff, Nat.reduceAdd, Nat.reduceSub, Nat.reduceMul, Nat.reduceLT, Nat.reduceLeDiff, Int.reduceEq, Int.reduceNe, Int.reduceLT, Int.reduceLE, Int.reduceAdd, Int.reduceSub, Int.reduceMul, Int.reduceNeg, Int.toNat_natCast, t15]) | ((with_reducible refine And.intro ?_ ?_); focus (first | omega | assumption | (simp only [List.length_append, List.length_replicate, byteVals_length, t15]; first | done | omega)))))
      refine hR _ _ (l.length - (k + 1)) (by omega) ⟨k + 1, by omega, rfl, hx3, (by (simp only [tget_cons, Nat.reduceBEq, tsel_true, tsel_false]; first | done | assumption | rfl)), (by (simp only [tget_cons, Nat.reduceBEq, tsel_true, tsel_false]; first | done | assumption | rfl)), (by (simp only [tget_cons, Nat.reduceBEq, tsel_true, tsel_false]; first | done | assumption | rfl)), (by (simp only [tget_cons, Nat.reduceBEq, tsel_true, tsel_false]; first | done | assumption | rfl)), ?_, ?_⟩
      · simp only [tget_cons, Nat.reduceBEq, tsel_true, tsel_false, t4]
        refine congrArg Value.bool ?_
        rw [take_snoc l k hlt, List.contains_append]
        have hne : nth l k ≠ 32 := fun e => by rw [e] at hb'; revert hb'; decide
        simp [Ne.symm hne]
      · rw [take_snoc l k hlt, List.all_append, hall]
        simp [hb']
    | false =>
      have hld := loadN_mid hat2 rfl
      (repeat (first | (simp (disch := first | assumption | omega | (simp only [n_put, n_new, List.length_cons, List.length_nil, List.length_set]; first | done | omega)) only [push_cast, ↓ite_only, M_block, reduceIte, Nat.reduceBEq, Nat.reducePow, Int.reducePow, Nat.reduceEqDiff, Nat.reduceAdd, Nat.reduceSub, Nat.reduceMul, Nat.reduceLT, Nat.reduceLeDiff, Int.reduceEq, Int.reduceNe, Int.reduceLT, Int.reduceLE, Int.reduceAdd, Int.reduceSub, Int.reduceMul, Int.reduceNeg, Int.toNat_natCast, t15, t14, t13, t0, hld, bytesOf_vals]) | ((with_reducible refine And.intro ?_ ?_); focus (first | omega | assumption | (simp only [List.length_append, List.length_replicate, byteVals_length, t15, t14, t13, t0, hld, bytesOf_vals]; first | done | omega)))))
      repeat' ((with_reducible first | refine condM_dec (fun c => ?_) (fun c => ?_) | refine condM_not (fun c => ?_) (fun c => ?_) | refine oneM_dec (fun c => ?_) (fun c => ?_) | refine oneM_not (fun c => ?_) (fun c => ?_) | refine oneP_dec (fun c => ?_) (fun c => ?_) | refine oneP_not (fun c => ?_) (fun c => ?_)) <;> first | (exfalso; omega) | (try (repeat (first | (simp (disch := first | assumption | omega | (simp only [n_put, n_new, List.length_cons, List.length_nil, List.length_set]; first | done | omega)) only [push_cast, ↓ite_only, M_block, reduceIte, Nat.reduceBEq, Nat.reducePow, Int.reducePow, Nat.reduceEqDiff, Nat.reduceAdd, Nat.reduceSub, Nat.reduceMul, Nat.reduceLT, Nat.reduceLeDiff, Int.reduceEq, Int.reduceNe, Int.reduceLT, Int.reduceLE, Int.reduceAdd, Int.reduceSub, Int.reduceMul, Int.reduceNeg, Int.toNat_natCast, t15, t14, t13, t0, hld, bytesOf_vals, c]) | ((with_reducible refine And.intro ?_ ?_); focus (first | omega | assumption | (simp only [List.length_append, List.length_replicate, byteVals_length, t15, t14, t13, t0, hld, bytesOf_vals, c]; first | done | omega)))))))
      · refine hR _ _ (l.length - (k + 1)) (by omega) ⟨k + 1, by omega, rfl, hx3, (by (simp only [tget_cons, Nat.reduceBEq, tsel_true, tsel_false]; first | done | assumption | rfl)), (by (simp only [tget_cons, Nat.reduceBEq, tsel_true, tsel_false]; first | done | assumption | rfl)), (by (simp only [tget_cons, Nat.reduceBEq, tsel_true, tsel_false]; first | done | assumption | rfl)), (by (simp only [tget_cons, Nat.reduceBEq, tsel_true, tsel_false]; first | done | assumption | rfl)), ?_, ?_⟩
        · simp only [tget_cons, Nat.reduceBEq, tsel_true, tsel_false]
          refine congrArg Value.bool ?_
          rw [take_snoc l k hlt, byte_eq (b := 32) c]
          simp
        · rw [take_snoc l k hlt, List.all_append, hall, byte_eq (b := 32) c]
          rfl
      · (with_reducible refine hE _ _ _ _ (fun e => nomatch e) ?_)
        (repeat (first | (simp (disch := first | assumption | omega | (simp only [n_put, n_new, List.length_cons, List.length_nil, List.length_set]; first | done | omega)) only [push_cast, ↓ite_only, M_block, reduceIte, Nat.reduceBEq, Nat.reducePow, Int.reducePow, Nat.reduceEqDiff, Nat.reduceAdd, Nat.reduceSub, Nat.reduceMul, Nat.reduceLT, Nat.reduceLeDiff, Int.reduceEq, Int.reduceNe, Int.reduceLT, Int.reduceLE, Int.reduceAdd, Int.reduceSub, Int.reduceMul, Int.reduceNeg, Int.toNat_natCast]) | ((with_reducible refine And.intro ?_ ?_); focus (first | omega | assumption | (simp only [List.length_append, List.length_replicate, byteVals_length]; first | done | omega)))))
        ((with_reducible refine hX _ _ _ (fun j hj => nomatch hj) ?_); simp (disch := first | assumption | omega | (simp only [n_put, n_new, List.length_cons, List.length_nil, List.length_set]; first | done | omega)) only [push_cast, ↓ite_only, M_block, reduceIte, Nat.reduceBEq, Nat.reducePow, Int.reducePow, Nat.reduceEqDiff, Nat.reduceAdd, Nat.reduceSub, Nat.reduceMul, Nat.reduceLT, Nat.reduceLeDiff, Int.reduceEq, Int.reduceNe, Int.reduceLT, Int.reduceLE, Int.reduceAdd, Int.reduceSub, Int.reduceMul, Int.reduceNeg, Int.toNat_natCast, Tryz.results98])
        have hbad : l.all (fun c => tokB c || c == 32) = false := by
          rw [List.all_eq_false]
          refine ⟨nth l k, List.mem_of_getElem? (nth_get hlt), ?_⟩
          have := byte_ne (b := 32) c
          simp [hb', this]
        rw [keyForm_bad hl0 hbad]
        exact ⟨rfl, ⟨hx3.1, fun c hc _ => hx3.2 c hc⟩, l, rfl, fun e => (nomatch e), hat2⟩
  · have hke : k = l.length := by omega
    subst hke
    rw [List.take_length] at hall t4
    (with_reducible refine hE _ _ _ _ (fun e => nomatch e) ?_)
    cases hsp : l.contains 32 with
    | true =>
      rw [hsp] at t4
      have hld := loadN_mid hat1 rfl
      (repeat (first | (simp (disch := first | assumption | omega | (simp only [n_put, n_new, List.length_cons, List.length_nil, List.length_set]; first | done | omega)) only [push_cast, ↓ite_only, M_block, reduceIte, Nat.reduceBEq, Nat.reducePow, Int.reducePow, Nat.reduceEqDiff, Nat.reduceAdd, Nat.reduceSub, Nat.reduceMul, Nat.reduceLT, Nat.reduceLeDiff, Int.reduceEq, Int.reduceNe, Int.reduceLT, Int.reduceLE, Int.reduceAdd, Int.reduceSub, Int.reduceMul, Int.reduceNeg, Int.toNat_natCast, t4, t0, hld, bytesOf_vals]) | ((with_reducible refine And.intro ?_ ?_); focus (first | omega | assumption | (simp only [List.length_append, List.length_replicate, byteVals_length, t4, t0, hld, bytesOf_vals]; first | done | omega)))))
      ((with_reducible refine hX _ _ _ (fun j hj => nomatch hj) ?_); simp (disch := first | assumption | omega | (simp only [n_put, n_new, List.length_cons, List.length_nil, List.length_set]; first | done | omega)) only [push_cast, ↓ite_only, M_block, reduceIte, Nat.reduceBEq, Nat.reducePow, Int.reducePow, Nat.reduceEqDiff, Nat.reduceAdd, Nat.reduceSub, Nat.reduceMul, Nat.reduceLT, Nat.reduceLeDiff, Int.reduceEq, Int.reduceNe, Int.reduceLT, Int.reduceLE, Int.reduceAdd, Int.reduceSub, Int.reduceMul, Int.reduceNeg, Int.toNat_natCast, Tryz.results98])
      rw [keyForm_space hl0 hall hsp]
      exact ⟨rfl, ⟨hx.1, fun c hc _ => hx.2 c hc⟩, l, rfl, fun _ => rfl, hat1⟩
    | false =>
      rw [hsp] at t4
      rw [keyForm_good hl0 hall hsp] at hX
      (repeat (first | (simp (disch := first | assumption | omega | (simp only [n_put, n_new, List.length_cons, List.length_nil, List.length_set]; first | done | omega)) only [push_cast, ↓ite_only, M_block, reduceIte, Nat.reduceBEq, Nat.reducePow, Int.reducePow, Nat.reduceEqDiff, Nat.reduceAdd, Nat.reduceSub, Nat.reduceMul, Nat.reduceLT, Nat.reduceLeDiff, Int.reduceEq, Int.reduceNe, Int.reduceLT, Int.reduceLE, Int.reduceAdd, Int.reduceSub, Int.reduceMul, Int.reduceNeg, Int.toNat_natCast, t4, t0]) | ((with_reducible refine And.intro ?_ ?_); focus (first | omega | assumption | (simp only [List.length_append, List.length_replicate, byteVals_length, t4, t0]; first | done | omega)))))
      refine M_loop (fun tm h1 n => ∃ k : Nat, k ≤ l.length ∧ n = l.length - k ∧ ExtBut b h h1 ∧ h1.at b = some (.cells (pre ++ (byteVals ((canonL true l).take k ++ l.drop k) ++ post)) 5 lo hi) ∧ tget tm 31 = I k ∧ tget tm 30 = I l.length ∧
          tget tm 29 = .slice (some ⟨b, pre.length, none⟩) l.length cp ∧ tget tm 0 = .slice (some ⟨b, pre.length, none⟩) l.length cp ∧ tget tm 7 = .bool (flagFrom true l k)) l.length
        ⟨0, by omega, by omega, ⟨hx.1, fun c hc _ => hx.2 c hc⟩, hat1, (by (simp only [tget_cons, Nat.reduceBEq, tsel_true, tsel_false]; first | done | assumption | rfl)), (by (simp only [tget_cons, Nat.reduceBEq, tsel_true, tsel_false]; first | done | assumption | rfl)), (by (simp only [tget_cons, Nat.reduceBEq, tsel_true, tsel_false]; first | done | assumption | rfl)), (by (simp only [tget_cons, Nat.reduceBEq, tsel_true, tsel_false]; first | done | assumption | rfl)), (by (simp only [tget_cons, Nat.reduceBEq, tsel_true, tsel_false]; first | done | assumption | rfl))⟩ ?_
      rintro tm2 h3 n R2 ⟨k, hk, rfl, hx3, hat3, t31, t30, t29, t0, t7⟩ hR2 hE
      have hml := mid_len (canonL true l) l k (canon_len l true)
      have hnm := nth_mid (canonL true l) l k (canon_len l true)
      cases hf : flagFrom true l k <;> rw [hf] at t7
      all_goals (repeat (first | (simp (disch := first | assumption | omega | (simp only [n_put, n_new, List.length_cons, List.length_nil, List.length_set]; first | done | omega)) only [push_cast, ↓ite_only, M_block, reduceIte, Nat.reduceBEq, Nat.reducePow, Int.reducePow, Nat.reduceEqDiff, Nat.reduceAdd, Nat.reduceSub, Nat.reduceMul, Nat.reduceLT, Nat.reduceLeDiff, Int.reduceEq, Int.reduceNe, Int.reduceLT, Int.reduceLE, Int.reduceAdd, Int.reduceSub, Int.reduceMul, Int.reduceNeg, Int.toNat_natCast, t31, t30, t29, t0, t7, hat3, mid_get, hml, hnm, u8_sub32, u8_add32]) | ((with_reducible refine And.intro ?_ ?_); focus (first | omega | assumption | (simp only [List.length_append, List.length_replicate, byteVals_length, t31, t30, t29, t0, t7, hat3, mid_get, hml, hnm, u8_sub32, u8_add32]; first | done | omega)))))
      repeat' ((with_reducible first | refine condM_dec (fun c => ?_) (fun c => ?_) | refine condM_not (fun c => ?_) (fun c => ?_) | refine oneM_dec (fun c => ?_) (fun c => ?_) | refine oneM_not (fun c => ?_) (fun c => ?_) | refine oneP_dec (fun c => ?_) (fun c => ?_) | refine oneP_not (fun c => ?_) (fun c => ?_)) <;> first | (exfalso; omega) | (try (repeat (first | (simp (disch := first | assumption | omega | (simp only [n_put, n_new, List.length_cons, List.length_nil, List.length_set]; first | done | omega)) only [push_cast, ↓ite_only, M_block, reduceIte, Nat.reduceBEq, Nat.reducePow, Int.reducePow, Nat.reduceEqDiff, Nat.reduceAdd, Nat.reduceSub, Nat.reduceMul, Nat.reduceLT, Nat.reduceLeDiff, Int.reduceEq, Int.reduceNe, Int.reduceLT, Int.reduceLE, Int.reduceAdd, Int.reduceSub, Int.reduceMul, Int.reduceNeg, Int.toNat_natCast, t31, t30, t29, t0, t7, hat3, mid_get, hml, hnm, u8_sub32, u8_add32, c]) | ((with_reducible refine And.intro ?_ ?_); focus (first | omega | assumption | (simp only [List.length_append, List.length_replicate, byteVals_length, t31, t30, t29, t0, t7, hat3, mid_get, hml, hnm, u8_sub32, u8_add32, c]; first | done | omega)))))))
      · have hlt : k < l.length := by omega
        have hcc := canon_lo l k true hlt hf (by omega)
        refine hR2 _ _ (l.length - (k + 1)) (by omega) ⟨k + 1, by omega, rfl, hx3.put _, by rw [at_put_eq, mid_put _ _ _ _ _ _ hlt hcc], (by (simp only [tget_cons, Nat.reduceBEq, tsel_true, tsel_false]; first | done | assumption | rfl)), (by (simp only [tget_cons, Nat.reduceBEq, tsel_true, tsel_false]; first | done | assumption | rfl)), (by (simp only [tget_cons, Nat.reduceBEq, tsel_true, tsel_false]; first | done | assumption | rfl)), (by (simp only [tget_cons, Nat.reduceBEq, tsel_true, tsel_false]; first | done | assumption | rfl)), ?_⟩
        simp only [tget_cons, Nat.reduceBEq, tsel_true, tsel_false]
        exact congrArg Value.bool (flag_next' l true k _ hlt hcc)
      · have hlt : k < l.length := by omega
        have hcc := canon_lo' l k true hlt hf (by omega)
        refine hR2 _ _ (l.length - (k + 1)) (by omega) ⟨k + 1, by omega, rfl, hx3.put _, by rw [at_put_eq, mid_put _ _ _ _ _ _ hlt hcc], (by (simp only [tget_cons, Nat.reduceBEq, tsel_true, tsel_false]; first | done | assumption | rfl)), (by (simp only [tget_cons, Nat.reduceBEq, tsel_true, tsel_false]; first | done | assumption | rfl)), (by (simp only [tget_cons, Nat.reduceBEq, tsel_true, tsel_false]; first | done | assumption | rfl)), (by (simp only [tget_cons, Nat.reduceBEq, tsel_true, tsel_false]; first | done | assumption | rfl)), ?_⟩
        simp only [tget_cons, Nat.reduceBEq, tsel_true, tsel_false]
        exact congrArg Value.bool (flag_next' l true k _ hlt hcc)
      · have hlt : k < l.length := by omega
        have hcc := canon_lo' l k true hlt hf (by omega)
        refine hR2 _ _ (l.length - (k + 1)) (by omega) ⟨k + 1, by omega, rfl, hx3.put _, by rw [at_put_eq, mid_put _ _ _ _ _ _ hlt hcc], (by (simp only [tget_cons, Nat.reduceBEq, tsel_true, tsel_false]; first | done | assumption | rfl)), (by (simp only [tget_cons, Nat.reduceBEq, tsel_true, tsel_false]; first | done | assumption | rfl)), (by (simp only [tget_cons, Nat.reduceBEq, tsel_true, tsel_false]; first | done | assumption | rfl)), (by (simp only [tget_cons, Nat.reduceBEq, tsel_true, tsel_false]; first | done | assumption | rfl)), ?_⟩
        simp only [tget_cons, Nat.reduceBEq, tsel_true, tsel_false]
        exact congrArg Value.bool (flag_next' l true k _ hlt hcc)
      · have hke : k = l.length := by omega
        subst hke
        rw [List.take_of_length_le (Nat.le_of_eq (canon_len l true)), List.drop_length, List.append_nil] at hat3
        have hld := loadN_mid hat3 (canon_len l true).symm
        (with_reducible refine hE _ _ _ _ (fun e => nomatch e) ?_)
        (repeat (first | (simp (disch := first | assumption | omega | (simp only [n_put, n_new, List.length_cons, List.length_nil, List.length_set]; first | done | omega)) only [push_cast, ↓ite_only, M_block, reduceIte, Nat.reduceBEq, Nat.reducePow, Int.reducePow, Nat.reduceEqDiff, Nat.reduceAdd, Nat.reduceSub, Nat.reduceMul, Nat.reduceLT, Nat.reduceLeDiff, Int.reduceEq, Int.reduceNe, Int.reduceLT, Int.reduceLE, Int.reduceAdd, Int.reduceSub, Int.reduceMul, Int.reduceNeg, Int.toNat_natCast, t0, hld, bytesOf_vals]) | ((with_reducible refine And.intro ?_ ?_); focus (first | omega | assumption | (simp only [List.length_append, List.length_replicate, byteVals_length, t0, hld, bytesOf_vals]; first | done | omega)))))
        ((with_reducible refine hX _ _ _ (fun j hj => nomatch hj) ?_); simp (disch := first | assumption | omega | (simp only [n_put, n_new, List.length_cons, List.length_nil, List.length_set]; first | done | omega)) only [push_cast, ↓ite_only, M_block, reduceIte, Nat.reduceBEq, Nat.reducePow, Int.reducePow, Nat.reduceEqDiff, Nat.reduceAdd, Nat.reduceSub, Nat.reduceMul, Nat.reduceLT, Nat.reduceLeDiff, Int.reduceEq, Int.reduceNe, Int.reduceLT, Int.reduceLE, Int.reduceAdd, Int.reduceSub, Int.reduceMul, Int.reduceNeg, Int.toNat_natCast, Tryz.results98])
        exact ⟨hx3, canonL true l, canon_len l true, rfl, hat3⟩
      · have hlt : k < l.length := by omega
        have hcc := canon_up l k true hlt hf (by omega)
        refine hR2 _ _ (l.length - (k + 1)) (by omega) ⟨k + 1, by omega, rfl, hx3.put _, by rw [at_put_eq, mid_put _ _ _ _ _ _ hlt hcc], (by (simp only [tget_cons, Nat.reduceBEq, tsel_true, tsel_false]; first | done | assumption | rfl)), (by (simp only [tget_cons, Nat.reduceBEq, tsel_true, tsel_false]; first | done | assumption | rfl)), (by (simp only [tget_cons, Nat.reduceBEq, tsel_true, tsel_false]; first | done | assumption | rfl)), (by (simp only [tget_cons, Nat.reduceBEq, tsel_true, tsel_false]; first | done | assumption | rfl)), ?_⟩
        simp only [tget_cons, Nat.reduceBEq, tsel_true, tsel_false]
        exact congrArg Value.bool (flag_next' l true k _ hlt hcc)
      · have hlt : k < l.length := by omega
        have hcc := canon_up' l k true hlt hf (by omega)
        refine hR2 _ _ (l.length - (k + 1)) (by omega) ⟨k + 1, by omega, rfl, hx3.put _, by rw [at_put_eq, mid_put _ _ _ _ _ _ hlt hcc], (by (simp only [tget_cons, Nat.reduceBEq, tsel_true, tsel_false]; first | done | assumption | rfl)), (by (simp only [tget_cons, Nat.reduceBEq, tsel_true, tsel_false]; first | done | assumption | rfl)), (by (simp only [tget_cons, Nat.reduceBEq, tsel_true, tsel_false]; first | done | assumption | rfl)), (by (simp only [tget_cons, Nat.reduceBEq, tsel_true, tsel_false]; first | done | assumption | rfl)), ?_⟩
        simp only [tget_cons, Nat.reduceBEq, tsel_true, tsel_false]
        exact congrArg Value.bool (flag_next' l true k _ hlt hcc)
      · have hlt : k < l.length := by omega
        have hcc := canon_up' l k true hlt hf (by omega)
        refine hR2 _ _ (l.length - (k + 1)) (by omega) ⟨k + 1, by omega, rfl, hx3.put _, by rw [at_put_eq, mid_put _ _ _ _ _ _ hlt hcc], (by (simp only [tget_cons, Nat.reduceBEq, tsel_true, tsel_false]; first | done | assumption | rfl)), (by (simp only [tget_cons, Nat.reduceBEq, tsel_true, tsel_false]; first | done | assumption | rfl)), (by (simp only [tget_cons, Nat.reduceBEq, tsel_true, tsel_false]; first | done | assumption | rfl)), (by (simp only [tget_cons, Nat.reduceBEq, tsel_true, tsel_false]; first | done | assumption | rfl)), ?_⟩
        simp only [tget_cons, Nat.reduceBEq, tsel_true, tsel_false]
        exact congrArg Value.bool (flag_next' l true k _ hlt hcc)
      · have hke : k = l.length := by omega
        subst hke
        rw [List.take_of_length_le (Nat.le_of_eq (canon_len l true)), List.drop_length, List.append_nil] at hat3
        have hld := loadN_mid hat3 (canon_len l true).symm
        (with_reducible refine hE _ _ _ _ (fun e => nomatch e) ?_)
        (repeat (first | (simp (disch := first | assumption | omega | (simp only [n_put, n_new, List.length_cons, List.length_nil, List.length_set]; first | done | omega)) only [push_cast, ↓ite_only, M_block, reduceIte, Nat.reduceBEq, Nat.reducePow, Int.reducePow, Nat.reduceEqDiff, Nat.reduceAdd, Nat.reduceSub, Nat.reduceMul, Nat.reduceLT, Nat.reduceLeDiff, Int.reduceEq, Int.reduceNe, Int.reduceLT, Int.reduceLE, Int.reduceAdd, Int.reduceSub, Int.reduceMul, Int.reduceNeg, Int.toNat_natCast, t0, hld, bytesOf_vals]) | ((with_reducible refine And.intro ?_ ?_); focus (first | omega | assumption | (simp only [List.length_append, List.length_replicate, byteVals_length, t0, hld, bytesOf_vals]; first | done | omega)))))
        ((with_reducible refine hX _ _ _ (fun j hj => nomatch hj) ?_); simp (disch := first | assumption | omega | (simp only [n_put, n_new, List.length_cons, List.length_nil, List.length_set]; first | done | omega)) only [push_cast, ↓ite_only, M_block, reduceIte, Nat.reduceBEq, Nat.reducePow, Int.reducePow, Nat.reduceEqDiff, Nat.reduceAdd, Nat.reduceSub, Nat.reduceMul, Nat.reduceLT, Nat.reduceLeDiff, Int.reduceEq, Int.reduceNe, Int.reduceLT, Int.reduceLE, Int.reduceAdd, Int.reduceSub, Int.reduceMul, Int.reduceNeg, Int.toNat_natCast, Tryz.results98])
        exact ⟨hx3, canonL true l, canon_len l true, rfl, hat3⟩

/-- A key in its canonical form; a key that is none stays. -/
def canonKey (l : List UInt8) : List UInt8 :=
  match l.all tokB with
  | true => canonL true l
  | false => l
theorem keyForm_fst {l : List UInt8} (h0 : 0 < l.length) : (keyForm l).1 = canonKey l := by
  cases ht : l.all tokB with
  | true =>
    rw [keyForm_tok (by unfold tokL; rw [ht]; cases l with | nil => simp at h0 | cons c r => rfl)]
    simp only [canonKey, ht]
  | false =>
    simp only [canonKey, ht]
    cases h1 : l.all (fun c => tokB c || c == 32) with
    | false => rw [keyForm_bad h0 h1]
    | true =>
      rw [keyForm_space h0 h1 ?_]
      rw [List.all_eq_false] at ht
      obtain ⟨c, hc, hn⟩ := ht
      have h2 := List.all_eq_true.1 h1 c hc
      rw [Bool.or_eq_true] at h2
      rcases h2 with h2 | h2
      · exact absurd h2 hn
      · rw [List.contains_iff_mem, ← eq_of_beq h2]
        exact hc
theorem ExtBut.ext {h h' : Heap} {o : AO} (e : ExtBut h.n (h.new o) h') : Ext h h' :=
  ⟨Nat.le_of_succ_le e.1, fun c hc => (e.2 c (Nat.lt_succ_of_lt hc) (Nat.ne_of_lt hc)).trans (at_new_ne _ _ (Nat.ne_of_lt hc))⟩
theorem canon_hold (l : List UInt8) (u : Bool) (k : Nat) (h : k < l.length) (hp : (canonL u l).take k = l.take k) (hc : (canonL u l)[k]? = some (nth l k)) : (canonL u l).take (k + 1) = l.take (k + 1) := by
  rw [List.take_add_one, List.take_add_one, hp, hc, nth_get h]
set_option maxHeartbeats 2000000 in
theorem CMHK_ok (l : List UInt8) (hl : l.length < 1099511627776) :
    ACall Tryz.prog w0 66 [S l] h (fun v h' => v = S (canonKey l) ∧ Ext h h') := by
  refine ACall.known fun hKn => ?_
  obtain ⟨hN, hB⟩ := hKn
  refine ACall.run noCount mixed Tryz.func66 rfl (by kernel_rfl) (Nat.le_of_ble_eq_true rfl) fun X hX => ?_
  (repeat (first | (simp (disch := first | assumption | omega | (simp only [n_put, n_new, List.length_cons, List.length_nil, List.length_set]; first | done | omega)) only [push_cast, ↓ite_only, M_block, reduceIte, Nat.reduceBEq, Nat.reducePow, Int.reducePow, Nat.reduceEqDiff, Nat.reduceAdd, Nat.reduceSub, Nat.reduceMul, Nat.reduceLT, Nat.reduceLeDiff, Int.reduceEq, Int.reduceNe, Int.reduceLT, Int.reduceLE, Int.reduceAdd, Int.reduceSub, Int.reduceMul, Int.reduceNeg, Int.toNat_natCast]) | ((with_reducible refine And.intro ?_ ?_); focus (first | omega | assumption | (simp only [List.length_append, List.length_replicate, byteVals_length]; first | done | omega)))))
  refine M_loop (fun tm h1 n => ∃ k : Nat, k ≤ l.length ∧ n = l.length - k ∧ Ext h h1 ∧ tget tm 4 = I k ∧ tget tm 0 = S l ∧ tget tm 3 = .bool (flagFrom true l k) ∧ (l.take k).all tokB = true ∧ (canonL true l).take k = l.take k) l.length
    ⟨0, by omega, by omega, .refl _, (by (simp only [tget_cons, Nat.reduceBEq, tsel_true, tsel_false]; first | done | assumption | rfl)), (by (simp only [tget_cons, Nat.reduceBEq, tsel_true, tsel_false]; first | done | assumption | rfl)), (by (simp only [tget_cons, Nat.reduceBEq, tsel_true, tsel_false]; first | done | assumption | rfl)), rfl, rfl⟩ ?_
  rintro tm1 h1 n R ⟨k, hk, rfl, hx, t4, t0, t3, hall, hsame⟩ hR hE
  (repeat (first | (simp (disch := first | assumption | omega | (simp only [n_put, n_new, List.length_cons, List.length_nil, List.length_set]; first | done | omega)) only [push_cast, ↓ite_only, M_block, reduceIte, Nat.reduceBEq, Nat.reducePow, Int.reducePow, Nat.reduceEqDiff, Nat.reduceAdd, Nat.reduceSub, Nat.reduceMul, Nat.reduceLT, Nat.reduceLeDiff, Int.reduceEq, Int.reduceNe, Int.reduceLT, Int.reduceLE, Int.reduceAdd, Int.reduceSub, Int.reduceMul, Int.reduceNeg, Int.toNat_natCast, t4, t3, t0]) | ((with_reducible refine And.intro ?_ ?_); focus (first | omega | assumption | (simp only [List.length_append, List.length_replicate, byteVals_length, t4, t3, t0]; first | done | omega)))))
  repeat' ((with_reducible first | refine condM_dec (fun c => ?_) (fun c => ?_) | refine condM_not (fun c => ?_) (fun c => ?_) | refine oneM_dec (fun c => ?_) (fun c => ?_) | refine oneM_not (fun c => ?_) (fun c => ?_) | refine oneP_dec (fun c => ?_) (fun c => ?_) | refine oneP_not (fun c => ?_) (fun c => ?_)) <;> first | (exfalso; omega) | (try (repeat (first | (simp (disch := first | assumption | omega | (simp only [n_put, n_new, List.length_cons, List.length_nil, List.length_set]; first | done | omega)) only [push_cast, ↓ite_only, M_block, reduceIte, Nat.reduceBEq, Nat.reducePow, Int.reducePow, Nat.reduceEqDiff, Nat.reduceAdd, Nat.reduceSub, Nat.reduceMul, Nat.reduceLT, Nat.reduceLeDiff, Int.reduceEq, Int.reduceNe, Int.reduceLT, Int.reduceLE, Int.reduceAdd, Int.reduceSub, Int.reduceMul, Int.reduceNeg, Int.toNat_natCast, t4, t3, t0, c]) | ((with_reducible refine And.intro ?_ ?_); focus (first | omega | assumption | (simp only [List.length_append, List.length_replicate, byteVals_length, t4, t3, t0, c]; first | done | omega)))))))
  · have hlt : k < l.length := by omega
    refine callM_of (vhfb_ok _) ?_
    rintro v h2 ⟨rfl, hx2⟩
    have hx3 := hx.trans hx2
    have hx1 := hx3.1
    cases hb' : tokB (nth l k) with
    | false =>
      have hbad : l.all tokB = false := by
        rw [List.all_eq_false]
        exact ⟨nth l k, List.mem_of_getElem? (nth_get hlt), by simp [hb']⟩
      (repeat (first | (simp (disch := first | assumption | omega | (simp only [n_put, n_new, List.length_cons, List.length_nil, List.length_set]; first | done | omega)) only [push_cast, ↓ite_only, M_block, reduceIte, Nat.reduceBEq, Nat.reducePow, Int.reducePow, Nat.reduceEqDiff, Nat.reduceAdd, Nat.reduceSub, Nat.reduceMul, Nat.reduceLT, Nat.reduceLeDiff, Int.reduceEq, Int.reduceNe, Int.reduceLT, Int.reduceLE, Int.reduceAdd, Int.reduceSub, Int.reduceMul, Int.reduceNeg, Int.toNat_natCast, t0]) | ((with_reducible refine And.intro ?_ ?_); focus (first | omega | assumption | (simp only [List.length_append, List.length_replicate, byteVals_length, t0]; first | done | omega)))))
      (with_reducible refine hE _ _ _ _ (fun e => nomatch e) ?_)
      (repeat (first | (simp (disch := first | assumption | omega | (simp only [n_put, n_new, List.length_cons, List.length_nil, List.length_set]; first | done | omega)) only [push_cast, ↓ite_only, M_block, reduceIte, Nat.reduceBEq, Nat.reducePow, Int.reducePow, Nat.reduceEqDiff, Nat.reduceAdd, Nat.reduceSub, Nat.reduceMul, Nat.reduceLT, Nat.reduceLeDiff, Int.reduceEq, Int.reduceNe, Int.reduceLT, Int.reduceLE, Int.reduceAdd, Int.reduceSub, Int.reduceMul, Int.reduceNeg, Int.toNat_natCast, t0]) | ((with_reducible refine And.intro ?_ ?_); focus (first | omega | assumption | (simp only [List.length_append, List.length_replicate, byteVals_length, t0]; first | done | omega)))))
      ((with_reducible refine hX _ _ _ (fun j hj => nomatch hj) ?_); simp (disch := first | assumption | omega | (simp only [n_put, n_new, List.length_cons, List.length_nil, List.length_set]; first | done | omega)) only [push_cast, ↓ite_only, M_block, reduceIte, Nat.reduceBEq, Nat.reducePow, Int.reducePow, Nat.reduceEqDiff, Nat.reduceAdd, Nat.reduceSub, Nat.reduceMul, Nat.reduceLT, Nat.reduceLeDiff, Int.reduceEq, Int.reduceNe, Int.reduceLT, Int.reduceLE, Int.reduceAdd, Int.reduceSub, Int.reduceMul, Int.reduceNeg, Int.toNat_natCast, Tryz.results66])
      simp only [canonKey, hbad]
      exact ⟨trivial, hx3⟩
    | true =>
      cases hf : flagFrom true l k <;> rw [hf] at t3
      all_goals (repeat (first | (simp (disch := first | assumption | omega | (simp only [n_put, n_new, List.length_cons, List.length_nil, List.length_set]; first | done | omega)) only [push_cast, ↓ite_only, M_block, reduceIte, Nat.reduceBEq, Nat.reducePow, Int.reducePow, Nat.reduceEqDiff, Nat.reduceAdd, Nat.reduceSub, Nat.reduceMul, Nat.reduceLT, Nat.reduceLeDiff, Int.reduceEq, Int.reduceNe, Int.reduceLT, Int.reduceLE, Int.reduceAdd, Int.reduceSub, Int.reduceMul, Int.reduceNeg, Int.toNat_natCast, t4, t3, t0]) | ((with_reducible refine And.intro ?_ ?_); focus (first | omega | assumption | (simp only [List.length_append, List.length_replicate, byteVals_length, t4, t3, t0]; first | done | omega)))))
      repeat' ((with_reducible first | refine condM_dec (fun c => ?_) (fun c => ?_) | refine condM_not (fun c => ?_) (fun c => ?_) | refine oneM_dec (fun c => ?_) (fun c => ?_) | refine oneM_not (fun c => ?_) (fun c => ?_) | refine oneP_dec (fun c => ?_) (fun c => ?_) | refine oneP_not (fun c => ?_) (fun c => ?_)) <;> first | (exfalso; omega) | (try (repeat (first | (simp (disch := first | assumption | omega | (simp only [n_put, n_new, List.length_cons, List.length_nil, List.length_set]; first | done | omega)) only [push_cast, ↓ite_only, M_block, reduceIte, Nat.reduceBEq, Nat.reducePow, Int.reducePow, Nat.reduceEqDiff, Nat.reduceAdd, Nat.reduceSub, Nat.reduceMul, Nat.reduceLT, Nat.reduceLeDiff, Int.reduceEq, Int.reduceNe, Int.reduceLT, Int.reduceLE, Int.reduceAdd, Int.reduceSub, Int.reduceMul, Int.reduceNeg, Int.toNat_natCast, t4, t3, t0, c]) | ((with_reducible refine And.intro ?_ ?_); focus (first | omega | assumption | (simp only [List.length_append, List.length_replicate, byteVals_length, t4, t3, t0, c]; first | done | omega)))))))
      · intro c1
        refine ⟨hl, ?_⟩
        have hge := room_ge l.length c1
        generalize room l.length c1 = cap at hge
        refine callM_of (cmk_ok l [] (List.replicate (cap - l.length) (.int .u8 0)) h2.n cap cap (cap + 1) (by omega) hl (at_new_eq _ _) (Or.inr (by simp; exact hge))) ?_
        rintro v h4 ⟨rfl, hb4, _⟩
        have hx4 := hx3.trans hb4.ext
        have hfst := keyForm_fst (l := l) (by omega)
        (repeat (first | (simp (disch := first | assumption | omega | (simp only [n_put, n_new, List.length_cons, List.length_nil, List.length_set]; first | done | omega)) only [push_cast, ↓ite_only, M_block, reduceIte, Nat.reduceBEq, Nat.reducePow, Int.reducePow, Nat.reduceEqDiff, Nat.reduceAdd, Nat.reduceSub, Nat.reduceMul, Nat.reduceLT, Nat.reduceLeDiff, Int.reduceEq, Int.reduceNe, Int.reduceLT, Int.reduceLE, Int.reduceAdd, Int.reduceSub, Int.reduceMul, Int.reduceNeg, Int.toNat_natCast]) | ((with_reducible refine And.intro ?_ ?_); focus (first | omega | assumption | (simp only [List.length_append, List.length_replicate, byteVals_length]; first | done | omega)))))
        (with_reducible refine hE _ _ _ _ (fun e => nomatch e) ?_)
        (repeat (first | (simp (disch := first | assumption | omega | (simp only [n_put, n_new, List.length_cons, List.length_nil, List.length_set]; first | done | omega)) only [push_cast, ↓ite_only, M_block, reduceIte, Nat.reduceBEq, Nat.reducePow, Int.reducePow, Nat.reduceEqDiff, Nat.reduceAdd, Nat.reduceSub, Nat.reduceMul, Nat.reduceLT, Nat.reduceLeDiff, Int.reduceEq, Int.reduceNe, Int.reduceLT, Int.reduceLE, Int.reduceAdd, Int.reduceSub, Int.reduceMul, Int.reduceNeg, Int.toNat_natCast]) | ((with_reducible refine And.intro ?_ ?_); focus (first | omega | assumption | (simp only [List.length_append, List.length_replicate, byteVals_length]; first | done | omega)))))
        ((with_reducible refine hX _ _ _ (fun j hj => nomatch hj) ?_); simp (disch := first | assumption | omega | (simp only [n_put, n_new, List.length_cons, List.length_nil, List.length_set]; first | done | omega)) only [push_cast, ↓ite_only, M_block, reduceIte, Nat.reduceBEq, Nat.reducePow, Int.reducePow, Nat.reduceEqDiff, Nat.reduceAdd, Nat.reduceSub, Nat.reduceMul, Nat.reduceLT, Nat.reduceLeDiff, Int.reduceEq, Int.reduceNe, Int.reduceLT, Int.reduceLE, Int.reduceAdd, Int.reduceSub, Int.reduceMul, Int.reduceNeg, Int.toNat_natCast, Tryz.results66])
        rw [hfst]
        exact ⟨rfl, hx4⟩
      · refine hR _ _ (l.length - (k + 1)) (by omega) ⟨k + 1, by omega, rfl, hx3, (by (simp only [tget_cons, Nat.reduceBEq, tsel_true, tsel_false]; first | done | assumption | rfl)), (by (simp only [tget_cons, Nat.reduceBEq, tsel_true, tsel_false]; first | done | assumption | rfl)), ?_, ?_, canon_hold l true k hlt hsame (canon_lo' l k true hlt hf (by omega))⟩
        · simp only [tget_cons, Nat.reduceBEq, tsel_true, tsel_false, flag_next l true]
        · rw [take_snoc l k hlt, List.all_append, hall]
          simp [hb']
      · refine hR _ _ (l.length - (k + 1)) (by omega) ⟨k + 1, by omega, rfl, hx3, (by (simp only [tget_cons, Nat.reduceBEq, tsel_true, tsel_false]; first | done | assumption | rfl)), (by (simp only [tget_cons, Nat.reduceBEq, tsel_true, tsel_false]; first | done | assumption | rfl)), ?_, ?_, canon_hold l true k hlt hsame (canon_lo' l k true hlt hf (by omega))⟩
        · simp only [tget_cons, Nat.reduceBEq, tsel_true, tsel_false, flag_next l true]
        · rw [take_snoc l k hlt, List.all_append, hall]
          simp [hb']
      · intro c1
        refine ⟨hl, ?_⟩
        have hge := room_ge l.length c1
        generalize room l.length c1 = cap at hge
        refine callM_of (cmk_ok l [] (List.replicate (cap - l.length) (.int .u8 0)) h2.n cap cap (cap + 1) (by omega) hl (at_new_eq _ _) (Or.inr (by simp; exact hge))) ?_
        rintro v h4 ⟨rfl, hb4, _⟩
        have hx4 := hx3.trans hb4.ext
        have hfst := keyForm_fst (l := l) (by omega)
        (repeat (first | (simp (disch := first | assumption | omega | (simp only [n_put, n_new, List.length_cons, List.length_nil, List.length_set]; first | done | omega)) only [push_cast, ↓ite_only, M_block, reduceIte, Nat.reduceBEq, Nat.reducePow, Int.reducePow, Nat.reduceEqDiff, Nat.reduceAdd, Nat.reduceSub, Nat.reduceMul, Nat.reduceLT, Nat.reduceLeDiff, Int.reduceEq, Int.reduceNe, Int.reduceLT, Int.reduceLE, Int.reduceAdd, Int.reduceSub, Int.reduceMul, Int.reduceNeg, Int.toNat_natCast]) | ((with_reducible refine And.intro ?_ ?_); focus (first | omega | assumption | (simp only [List.length_append, List.length_replicate, byteVals_length]; first | done | omega)))))
        (with_reducible refine hE _ _ _ _ (fun e => nomatch e) ?_)
        (repeat (first | (simp (disch := first | assumption | omega | (simp only [n_put, n_new, List.length_cons, List.length_nil, List.length_set]; first | done | omega)) only [push_cast, ↓ite_only, M_block, reduceIte, Nat.reduceBEq, Nat.reducePow, Int.reducePow, Nat.reduceEqDiff, Nat.reduceAdd, Nat.reduceSub, Nat.reduceMul, Nat.reduceLT, Nat.reduceLeDiff, Int.reduceEq, Int.reduceNe, Int.reduceLT, Int.reduceLE, Int.reduceAdd, Int.reduceSub, Int.reduceMul, Int.reduceNeg, Int.toNat_natCast]) | ((with_reducible refine And.intro ?_ ?_); focus (first | omega | assumption | (simp only [List.length_append, List.length_replicate, byteVals_length]; first | done | omega)))))
        ((with_reducible refine hX _ _ _ (fun j hj => nomatch hj) ?_); simp (disch := first | assumption | omega | (simp only [n_put, n_new, List.length_cons, List.length_nil, List.length_set]; first | done | omega)) only [push_cast, ↓ite_only, M_block, reduceIte, Nat.reduceBEq, Nat.reducePow, Int.reducePow, Nat.reduceEqDiff, Nat.reduceAdd, Nat.reduceSub, Nat.reduceMul, Nat.reduceLT, Nat.reduceLeDiff, Int.reduceEq, Int.reduceNe, Int.reduceLT, Int.reduceLE, Int.reduceAdd, Int.reduceSub, Int.reduceMul, Int.reduceNeg, Int.toNat_natCast, Tryz.results66])
        rw [hfst]
        exact ⟨rfl, hx4⟩
      · refine hR _ _ (l.length - (k + 1)) (by omega) ⟨k + 1, by omega, rfl, hx3, (by (simp only [tget_cons, Nat.reduceBEq, tsel_true, tsel_false]; first | done | assumption | rfl)), (by (simp only [tget_cons, Nat.reduceBEq, tsel_true, tsel_false]; first | done | assumption | rfl)), ?_, ?_, canon_hold l true k hlt hsame (canon_up' l k true hlt hf (by omega))⟩
        · simp only [tget_cons, Nat.reduceBEq, tsel_true, tsel_false, flag_next l true]
        · rw [take_snoc l k hlt, List.all_append, hall]
          simp [hb']
      · refine hR _ _ (l.length - (k + 1)) (by omega) ⟨k + 1, by omega, rfl, hx3, (by (simp only [tget_cons, Nat.reduceBEq, tsel_true, tsel_false]; first | done | assumption | rfl)), (by (simp only [tget_cons, Nat.reduceBEq, tsel_true, tsel_false]; first | done | assumption | rfl)), ?_, ?_, canon_hold l true k hlt hsame (canon_up' l k true hlt hf (by omega))⟩
        · simp only [tget_cons, Nat.reduceBEq, tsel_true, tsel_false, flag_next l true]
        · rw [take_snoc l k hlt, List.all_append, hall]
          simp [hb']
  · have hke : k = l.length := by omega
    subst hke
    (with_reducible refine hE _ _ _ _ (fun e => nomatch e) ?_)
    (repeat (first | (simp (disch := first | assumption | omega | (simp only [n_put, n_new, List.length_cons, List.length_nil, List.length_set]; first | done | omega)) only [push_cast, ↓ite_only, M_block, reduceIte, Nat.reduceBEq, Nat.reducePow, Int.reducePow, Nat.reduceEqDiff, Nat.reduceAdd, Nat.reduceSub, Nat.reduceMul, Nat.reduceLT, Nat.reduceLeDiff, Int.reduceEq, Int.reduceNe, Int.reduceLT, Int.reduceLE, Int.reduceAdd, Int.reduceSub, Int.reduceMul, Int.reduceNeg, Int.toNat_natCast, t0]) | ((with_reducible refine And.intro ?_ ?_); focus (first | omega | assumption | (simp only [List.length_append, List.length_replicate, byteVals_length, t0]; first | done | omega)))))
    ((with_reducible refine hX _ _ _ (fun j hj => nomatch hj) ?_); simp (disch := first | assumption | omega | (simp only [n_put, n_new, List.length_cons, List.length_nil, List.length_set]; first | done | omega)) only [push_cast, ↓ite_only, M_block, reduceIte, Nat.reduceBEq, Nat.reducePow, Int.reducePow, Nat.reduceEqDiff, Nat.reduceAdd, Nat.reduceSub, Nat.reduceMul, Nat.reduceLT, Nat.reduceLeDiff, Int.reduceEq, Int.reduceNe, Int.reduceLT, Int.reduceLE, Int.reduceAdd, Int.reduceSub, Int.reduceMul, Int.reduceNeg, Int.toNat_natCast, Tryz.results66])
    rw [List.take_length] at hall
    simp only [canonKey, hall]
    rw [← canon_len l true, List.take_length, canon_len, List.take_length] at hsame
    rw [hsame]
    exact ⟨rfl, hx⟩
theorem CHK_ok (l : List UInt8) (hl : l.length < 1099511627776) :
    ACall Tryz.prog w0 32 [S l] h (fun v h' => v = S (canonKey l) ∧ Ext h h') := by
  refine ACall.known fun hKn => ?_
  obtain ⟨hN, hB⟩ := hKn
  refine ACall.run noCount mixed Tryz.func32 rfl (by kernel_rfl) (Nat.le_of_ble_eq_true rfl) fun X hX => ?_
  (repeat (first | (simp (disch := first | assumption | omega | (simp only [n_put, n_new, List.length_cons, List.length_nil, List.length_set]; first | done | omega)) only [push_cast, ↓ite_only, M_block, reduceIte, Nat.reduceBEq, Nat.reducePow, Int.reducePow, Nat.reduceEqDiff, Nat.reduceAdd, Nat.reduceSub, Nat.reduceMul, Nat.reduceLT, Nat.reduceLeDiff, Int.reduceEq, Int.reduceNe, Int.reduceLT, Int.reduceLE, Int.reduceAdd, Int.reduceSub, Int.reduceMul, Int.reduceNeg, Int.toNat_natCast]) | ((with_reducible refine And.intro ?_ ?_); focus (first | omega | assumption | (simp only [List.length_append, List.length_replicate, byteVals_length]; first | done | omega)))))
  refine callM_of (CMHK_ok l hl) ?_
  rintro v h2 ⟨rfl, hx2⟩
  (repeat (first | (simp (disch := first | assumption | omega | (simp only [n_put, n_new, List.length_cons, List.length_nil, List.length_set]; first | done | omega)) only [push_cast, ↓ite_only, M_block, reduceIte, Nat.reduceBEq, Nat.reducePow, Int.reducePow, Nat.reduceEqDiff, Nat.reduceAdd, Nat.reduceSub, Nat.reduceMul, Nat.reduceLT, Nat.reduceLeDiff, Int.reduceEq, Int.reduceNe, Int.reduceLT, Int.reduceLE, Int.reduceAdd, Int.reduceSub, Int.reduceMul, Int.reduceNeg, Int.toNat_natCast]) | ((with_reducible refine And.intro ?_ ?_); focus (first | omega | assumption | (simp only [List.length_append, List.length_replicate, byteVals_length]; first | done | omega)))))
  ((with_reducible refine hX _ _ _ (fun j hj => nomatch hj) ?_); simp (disch := first | assumption | omega | (simp only [n_put, n_new, List.length_cons, List.length_nil, List.length_set]; first | done | omega)) only [push_cast, ↓ite_only, M_block, reduceIte, Nat.reduceBEq, Nat.reducePow, Int.reducePow, Nat.reduceEqDiff, Nat.reduceAdd, Nat.reduceSub, Nat.reduceMul, Nat.reduceLT, Nat.reduceLeDiff, Int.reduceEq, Int.reduceNe, Int.reduceLT, Int.reduceLE, Int.reduceAdd, Int.reduceSub, Int.reduceMul, Int.reduceNeg, Int.toNat_natCast, Tryz.results32])
  exact hx2
theorem implCanonical_ok (l : List UInt8) (hl : l.length < 1099511627776) :
    ACall Tryz.prog w0 14 [S l] h (fun v h' => v = S (canonKey l) ∧ Ext h h') := by
  refine ACall.known fun hKn => ?_
  obtain ⟨hN, hB⟩ := hKn
  refine ACall.run noCount mixed Tryz.func14 rfl (by kernel_rfl) (Nat.le_of_ble_eq_true rfl) fun X hX => ?_
  (repeat (first | (simp (disch := first | assumption | omega | (simp only [n_put, n_new, List.length_cons, List.length_nil, List.length_set]; first | done | omega)) only [push_cast, ↓ite_only, M_block, reduceIte, Nat.reduceBEq, Nat.reducePow, Int.reducePow, Nat.reduceEqDiff, Nat.reduceAdd, Nat.reduceSub, Nat.reduceMul, Nat.reduceLT, Nat.reduceLeDiff, Int.reduceEq, Int.reduceNe, Int.reduceLT, Int.reduceLE, Int.reduceAdd, Int.reduceSub, Int.reduceMul, Int.reduceNeg, Int.toNat_natCast]) | ((with_reducible refine And.intro ?_ ?_); focus (first | omega | assumption | (simp only [List.length_append, List.length_replicate, byteVals_length]; first | done | omega)))))
  refine callM_of (CHK_ok l hl) ?_
  rintro v h2 ⟨rfl, hx2⟩
  (repeat (first | (simp (disch := first | assumption | omega | (simp only [n_put, n_new, List.length_cons, List.length_nil, List.length_set]; first | done | omega)) only [push_cast, ↓ite_only, M_block, reduceIte, Nat.reduceBEq, Nat.reducePow, Int.reducePow, Nat.reduceEqDiff, Nat.reduceAdd, Nat.reduceSub, Nat.reduceMul, Nat.reduceLT, Nat.reduceLeDiff, Int.reduceEq, Int.reduceNe, Int.reduceLT, Int.reduceLE, Int.reduceAdd, Int.reduceSub, Int.reduceMul, Int.reduceNeg, Int.toNat_natCast]) | ((with_reducible refine And.intro ?_ ?_); focus (first | omega | assumption | (simp only [List.length_append, List.length_replicate, byteVals_length]; first | done | omega)))))
  ((with_reducible refine hX _ _ _ (fun j hj => nomatch hj) ?_); simp (disch := first | assumption | omega | (simp only [n_put, n_new, List.length_cons, List.length_nil, List.length_set]; first | done | omega)) only [push_cast, ↓ite_only, M_block, reduceIte, Nat.reduceBEq, Nat.reducePow, Int.reducePow, Nat.reduceEqDiff, Nat.reduceAdd, Nat.reduceSub, Nat.reduceMul, Nat.reduceLT, Nat.reduceLeDiff, Int.reduceEq, Int.reduceNe, Int.reduceLT, Int.reduceLE, Int.reduceAdd, Int.reduceSub, Int.reduceMul, Int.reduceNeg, Int.toNat_natCast, Tryz.results14])
  exact hx2
end Go.Proofs.YtbjaapiliegegaaGreatDoor.Sy
