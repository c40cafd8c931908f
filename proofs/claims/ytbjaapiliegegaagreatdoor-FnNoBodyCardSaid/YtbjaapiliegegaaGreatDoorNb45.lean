/- Of the proof of FnNoBody: SgM SgN RowA NbA. -/
import Derived.Test.YtbjaapiliegegaaGreatDoorNb43
import Derived.Test.YtbjaapiliegegaaGreatDoorNb44
import Derived.Test.YtbjaapiliegegaaGreatDoorRows
import Derived.ProofKit
import Derived.LaidMore
import Derived.OpenShut
import Derived.Stop.Joined
import Derived.Stop.LaidErr
import Derived.SevenTiedAt
import Derived.Test.YtbjaapiliegegaaGreatDoorNb09
import Derived.Deep.Slices
import Derived.Deep.Fields
set_option linter.unusedVariables false
set_option linter.unusedSimpArgs false
section
namespace Go.Proofs.YtbjaapiliegegaaGreatDoor.Sy
open Go
set_option maxRecDepth 100000
variable {w0 : World} {h : Heap}
theorem headV_zero {cds lns cns prs trs : List Str} {minor : Int} (h0 : headV cds lns cns prs trs minor = 0) : ¬TooMany cds lns cns prs minor ∧ (lns.length = 1 → (numberL (snth lns 0)).2 = true) := by
 unfold headV at h0
 by_cases h1 : TooMany cds lns cns prs minor
 ·rw [decide_eq_true h1] at h0; cases h0
 refine ⟨h1, fun hl => ?_⟩
 rw [decide_eq_false h1] at h0
 cases h2 : (listedL cns sClose && listedL cns sKeep) with
 | true => rw [h2] at h0; cases h0
 | false =>
  rw [h2] at h0
  cases h3 : (decide (cds.length = 1) && !sameL ((snth cds 0).map lowB') sChunked) with
  | true => rw [h3] at h0; cases h0
  | false =>
   rw [h3] at h0
   cases h4 : (numberL (snth lns 0)).2 with
   | true => rfl
   | false =>
    rw [h4, decide_eq_true hl] at h0
    simp only [Bool.not_false, Bool.and_true] at h0
    split at h0 <;> cases h0
theorem plain_none {meth l : Str} {rest : Int} (hv : headV (valsL (respFs l) sTE) (valsL (respFs l) sCL) (valsL (respFs l) sCo) (valsL (respFs l) sPr) (valsL (respFs l) sTr) rest = 0) (hc : ¬(valsL (respFs l) sTE).length = 1) (hn : noneR meth (respCode l)) (h100 : 100 ≤ respCode l) :
  valsL (respFs l) sPr = [] ∧ valsL (respFs l) sTE = [] ∧ (valsL (respFs l) sCL).length ≤ 1 ∧ (∀ x, (valsL (respFs l) sCL).head? = some x → NumS x) ∧ flenL true (respCode l) meth false (valsL (respFs l) sCL) = 0 := by
 obtain ⟨h1, h2⟩ := headV_zero hv
 unfold TooMany at h1
 have hcl : (valsL (respFs l) sCL).length ≤ 1 := by omega
 refine ⟨List.eq_nil_of_length_eq_zero (by omega), List.eq_nil_of_length_eq_zero (by omega), hcl, fun x hx => ?_, ?_⟩
 ·match hq : valsL (respFs l) sCL, hx, hcl with
  | [y], hx, _ =>
   cases hx
   rw [hq] at h2
   obtain ⟨g1, g2, g3, _⟩ := number_figs (h2 rfl)
   exact ⟨g1, g2, g3⟩
 ·unfold flenL
  by_cases hm : meth = sHead
  ·rw [show sameL meth sHEAD = true from sameL_true hm]
   rfl
  ·have hs : sameL meth sHEAD = false := sameL_false hm
   have hd : (decide (respCode l / 100 = 1) || (decide (respCode l = 204) || decide (respCode l = 304))) = true := by
    rcases hn with h | h | h | h
    ·exact absurd h hm
    ·rw [decide_eq_true (by omega)]; rfl
    ·rw [h]; decide
    ·rw [h]; decide
   rw [hs, hd]
   rfl
theorem split_sp {a A y Y : Str} (e : a ++ 32 :: y = A ++ 32 :: Y) (ha : a.all noSp = true) (hA : A.all noSp = true) : a = A ∧ y = Y := by
 have h1 := cut_at (z := y) ha
 rw [e, cut_at hA] at h1
 simp only [Prod.mk.injEq, and_true] at h1
 exact ⟨h1.1.symm, h1.2.symm⟩
theorem digB {n : Nat} (h : n < 10) : (UInt8.ofNat (48 + n)).toNat = 48 + n := by rw [UInt8.toNat_ofNat']; omega
theorem decL_fig (n : Nat) : (decL n).all figB = true := by
 induction n using Nat.strongRecOn with
 | ind n ih =>
  by_cases h : n < 10
  ·rw [decL_small h]
   simp [figB, digB h]
   omega
  ·rw [decL_big h, List.all_append, ih (n / 10) (by omega)]
   have := digB (n := n % 10) (by omega)
   simp [figB, this]
   omega
theorem decN_decL (n : Nat) : decN (decL n) = n := by
 induction n using Nat.strongRecOn with
 | ind n ih =>
  by_cases h : n < 10
  ·rw [decL_small h]
   simp only [decN, List.foldl_cons, List.foldl_nil, digB h]
   omega
  ·have e : decN (decL (n / 10) ++ [UInt8.ofNat (48 + n % 10)]) = 10 * decN (decL (n / 10)) + ((UInt8.ofNat (48 + n % 10)).toNat - 48) := by
    simp [decN]
   rw [decL_big h, e, ih (n / 10) (by omega), digB (by omega)]
   omega
theorem fig_noSp {l : Str} (h : l.all figB = true) : l.all noSp = true := by
 rw [List.all_eq_true] at h ⊢
 intro c hc
 have := fig_sp (h c hc)
 unfold isSp at this
 unfold noSp
 simpa using this
theorem code_of {l a b c : Str} {m maj min code : Nat} {reason : Str} {fs : List Fld} {bh : Str} (F : Fine1 l a b c m) (hl : l = headL maj min code reason fs ++ bh) : decN b = code := by
 obtain ⟨hitr, hlo, hat0, hs, hp0, h13⟩ := line_some F.line
 obtain ⟨hsp, hna, hnb⟩ := parts_split F.parts
 have hl1 : l = (lineL l).1 ++ l.drop (idxL l 10 - 1) := by
  conv => lhs; rw [← List.take_append_drop (idxL l 10 - 1) l]
  rw [← hs]
 rw [hsp] at hl1
 have hA : ([72, 84, 84, 80, 47] ++ (decL maj ++ (46 :: decL min)) : Str).all noSp = true := by
  simp only [List.all_append, List.all_cons, List.all_nil, fig_noSp (decL_fig maj), fig_noSp (decL_fig min)]
  decide
 have hl2 : l = ([72, 84, 84, 80, 47] ++ (decL maj ++ (46 :: decL min))) ++ 32 :: (decL code ++ 32 :: (reason ++ ([13, 10] ++ (linesF fs ++ ([13, 10] ++ bh))))) := by
  rw [hl]
  simp [headL, firstL]
 have e1 : a ++ 32 :: (b ++ 32 :: (c ++ l.drop (idxL l 10 - 1))) = ([72, 84, 84, 80, 47] ++ (decL maj ++ (46 :: decL min))) ++ 32 :: (decL code ++ 32 :: (reason ++ ([13, 10] ++ (linesF fs ++ ([13, 10] ++ bh))))) := by
  rw [← hl2]
  conv => rhs; rw [hl1]
  simp
 obtain ⟨_, e2⟩ := split_sp e1 hna hA
 obtain ⟨e3, _⟩ := split_sp e2 hnb (fig_noSp (decL_fig code))
 rw [e3, decN_decL]
theorem headL_len {maj min code : Nat} {reason : Str} {fs : List Fld} (g1 : maj ≤ 9) (g2 : min ≤ 9) (g3 : code ≤ 999) (g4 : reason.length ≤ 5000) (g5 : sumF fs ≤ 5000) (g6 : fs.length ≤ 40) : (headL maj min code reason fs).length ≤ 20000 := by
 have l1 := decL_len maj
 have l2 := decL_len min
 have l3 := decL_len code
 have h1 := linesF_len fs
 unfold headL firstL
 simp only [List.length_append, List.length_cons, List.length_nil]
 omega
end Go.Proofs.YtbjaapiliegegaaGreatDoor.Sy
end
section
namespace Go.Proofs.YtbjaapiliegegaaGreatDoor.Sy
open Go
set_option maxRecDepth 100000
variable {w0 : World} {h : Heap}
set_option maxHeartbeats 16000000 in
theorem FnNoBody_ok (hR : Ready w0) (meth target reason : Str) (code maj min : Int) (fv tv bv : Value) (ba : Option Addr) (bn bc : Nat) (fs ts : List Fld) (bh : Str) (hf : FD h fv fs) (ht : FD h tv ts) (hb : BD h bv bh) :
    ACall Tryz.prog w0 5 [.agg #[S meth, S target, I code, S reason, I maj, I min, fv, .slice ba bn bc, tv], bv] h (fun v h' => v = .bool true ∧ Ext h h') := by
  obtain ⟨fa, fc, rfl⟩ := hf.len
  obtain ⟨ta, tc, rfl⟩ := ht.len
  obtain ⟨bva, bvc, rfl⟩ := hb.len
  refine ACall.known fun hKn => ?_
  obtain ⟨hN, hB⟩ := hKn
  refine ACall.run noCount mixed Tryz.func5 rfl (by kernel_rfl) (Nat.le_of_ble_eq_true rfl) fun X hX => ?_
  (repeat simp only[push_cast,go_sem_proc,↓ite_only,M_block])
  generalize hhe : Heap.new h _ = h1
  have x1 : Ext h h1 := by rw [← hhe]; exact Keep.ext (by repeat (first | exact Keep.refl _ _ | assumption | refine Keep.put ?_ (by first | (left; simp; done) | (right; omega)) _ | refine Keep.new ?_ _))
  have n1 : h1.n = h.n + 1 := by rw [← hhe]; rfl
  have m1 : h1.at h.n = some (.cells [S meth, S target, I code, S reason, I maj, I min, .slice fa fs.length fc, .slice ba bn bc, .slice ta ts.length tc] 31 0 0) := by rw [← hhe]; exact at_new_eq _ _
  clear hhe
  refine callM_of (fits1_ok meth target code reason maj min _ _ ba bn bc fs ts (hf.ext hB x1) (ht.ext hB x1)) ?_
  rintro u h2 ⟨⟨b1, rfl, hfit⟩, x2⟩
  have m2 := (x2.2 h.n (by omega)).trans m1
  have n2 := x2.1
  cases b1 with
  | false =>
    (repeat simp only[push_cast,go_sem_proc,↓ite_only,M_block])
    ((with_reducible refine hX _ _ _ (fun j hj => nomatch hj) ?_); simp only[push_cast,go_sem_proc,↓ite_only,M_block,Tryz.results5])
    exact x1.trans x2
  | true =>
  obtain ⟨g1, g2, g3, g4, g5, g6, g7⟩ := hfit rfl
  by_cases hbl : 2147483647 < bh.length
  · have d1 : decide ((2147483647 : Int) < (bh.length : Int)) = true := decide_eq_true (by omega)
    (repeat simp only[push_cast,go_sem_proc,↓ite_only,M_block,d1])
    ((with_reducible refine hX _ _ _ (fun j hj => nomatch hj) ?_); simp only[push_cast,go_sem_proc,↓ite_only,M_block,Tryz.results5])
    exact x1.trans x2
  have d1 : decide ((2147483647 : Int) < (bh.length : Int)) = false := decide_eq_false (by omega)
  (repeat(first|(simp(disch:=first|omega|(simp only[zN];omega))only[push_cast,go_sem_proc,↓ite_only,M_block,d1, m2])|(with_reducible refine⟨by omega,?_⟩)))
  generalize hhe : Heap.put h2 h.n _ = h3
  have x3 : Ext h h3 := by rw [← hhe]; exact Keep.ext (Keep.put ((x1.trans x2).keep []) (.inr (Nat.le_refl _)) _)
  have n3 : h3.n = h2.n := by rw [← hhe]; rfl
  have m3 : h3.at h.n = some (.cells [S [], S target, I code, S reason, I maj, I min, .slice fa fs.length fc, .slice ba bn bc, .slice ta ts.length tc] 31 0 0) := by rw [← hhe]; exact at_put_eq _ _ _
  clear hhe
  refine callM_of (small_ok [] target code reason maj min _ _ ba bn bc fs ts (hf.ext hB x3) (ht.ext hB x3) (by simp) g1 g2 g3 g4 g5 g6 g7) ?_
  rintro u h4 ⟨⟨b2, rfl, hsm⟩, x4⟩
  have m4 := (x4.2 h.n (by omega)).trans m3
  have n4 := x4.1
  have x04 := x3.trans x4
  cases b2 with
  | false =>
    (repeat simp only[push_cast,go_sem_proc,↓ite_only,M_block])
    refine callM_of (works_ok hR) ?_
    rintro v h5 ⟨rfl, x5⟩
    (repeat simp only[push_cast,go_sem_proc,↓ite_only,M_block])
    ((with_reducible refine hX _ _ _ (fun j hj => nomatch hj) ?_); simp only[push_cast,go_sem_proc,↓ite_only,M_block,Tryz.results5])
    exact x04.trans x5
  | true =>
  obtain ⟨s1, s2, s3, s4, s5, s6, s7, s8, s9⟩ := hsm rfl
  by_cases hb2 : 200 < bh.length
  · have d2 : decide ((200 : Int) < (bh.length : Int)) = true := decide_eq_true (by omega)
    (repeat simp only[push_cast,go_sem_proc,↓ite_only,M_block,d2])
    refine callM_of (works_ok hR) ?_
    rintro v h5 ⟨rfl, x5⟩
    (repeat simp only[push_cast,go_sem_proc,↓ite_only,M_block])
    ((with_reducible refine hX _ _ _ (fun j hj => nomatch hj) ?_); simp only[push_cast,go_sem_proc,↓ite_only,M_block,Tryz.results5])
    exact x04.trans x5
  have d2 : decide ((200 : Int) < (bh.length : Int)) = false := decide_eq_false (by omega)
  obtain ⟨mj, rfl⟩ := Int.eq_ofNat_of_zero_le s4
  obtain ⟨mn, rfl⟩ := Int.eq_ofNat_of_zero_le s6
  obtain ⟨cd, rfl⟩ := Int.eq_ofNat_of_zero_le s8
  rw [sumF_app] at s1
  simp only [List.length_nil] at s1
  (repeat simp only[push_cast,go_sem_proc,↓ite_only,M_block,d2, m4])
  refine callM_of (head_ok target reason cd mj mn _ _ ba bn bc fs (hf.ext hB x04) (by omega) (by omega) (by omega) (by omega) (by omega) s2 rfl) ?_
  rintro u h5 ⟨bt, x5⟩
  have m5 := (x5.2 h.n (by omega)).trans m4
  have n5 := x5.1
  have x05 := x04.trans x5
  have hhl := headL_len (maj := mj) (min := mn) (code := cd) (reason := reason) (fs := fs) (by omega) (by omega) (by omega) (by omega) (by omega) s2
  obtain ⟨ua, uc, rfl⟩ := bt.own.data.len
  (repeat simp only[push_cast,go_sem_proc,↓ite_only,M_block])
  intro c1
  obtain ⟨v6, h6, e6, r6, n6, hold6, _⟩ := app_read (c := c1) (N := w0.heap.size) bt (by omega) (by omega) (hb.ext hB x05) (by omega)
  rw [e6]
  obtain ⟨l, hl⟩ : ∃ l, headL mj mn cd reason fs ++ bh = l := ⟨_, rfl⟩
  rw [hl] at r6
  have hll : l.length < 1000000 := by rw [← hl, List.length_append]; omega
  obtain ⟨va, vc, rfl⟩ := r6.own.data.len
  have x06 : Ext h h6 := ⟨by omega, fun i hi => (hold6 i (by omega) (Row.off bt (by omega))).trans (x05.2 i hi)⟩
  have m6 := (hold6 h.n (by omega) (Row.off bt (by omega))).trans m5
  have hd6 := r6.own.data
  have hdo6 : ∀ b, InB b (.slice va l.length vc) → b < h6.n := by
    intro b hb'
    rcases r6 with ⟨hv, _⟩ | ⟨d, cp', rest', hv, _, hd, _⟩
    · injection hv with q1 q2 q3
      subst q1
      exact hb'.elim
    · injection hv with q1 q2 q3
      subst q1
      have : d = b := hb'
      omega
  have hfour : (decide ((cd : Int) < 200) = true ∧ noneR [71, 69, 84] cd) ∨ (decide ((cd : Int) < 200) = false ∧ decide ((cd : Int) = 204) = true ∧ noneR [71, 69, 84] cd) ∨ (decide ((cd : Int) < 200) = false ∧ decide ((cd : Int) = 204) = false ∧ decide ((cd : Int) = 304) = true ∧ noneR [71, 69, 84] cd) ∨
      (decide ((cd : Int) < 200) = false ∧ decide ((cd : Int) = 204) = false ∧ decide ((cd : Int) = 304) = false ∧ True ∧ noneR sHead cd) := by
    by_cases q1 : cd < 200
    · exact .inl ⟨decide_eq_true (by omega), .inr (.inl q1)⟩
    have e1 : decide ((cd : Int) < 200) = false := decide_eq_false (by omega)
    by_cases q2 : cd = 204
    · exact .inr (.inl ⟨e1, decide_eq_true (by omega), .inr (.inr (.inl q2))⟩)
    have e2 : decide ((cd : Int) = 204) = false := decide_eq_false (by omega)
    by_cases q3 : cd = 304
    · exact .inr (.inr (.inl ⟨e1, e2, decide_eq_true (by omega), .inr (.inr (.inr q3))⟩))
    exact .inr (.inr (.inr ⟨e1, e2, decide_eq_false (by omega), trivial, .inl rfl⟩))
  rcases hfour with ⟨f1, hn⟩ | ⟨f1, f2, hn⟩ | ⟨f1, f2, f3, hn⟩ | ⟨f1, f2, f3, f4, hn⟩
  all_goals first
  | (have := f4
     obtain ⟨mt, hmE, hmN, hm0⟩ : ∃ mt : Str, mt = [72, 69, 65, 68] ∧ noneR mt cd ∧ mt ≠ [] := ⟨_, rfl, hn, by simp⟩
     (repeat simp(disch:=omega)only[push_cast,go_sem_proc,↓ite_only,M_block,m6, f1, f2, f3])
     rw [show (Value.string ⟨#[72, 69, 65, 68]⟩) = S mt by rw [hmE]])
  | (have := f3
     obtain ⟨mt, hmE, hmN, hm0⟩ : ∃ mt : Str, mt = [71, 69, 84] ∧ noneR mt cd ∧ mt ≠ [] := ⟨_, rfl, hn, by simp⟩
     (repeat simp(disch:=omega)only[push_cast,go_sem_proc,↓ite_only,M_block,m6, f1, f2, f3])
     rw [show (Value.string ⟨#[71, 69, 84]⟩) = S mt by rw [hmE]])
  | (have := f2
     obtain ⟨mt, hmE, hmN, hm0⟩ : ∃ mt : Str, mt = [71, 69, 84] ∧ noneR mt cd ∧ mt ≠ [] := ⟨_, rfl, hn, by simp⟩
     (repeat simp(disch:=omega)only[push_cast,go_sem_proc,↓ite_only,M_block,m6, f1, f2])
     rw [show (Value.string ⟨#[71, 69, 84]⟩) = S mt by rw [hmE]])
  | (have := f1
     obtain ⟨mt, hmE, hmN, hm0⟩ : ∃ mt : Str, mt = [71, 69, 84] ∧ noneR mt cd ∧ mt ≠ [] := ⟨_, rfl, hn, by simp⟩
     (repeat simp(disch:=omega)only[push_cast,go_sem_proc,↓ite_only,M_block,m6, f1])
     rw [show (Value.string ⟨#[71, 69, 84]⟩) = S mt by rw [hmE]])
  all_goals
    have hcode : respV mt l = 0 → respCode l = cd := fun e => by
      obtain ⟨a, b, c, m, F⟩ := fine1_of e
      have h1 := code_of F hl.symm
      unfold respCode
      rw [F.parts]
      exact F.num.trans h1
    have hml : mt.length < 1000000000 := by rw [hmE]; simp
    refine callM_of (response_ok mt l _ hll hml hd6 hdo6 (fun e => by rw [hcode e]; exact hmN)) ?_
    rintro u h7 ⟨rd, vd, rfl, x7, hend, sg1, sg2, sg3⟩
    have n7 := x7.1
    have x07 := x06.trans x7
    have m7 := (x7.2 h.n (by omega)).trans m6
    by_cases hvd : vd = 0
    rotate_left
    · have d5 : decide ((vd : Int) = 0) = false := decide_eq_false (by omega)
      (repeat simp(disch:=decide)only[push_cast,go_sem_proc,↓ite_only,M_block,Rd.val, Rd.cells, d5])
      refine ⟨⟨by omega, sg1, sg2, sg3⟩, ?_⟩
      refine callM_of (works_ok hR) ?_
      rintro v h8 ⟨rfl, x8⟩
      (repeat simp only[push_cast,go_sem_proc,↓ite_only,M_block])
      ((with_reducible refine hX _ _ _ (fun j hj => nomatch hj) ?_); simp only[push_cast,go_sem_proc,↓ite_only,M_block,Tryz.results5])
      exact (x07.trans (Keep.ext (by repeat (first | exact Keep.refl _ _ | assumption | refine Keep.put ?_ (by first | (left; simp; done) | (right; omega)) _ | refine Keep.new ?_ _)))).trans x8
    subst hvd
    have hrv : respV mt l = 0 := by
      refine Classical.byContradiction fun hne => ?_
      have := hend.1 hne
      exact hne this.symm
    obtain ⟨sv, t1, t2, t3⟩ := hend.2 hrv
    have hv0 : headV (valsL (respFs l) sTE) (valsL (respFs l) sCL) (valsL (respFs l) sCo) (valsL (respFs l) sPr) (valsL (respFs l) sTr) (respM l sv).minor = 0 := Classical.byContradiction fun hne => hne (t1 hne).symm
    have hc1 : ¬(valsL (respFs l) sTE).length = 1 := fun e => by have := t2 hv0 e; omega
    obtain ⟨_, hrd, lo4, _⟩ := t3 hv0 hc1
    have hrest : rd.rest = (l.length : Int) - respAt l := congrArg Rd.rest hrd
    have hrcode : rd.code = (cd : Int) := (congrArg Rd.code hrd).trans (by show ((respCode l : Nat) : Int) = _; rw [hcode hrv])
    have hat : respAt l ≤ l.length := by
      have h1 := line_le l
      have h2 := fields_take (l.drop (lineL l).2.2)
      rw [List.length_drop] at h2
      unfold respAt
      omega
    obtain ⟨a, b, c, m, F⟩ := fine1_of hrv
    have hdec : decN b = cd := code_of F hl.symm
    have hrc : respCode l = decN b := by unfold respCode; rw [F.parts]; exact F.num
    obtain ⟨p1, p2, p3, p4, p5⟩ := plain_none (meth := mt) hv0 hc1 (by rw [hcode hrv]; exact hmN) (by rw [hrc]; exact F.n100)
    rw [hrc] at p5
    by_cases hr : rd.rest = (bh.length : Int)
    rotate_left
    · have d6 : decide (rd.rest = (bh.length : Int)) = false := decide_eq_false hr
      (repeat simp(disch:=first|omega|decide)only[push_cast,go_sem_proc,↓ite_only,M_block,Rd.val, Rd.cells, d6])
      refine ⟨⟨by omega, sg1, sg2, sg3⟩, ?_⟩
      refine callM_of (works_ok hR) ?_
      rintro v h8 ⟨rfl, x8⟩
      (repeat simp only[push_cast,go_sem_proc,↓ite_only,M_block])
      ((with_reducible refine hX _ _ _ (fun j hj => nomatch hj) ?_); simp only[push_cast,go_sem_proc,↓ite_only,M_block,Tryz.results5])
      exact (x07.trans (Keep.ext (by repeat (first | exact Keep.refl _ _ | assumption | refine Keep.put ?_ (by first | (left; simp; done) | (right; omega)) _ | refine Keep.new ?_ _)))).trans x8
    have d6 : decide (rd.rest = (bh.length : Int)) = true := decide_eq_true hr
    (repeat simp(disch:=first|omega|decide)only[push_cast,go_sem_proc,↓ite_only,M_block,Rd.val, Rd.cells, d6])
    refine ⟨⟨by omega, sg1, sg2, sg3⟩, ?_⟩
    generalize hhe : Heap.put _ h7.n _ = h8
    have x8 : Ext h7 h8 := by rw [← hhe]; exact Keep.ext (by repeat (first | exact Keep.refl _ _ | assumption | refine Keep.put ?_ (by first | (left; simp; done) | (right; omega)) _ | refine Keep.new ?_ _))
    have n8 : h8.n = h7.n + 1 := by rw [← hhe]; rfl
    have r8 : h8.at h7.n = some (.cells rd.cells 35 0 0) := by rw [← hhe]; exact at_put_eq _ _ _
    clear hhe
    unfold Rd.cells at r8
    have hd8 : Data h8 (.slice va l.length vc) l := hd6.keep (fun d ⟨o, ho⟩ hd => by
      have := hdo6 d hd
      exact (x8.2 d (by omega)).trans (x7.2 d this))
    refine callM_of (impl_none_ok hd8 F hm0 p1 p2 p3 p4 p5 hll) ?_
    rintro u h9 ⟨fv, len, ba', bcp', rfl, x9, ff⟩
    have n9 := x9.1
    have r9 := (x9.2 h7.n (by omega)).trans r8
    obtain ⟨fva, fvc, rfl⟩ := Row.len ff
    have d7 : decide (((l.length - respAt l : Nat) : Int) = (bh.length : Int)) = true := decide_eq_true (by omega)
    have d8 : decide ((decN b : Int) = rd.code) = true := decide_eq_true (by rw [hrcode, hdec])
    obtain ⟨nr, hnr⟩ : ∃ k : Nat, l.length - respAt l = k := ⟨_, rfl⟩
    rw [hnr] at d7 ⊢
    (repeat(first|(simp(disch:=first|omega|decide)only[push_cast,go_sem_proc,↓ite_only,M_block,r9, d7, d8])|(with_reducible refine⟨by omega,?_⟩)))
    refine callM_of (works_ok hR) ?_
    rintro v h10 ⟨rfl, x10⟩
    (repeat simp only[push_cast,go_sem_proc,↓ite_only,M_block])
    ((with_reducible refine hX _ _ _ (fun j hj => nomatch hj) ?_); simp only[push_cast,go_sem_proc,↓ite_only,M_block,Tryz.results5])
    exact ((x07.trans (x8.trans x9)).trans (Keep.ext (by repeat (first | exact Keep.refl _ _ | assumption | refine Keep.put ?_ (by first | (left; simp; done) | (right; omega)) _ | refine Keep.new ?_ _)))).trans x10
end Go.Proofs.YtbjaapiliegegaaGreatDoor.Sy
end
section
namespace Go.Proofs.YtbjaapiliegegaaGreatDoor.Sy
open Go Go.ChangeShapes Go.WideShapes Go.ChangeAt Go.WideElems Go.RowKit
theorem laid_mem {P : Program} {w : World} : ∀ {l : List (String × DataW Unit)} {ps : List MemPlace} {n : String} {d : DataW Unit}, DataW.LaidVars P w l ps → (n, d) ∈ l →
  ∃ g t cs fuel p, P.globalNamed n = some g ∧ (P.globals[g]?).map (·.type) = some t ∧ w.var? P n = some cs ∧ DataW.trod (fun _ => ()) P w 0 (fun _ => true) false fuel t cs.toList = some (d, p)
 | [], _, _, _, _, hm => by cases hm
 | (n', d') :: l, ps, n, d, ⟨g, t, cs, fuel, p, q, h1, h2, h3, h4, hr, _⟩, hm => by
  rcases List.mem_cons.1 hm with e | hm
  ·cases e
   exact ⟨g, t, cs, fuel, p, h1, h2, h3, h4⟩
  ·exact laid_mem hr hm
theorem gTable : Tryz.prog.globalNamed "pub-httpmessages/pub/neturl.table" = some 7 := by kernel_rfl
theorem tTable : (Tryz.prog.globals[7]?).map (·.type) = some 349 := by kernel_rfl
theorem c8 : Tryz.prog.cellsOf 312 = 1 := by kernel_rfl
theorem tableIs : (Rows.laid_pub_httpmessages_pub_neturl_table : DataW Unit) = .agg (table0.map fun n => .lit (.int .u8 n)) := by kernel_rfl
theorem laid_ready {W : World} {laid : List (String × DataW Unit)} (hm : ("pub-httpmessages/pub/neturl.table", Rows.laid_pub_httpmessages_pub_neturl_table) ∈ laid) (h : laidMet Tryz.prog laid W) : Ready W := by
 obtain ⟨ps, hL, _, _⟩ := h
 obtain ⟨g, t, cs, fuel, p, h1, h2, h3, h4⟩ := laid_mem hL hm
 obtain rfl := Option.some.inj (gTable.symm.trans h1)
 obtain rfl := Option.some.inj (tTable.symm.trans h2)
 have hcell := fun i => World.var?_cell h1 h3 i
 refine ⟨?_, ?_⟩
 ·have hlt : 7 < W.heap.size := by
   rcases Nat.lt_or_ge 7 W.heap.size with h' | h'
   ·exact h'
   ·unfold World.var? at h3
    simp [gTable, Array.getElem?_eq_none h'] at h3
  exact hlt
 ·rw [tableIs] at h4
  obtain ⟨xs, m, rfl, hx, hlen, hn, hel⟩ := DataW.trod_array Tryz.underlying349 h4
  simp only [Prod.mk.injEq, DataW.agg.injEq] at hx
  intro i n hin
  have hi : i < 256 := by
   have hlen : table0.length = 256 := by kernel_rfl
   have := (List.getElem?_eq_some_iff.1 hin).1
   rwa [hlen] at this
  have h0 := hel i hi
  rw [c8] at h0
  have hxi : (xs.map (·.1))[i]? = some (.lit (.int .u8 n)) := by rw [← hx.1, List.getElem?_map, hin]; rfl
  rw [List.getElem?_map] at hxi
  cases hq : xs[i]? with
  | none => rw [hq] at hxi; cases hxi
  | some x =>
   rw [hq] at h0 hxi
   obtain ⟨k, e1, e2, _⟩ := DataW.trod_int Tryz.underlying312 h0
   have hk : k = n := by
    rw [e2] at hxi
    simpa using hxi
   subst hk
   rw [hcell i]
   have : cs.toList[i]? = some (.int .u8 k) := by
    have := congrArg (fun l => l[0]?) e1
    simpa [List.getElem?_take, List.getElem?_drop] using this
   simpa using this
def start (w : World) : Heap := ⟨w.heap.size, fun _ => none⟩
theorem str_eq (s : ByteArray) : Value.string s = S s.data.toList := by
 cases s
 simp
end Go.Proofs.YtbjaapiliegegaaGreatDoor.Sy
end
section
namespace Go.Proofs.YtbjaapiliegegaaGreatDoor.Sy
open Go Go.ChangeShapes Go.WideShapes Go.Deep
def all (w : World) : Heap := ⟨w.heap.size, fun c => aoOf w.heap[c]?⟩
theorem full_all (w : World) : Full w (all w) w := ⟨rfl, fun _ _ e => aoOf_obj e, .refl _ _⟩
theorem all_at {w : World} {b : Nat} {C : Array Value} {e : TypeId} {mk : Nat × Nat} (h : w.heap[b]? = some (.cells C e mk)) : (all w).at b = some (.cells C.toList e mk.1 mk.2) := by
 show aoOf w.heap[b]? = _
 rw [h]
 rfl
theorem cell_block {w : World} {a : Addr} {v : Value} (h : w.cell? a = some v) : a.spot = none ∧ ∃ C e mk, w.heap[a.block]? = some (.cells C e mk) ∧ C.toList[a.off]? = some v := by
 unfold World.cell? at h
 split at h
 ·rename_i C e mk hb
  split at h
  ·cases h
  ·rename_i hs
   exact ⟨by simpa using hs, C, e, mk, hb, by rw [Array.getElem?_toList]; exact h⟩
 ·cases h
theorem addr_at (b off n : Nat) : (⟨b, off, none⟩ : Addr).add n = ⟨b, off + n, none⟩ := by
 unfold Addr.add
 split
 ·rename_i h; subst h; rfl
 ·rfl
theorem list_mid {C cs : List Value} {off : Nat} (h0 : cs ≠ []) (h : ∀ j, j < cs.length → C[off + j]? = cs[j]?) : C = C.take off ++ (cs ++ C.drop (off + cs.length)) ∧ (C.take off).length = off := by
 have hp := List.length_pos_iff.2 h0
 have hlt : off < C.length := by
  have := h 0 hp
  rw [Nat.add_zero, List.getElem?_eq_getElem hp] at this
  exact (List.getElem?_eq_some_iff.1 this).1
 have hc : (C.drop off).take cs.length = cs := by
  refine List.ext_getElem? fun j => ?_
  by_cases hj : j < cs.length
  ·rw [List.getElem?_take_of_lt hj, List.getElem?_drop, h j hj]
  ·rw [List.getElem?_eq_none (by rw [List.length_take]; omega), List.getElem?_eq_none (by omega)]
 refine ⟨?_, by rw [List.length_take]; omega⟩
 conv => lhs; rw [← List.take_append_drop off C, ← List.take_append_drop cs.length (C.drop off), hc, List.drop_drop]
theorem fcells_at {fs : List Fld} {i : Nat} (hi : i < fs.length) : (fcells fs)[i * 2]? = some (S (fnth fs i).1) ∧ (fcells fs)[i * 2 + 1]? = some (S (fnth fs i).2) := by
 have h1 := fcells_get fs i [] hi
 rw [List.append_nil] at h1
 have e0 := congrArg (fun l => l[0]?) h1
 have e1 := congrArg (fun l => l[1]?) h1
 simp only [List.getElem?_take, List.getElem?_drop] at e0 e1
 exact ⟨by simpa using e0, by simpa using e1⟩
theorem fd_of {w : World} {a : Addr} {len cap : Nat} (h : ∀ i, i < len → ∃ f : Fld, w.cell? (a.add (i * 2)) = some (S f.1) ∧ w.cell? (a.add (i * 2 + 1)) = some (S f.2)) : ∃ fs, FD (all w) (.slice (some a) len cap) fs := by
 obtain ⟨g, hg⟩ : ∃ g : Nat → Fld, ∀ i, i < len → w.cell? (a.add (i * 2)) = some (S (g i).1) ∧ w.cell? (a.add (i * 2 + 1)) = some (S (g i).2) :=
  ⟨fun i => if hi : i < len then Classical.choose (h i hi) else ([], []), fun i hi => by dsimp only; rw [dif_pos hi]; exact Classical.choose_spec (h i hi)⟩
 rcases Nat.eq_zero_or_pos len with h0 | h0
 ·subst h0
  exact ⟨[], .inl ⟨rfl, _, _, rfl⟩⟩
 ·obtain ⟨b, off, sp⟩ := a
  have hc0 := (hg 0 h0).1
  have ha0 : (⟨b, off, sp⟩ : Addr).add (0 * 2) = ⟨b, off, sp⟩ := by simp [Addr.add]
  rw [ha0] at hc0
  obtain ⟨hsp, C, e, mk, hb, _⟩ := cell_block hc0
  have hsp' : sp = none := hsp
  subst hsp'
  have hl : ((List.range len).map g).length = len := by simp
  have hn : ∀ i, i < len → fnth ((List.range len).map g) i = g i := fun i hi => by
   unfold fnth
   rw [List.getD_eq_getElem?_getD, List.getElem?_map, List.getElem?_range hi]
   rfl
  have hcell : ∀ j v, w.cell? ((⟨b, off, none⟩ : Addr).add j) = some v → C.toList[off + j]? = some v := fun j v hv => by
   rw [addr_at] at hv
   obtain ⟨_, C', e', mk', hb', hv'⟩ := cell_block hv
   have hbe : w.heap[b]? = some (.cells C' e' mk') := hb'
   rw [hb] at hbe
   cases hbe
   exact hv'
  have hfl : (fcells ((List.range len).map g)).length = len * 2 := by rw [fcells_len, hl]
  obtain ⟨q1, q2⟩ := list_mid (C := C.toList) (cs := fcells ((List.range len).map g)) (off := off) (fun e => by rw [e] at hfl; simp at hfl; omega) (fun j hj => by
   rw [hfl] at hj
   have hi : j / 2 < len := by omega
   obtain ⟨f1, f2⟩ := fcells_at (fs := (List.range len).map g) (i := j / 2) (by rw [hl]; exact hi)
   rw [hn _ hi] at f1 f2
   obtain ⟨c1, c2⟩ := hg _ hi
   rcases Nat.mod_two_eq_zero_or_one j with hm | hm
   ·rw [show j = j / 2 * 2 by omega, f1]
    exact hcell _ _ c1
   ·rw [show j = j / 2 * 2 + 1 by omega, f2]
    exact hcell _ _ c2)
  refine ⟨(List.range len).map g, .inr ⟨b, C.toList.take off, C.toList.drop (off + (fcells ((List.range len).map g)).length), cap, e, mk.1, mk.2, ?_, ?_⟩⟩
  ·rw [q2, hl]
  ·rw [← q1]
   exact all_at hb
theorem bd_of {w : World} {a : Addr} {len cap : Nat} (h : ∀ i, i < len → ∃ c : UInt8, w.cell? (a.add i) = some (B c)) : ∃ l, BD (all w) (.slice (some a) len cap) l := by
 obtain ⟨g, hg⟩ : ∃ g : Nat → UInt8, ∀ i, i < len → w.cell? (a.add i) = some (B (g i)) :=
  ⟨fun i => if hi : i < len then Classical.choose (h i hi) else 0, fun i hi => by dsimp only; rw [dif_pos hi]; exact Classical.choose_spec (h i hi)⟩
 rcases Nat.eq_zero_or_pos len with h0 | h0
 ·subst h0
  exact ⟨[], .inl ⟨rfl, _, _, rfl⟩⟩
 ·obtain ⟨b, off, sp⟩ := a
  have hc0 := hg 0 h0
  have ha0 : (⟨b, off, sp⟩ : Addr).add 0 = ⟨b, off, sp⟩ := by simp [Addr.add]
  rw [ha0] at hc0
  obtain ⟨hsp, C, e, mk, hb, _⟩ := cell_block hc0
  have hsp' : sp = none := hsp
  subst hsp'
  have hl : ((List.range len).map g).length = len := by simp
  have hcell : ∀ j v, w.cell? ((⟨b, off, none⟩ : Addr).add j) = some v → C.toList[off + j]? = some v := fun j v hv => by
   rw [addr_at] at hv
   obtain ⟨_, C', e', mk', hb', hv'⟩ := cell_block hv
   have hbe : w.heap[b]? = some (.cells C' e' mk') := hb'
   rw [hb] at hbe
   cases hbe
   exact hv'
  have hbl : (byteVals ((List.range len).map g)).length = len := by rw [byteVals_length, hl]
  obtain ⟨q1, q2⟩ := list_mid (C := C.toList) (cs := byteVals ((List.range len).map g)) (off := off) (fun e => by rw [e] at hbl; simp at hbl; omega) (fun j hj => by
   rw [hbl] at hj
   rw [hcell _ _ (hg j hj)]
   unfold byteVals
   rw [List.getElem?_map, List.getElem?_map, List.getElem?_range hj]
   rfl)
  refine ⟨(List.range len).map g, .inr ⟨b, C.toList.take off, C.toList.drop (off + (byteVals ((List.range len).map g)).length), cap, e, mk.1, mk.2, ?_, ?_⟩⟩
  ·rw [q2, hl]
  ·rw [← q1]
   exact all_at hb
section
variable {H : Type} {enc : TypeId × Value → H} {P : Program} {w : World} {base : Nat} {spare : Nat → Bool} {held : Bool}
theorem open_parts {r : Reach} {b0 : Nat} {t : TypeId} {fs : Array Go.Field} {v : Value} {d : DataW H} {p : List MemPlace} (hs : P.underlying t = some (.struct fs)) (hone : oneCellFields P fs = true) (hC : P.cellsOf t = fs.size) (hv : Value.okWide P w r b0 t v) (h : DataW.Trod enc P w base spare held t v d p) :
  ∃ cs : List Value, v = .agg cs.toArray ∧ cs.length = fs.size ∧ ∃ n, ∀ (i : Nat) (f : Go.Field), fs[i]? = some f → ∃ c y, cs[i]? = some c ∧ DataW.trod enc P w base spare held n f.type [c] = some y := by
 obtain ⟨cs, rfl, hsz⟩ := okWide_struct hs hv
 obtain ⟨l⟩ := cs
 have hl : l.length = fs.size := hsz.trans hC
 obtain ⟨fuel, hf⟩ := h
 obtain ⟨xs, n, _, hx, _, hlen, hg⟩ := DataW.trod_struct hs hf
 refine ⟨l, rfl, hl, n, fun i f hi => ?_⟩
 have hi2 : i < fs.size := (Array.getElem?_eq_some_iff.1 hi).1
 obtain ⟨o, k⟩ := hone_of hone i f hi
 have h1 := hg i f hi
 rw [o, k] at h1
 have h2 : (Value.cells (.agg l.toArray)).toList = l := by simp [Value.cells]
 rw [h2, List.drop_eq_getElem_cons (by omega)] at h1
 have h3 : (l[i]'(by omega) :: l.drop (i + 1)).take 1 = [l[i]'(by omega)] := rfl
 rw [h3, List.getElem?_eq_getElem (by omega)] at h1
 exact ⟨_, _, List.getElem?_eq_getElem (by omega), h1⟩
theorem open_flds {t e : TypeId} {fs : Array Go.Field} {fuel : Nat} {c : Value} {x : DataW H × List MemPlace} (ht : P.underlying t = some (.slice e)) (he : P.underlying e = some (.struct fs)) (hone : oneCellFields P fs = true) (hC : P.cellsOf e = 2) (h0 : ∃ f, fs[0]? = some f ∧ P.underlying f.type = some .string) (h1 : ∃ f, fs[1]? = some f ∧ P.underlying f.type = some .string)
  (h : DataW.trod enc P w base spare held fuel t [c] = some x) : ∃ l, FD (all w) c l := by
 rcases DataW.trod_slice ht h with ⟨hc, _⟩ | ⟨a, len, cap, elems, rest, n, _, hc, _, _, _, _, hel, hi, _, _⟩
 ·cases hc
  exact ⟨[], .inl ⟨rfl, _, _, rfl⟩⟩
 ·cases hc
  refine fd_of fun i hil => ?_
  have h2 := hi i hil
  rw [List.getElem?_eq_getElem (by omega)] at h2
  obtain ⟨cs, hcs, htr⟩ := Option.bind_eq_some_iff.1 h2
  rw [hC] at hcs
  obtain ⟨_, hcl, hat⟩ := World.cells?_some hcs
  obtain ⟨xs, m, _, _, _, _, hg⟩ := DataW.trod_struct he htr
  have part : ∀ (j : Nat) (f : Go.Field), j < 2 → fs[j]? = some f → P.underlying f.type = some .string → ∃ s : ByteArray, cs[j]? = some (.string s) := by
   intro j f hj hf hu
   obtain ⟨o, k⟩ := hone_of hone j f hf
   have h3 := hg j f hf
   rw [o, k, List.drop_eq_getElem_cons (by omega)] at h3
   have h4 : (cs[j]'(by omega) :: cs.drop (j + 1)).take 1 = [cs[j]'(by omega)] := rfl
   have hjx : j < xs.length := by
    rename_i hxl
    rw [hxl]
    exact (Array.getElem?_eq_some_iff.1 hf).1
   rw [h4, List.getElem?_eq_getElem hjx] at h3
   obtain ⟨s, hs, _⟩ := DataW.trod_string hu h3
   rw [List.getElem?_eq_getElem (by omega)]
   exact ⟨s, congrArg some (List.cons.inj hs).1⟩
  obtain ⟨f0, hf0, hu0⟩ := h0
  obtain ⟨f1, hf1, hu1⟩ := h1
  obtain ⟨s0, e0⟩ := part 0 f0 (by omega) hf0 hu0
  obtain ⟨s1, e1⟩ := part 1 f1 (by omega) hf1 hu1
  refine ⟨(s0.data.toList, s1.data.toList), ?_, ?_⟩
  ·have := hat 0 (by omega)
   rw [e0, Go.Deep.add_add, Nat.add_zero] at this
   rw [this, str_eq]
  ·have := hat 1 (by omega)
   rw [e1, Go.Deep.add_add] at this
   rw [this, str_eq]
end
end Go.Proofs.YtbjaapiliegegaaGreatDoor.Sy
end
