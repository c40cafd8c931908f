/- Of the proof of FnNoBody: SfM SfN SgB. -/
import Derived.Test.YtbjaapiliegegaaGreatDoorNb37
set_option linter.unusedVariables false
set_option linter.unusedSimpArgs false
section
namespace Go.Proofs.YtbjaapiliegegaaGreatDoor.Sy
open Go
set_option maxRecDepth 100000
variable {w0 : World} {h : Heap}
@[push_cast] def p307_6 : Plan := [(0, []), (1, []), (2, []), (3, []), (4, []), (5, []), (6, []), (7, []), (8, [])]
@[push_cast] def p307_19 : Plan := [(0, []), (1, []), (2, []), (3, []), (4, []), (5, []), (6, []), (7, []), (8, []), (9, []), (10, []), (11, []), (12, []), (13, []), (14, []), (15, []), (16, []), (17, []), (18, [])]
@[push_cast] def p307_25 : Plan := [(0, []), (1, []), (2, []), (3, []), (4, []), (5, []), (6, []), (7, []), (8, []), (9, []), (10, []), (11, []), (12, []), (13, []), (14, []), (15, [])]
@[push_cast] def p307_27 : Plan := [(0, []), (1, []), (2, []), (3, []), (4, []), (5, []), (6, []), (7, []), (8, []), (9, []), (10, []), (11, []), (12, []), (13, []), (14, []), (15, [])]
def RdOut (g : Bio) (pb : Nat) (pre mid post : List Value) (rest : Str) (h : Heap) (v : Value) (h' : Heap) : Prop :=
 Keep (g.X ++ [pb]) h h' ∧ ∃ k, k ≤ mid.length ∧ k ≤ rest.length ∧ (k = 0 → rest = []) ∧ v = .tuple #[I k, errOf (decide (k = 0))] ∧ BR h' g (rest.drop k) ∧
  h'.at pb = some (.cells (pre ++ (byteVals (rest.take k) ++ (mid.drop k ++ post))) 5 0 0)
set_option maxHeartbeats 16000000 in
theorem bufRead_ok {g : Bio} {pb n cp : Nat} {rest : Str} {pre mid post : List Value} (G : g.Ok w0.heap.size) (hpb : w0.heap.size ≤ pb) (b : BR h g rest) (hp : h.at pb = some (.cells (pre ++ (mid ++ post)) 5 0 0)) (hn : mid.length = n) (hn0 : 0 < n) (hnl : n < 9223372036854775808) (hcp : n ≤ cp)
  (e1 : pb ≠ g.R) (e2 : pb ≠ g.bb) (e3 : pb ≠ g.sb) (e4 : pb ≠ g.db) :
  ACall Tryz.prog w0 307 [ptr g.R 0, .slice (some ⟨pb, pre.length, none⟩) n cp] h (fun v h' => RdOut g pb pre mid post rest h v h') := by
 refine ACall.known fun hKn => ?_
 obtain ⟨hN, hB⟩ := hKn
 refine ACall.run noCount mixed Tryz.func307 rfl (by kernel_rfl) (Nat.le_of_ble_eq_true rfl) fun X hX => ?_
 obtain ⟨buf, r, w, lb, lrs, sv, src, b, rfl⟩ := b
 have b0 := b
 obtain ⟨rd, bf, bl, hrw, hww, sa, sd, sl, lR, lB, lS, lD⟩ := b
 have lP := hB _ _ hp
 obtain ⟨nR, nb, ns, d1, d2, d3, d4, d5, d6⟩ := id G
 have hnz : decide ((n : Int) = 0) = false := decide_eq_false (by omega)
 by_cases hq : r = w
 ·subst hq
  rw [show errOf false = .nilIface from rfl] at rd
  by_cases hge : 4096 ≤ n
  ·have hge1 : decide ((4096 : Int) ≤ (n : Int)) = true := decide_eq_true (by omega)
   (repeat(first|(simp(disch:=omega)only[push_cast,go_sem_proc,↓ite_only,M_block,rd, hnz, hge1])|(with_reducible refine M_draw (id:=6) p307_6 ?_ ?_;focus kernel_rfl)))
   refine callM_of (bread_ok (w0 := w0) (n := n) (cp := cp) ns hpb sa sd hp hn e3 e4 d6 sl hnl) ?_
   rintro v h1 ⟨rfl, k1, hp1, sv1, sa1, sd1⟩
   have rd1 := (k1.2 g.R lR (by simp [d2, Ne.symm e1])).trans rd
   have bf1 := (k1.2 g.bb lB (by simp [d4, Ne.symm e2])).trans bf
   have n1 := k1.1
   obtain ⟨m, hm⟩ : ∃ m, min src.length n = m := ⟨_, rfl⟩
   rw [hm]
   have lR1 : g.R < h1.n := by omega
   have lB1 : g.bb < h1.n := by omega
   have lS1 : g.sb < h1.n := by omega
   have lD1 : g.db < h1.n := by omega
   have sl1 : (src.drop n).length < 1000000000 := by rw [List.length_drop]; omega
   have kk1 : Keep (g.X ++ [pb]) h h1 := k1.more (by simp)
   have hrl : restL buf r r src = src := by unfold restL; rw [Nat.sub_self, List.take_zero]; rfl
   have hm0 : decide ((m : Int) < 0) = false := decide_eq_false (by omega)
   cases hemp : src.isEmpty with
   | true =>
    obtain rfl := List.isEmpty_iff.1 hemp
    have hmz : m = 0 := by rw [← hm]; simp
    subst hmz
    rw [show errOf true = eofV from rfl]
    (repeat(first|(simp(disch:=first|omega|(simp only[zN];omega))only[push_cast,go_sem_proc,↓ite_only,M_block,rd1])|(with_reducible refine⟨by omega,?_⟩)))
    refine callM_of (readErr_ok (buf := buf) (r := r) (w := r) (er := true) (lb := lb) (lrs := lrs) (sv := sv1) (src := List.drop n []) G ⟨by exact (by first|assumption|(simp(disch:=first|assumption|omega)only[at_put_eq,at_put_ne,at_new_eq,at_new_ne,zN,ne_eq,not_false_eq_true];first|done|assumption|rfl)), (by first|assumption|(simp(disch:=first|assumption|omega)only[at_put_eq,at_put_ne,at_new_eq,at_new_ne,zN,ne_eq,not_false_eq_true];first|done|assumption|rfl)), bl, Nat.le_refl _, hww, (by first|assumption|(simp(disch:=first|assumption|omega)only[at_put_eq,at_put_ne,at_new_eq,at_new_ne,zN,ne_eq,not_false_eq_true];first|done|assumption|rfl)), sd1.keep (by first|assumption|(simp(disch:=first|assumption|omega)only[at_put_eq,at_put_ne,at_new_eq,at_new_ne,zN,ne_eq,not_false_eq_true];first|done|assumption|rfl)), sl1, lR1, lB1, lS1, lD1⟩) ?_
    rintro v h2 ⟨rfl, k2, hb2, b2⟩
    (repeat simp only[push_cast,go_sem_proc,↓ite_only,M_block])
    ((with_reducible refine hX _ _ _ (fun j hj => nomatch hj) ?_); simp only[push_cast,go_sem_proc,↓ite_only,M_block,Tryz.results307])
    rw [hrl]
    refine ⟨Keep.trans (show Keep (g.X ++ [pb]) h _ from (by repeat (first | exact Keep.refl _ _ | assumption | refine Keep.put ?_ (by first | (left; simp; done) | (right; omega)) _ | refine Keep.new ?_ _))) (k2.more (by simp)), 0, Nat.zero_le _, Nat.zero_le _, fun _ => rfl, rfl, ⟨_, _, _, _, _, _, _, b2, by unfold restL; rw [Nat.sub_self, List.take_zero]; simp⟩, ?_⟩
    refine (k2.2 pb (by first | exact Nat.lt_of_lt_of_le lP n1 | (simp only [n_put]; omega)) (by simp; exact ⟨e1, e2, e3⟩)).trans ?_
    rw [at_put_ne _ _ e1, hp1]
    simp
   | false =>
    have hsp0 : 0 < src.length := by cases src with | nil => cases hemp | cons _ _ => exact Nat.succ_pos _
    have hmp : decide ((0 : Int) < (m : Int)) = true := decide_eq_true (by omega)
    have htl : (src.take n).length = m := by rw [List.length_take, Nat.min_comm]; exact hm
    obtain ⟨x, hx⟩ : ∃ x, (pre ++ (byteVals (src.take n) ++ (mid.drop src.length ++ post)))[pre.length + ((m : Int) - 1).toNat]? = some (B x) := by
     rw [show ((m : Int) - 1).toNat = m - 1 by omega, List.getElem?_append_right (by omega), Nat.add_sub_cancel_left, List.getElem?_append_left (by rw [byteVals_length]; omega)]
     exact ⟨_, by unfold byteVals; rw [List.getElem?_map, List.getElem?_eq_getElem (by omega)]; rfl⟩
    rw [show errOf false = .nilIface from rfl]
    (repeat(first|(simp(disch:=first|omega|(simp only[zN];omega))only[push_cast,go_sem_proc,↓ite_only,M_block,rd1, hm0, hmp, hp1, hx])|(with_reducible refine⟨by omega,?_⟩)))
    refine callM_of (readErr_ok (buf := buf) (r := r) (w := r) (er := false) (sv := sv1) (src := src.drop n) G ⟨by exact (by first|assumption|(simp(disch:=first|assumption|omega)only[at_put_eq,at_put_ne,at_new_eq,at_new_ne,zN,ne_eq,not_false_eq_true];first|done|assumption|rfl)), (by first|assumption|(simp(disch:=first|assumption|omega)only[at_put_eq,at_put_ne,at_new_eq,at_new_ne,zN,ne_eq,not_false_eq_true];first|done|assumption|rfl)), bl, Nat.le_refl _, hww, (by first|assumption|(simp(disch:=first|assumption|omega)only[at_put_eq,at_put_ne,at_new_eq,at_new_ne,zN,ne_eq,not_false_eq_true];first|done|assumption|rfl)), sd1.keep (by first|assumption|(simp(disch:=first|assumption|omega)only[at_put_eq,at_put_ne,at_new_eq,at_new_ne,zN,ne_eq,not_false_eq_true];first|done|assumption|rfl)), sl1, lR1, lB1, lS1, lD1⟩) ?_
    rintro v h2 ⟨rfl, k2, hb2, b2⟩
    (repeat simp(disch:=omega)only[push_cast,go_sem_proc,↓ite_only,M_block])
    ((with_reducible refine hX _ _ _ (fun j hj => nomatch hj) ?_); simp(disch:=omega)only[push_cast,go_sem_proc,↓ite_only,M_block,Tryz.results307])
    have htk : src.take m = src.take n := by
     rw [← hm]
     rcases Nat.le_total src.length n with hh | hh
     ·rw [Nat.min_eq_left hh, List.take_length, List.take_of_length_le hh]
     ·rw [Nat.min_eq_right hh]
    have hdr : src.drop m = src.drop n := by
     rw [← hm]
     rcases Nat.le_total src.length n with hh | hh
     ·rw [Nat.min_eq_left hh, List.drop_length, List.drop_of_length_le hh]
     ·rw [Nat.min_eq_right hh]
    have hmd : mid.drop m = mid.drop src.length := by
     rcases Nat.le_total src.length n with hh | hh
     ·rw [show m = src.length by omega]
     ·rw [List.drop_of_length_le (by omega), List.drop_of_length_le (by omega)]
    rw [hrl]
    refine ⟨Keep.trans (show Keep (g.X ++ [pb]) h _ from (by repeat (first | exact Keep.refl _ _ | assumption | refine Keep.put ?_ (by first | (left; simp; done) | (right; omega)) _ | refine Keep.new ?_ _))) (k2.more (by simp)), m, by omega, by omega, fun e => by omega, by rw [decide_eq_false (by omega)], ⟨_, _, _, _, _, _, _, b2, by unfold restL; rw [Nat.sub_self, List.take_zero, hdr]; rfl⟩, ?_⟩
    refine (k2.2 pb (by first | exact Nat.lt_of_lt_of_le lP n1 | (simp only [n_put]; omega)) (by simp; exact ⟨e1, e2, e3⟩)).trans ?_
    rw [htk, hmd]
    exact (by first|assumption|(simp(disch:=first|assumption|omega)only[at_put_eq,at_put_ne,at_new_eq,at_new_ne,zN,ne_eq,not_false_eq_true];first|done|assumption|rfl))
  ·have hge1 : decide ((4096 : Int) ≤ (n : Int)) = false := decide_eq_false (by omega)
   (repeat(first|(simp(disch:=first|omega|(simp only[zN];omega))only[push_cast,go_sem_proc,↓ite_only,M_block,rd, hnz, hge1])|(with_reducible refine⟨by omega,?_⟩)|(with_reducible refine M_draw (id:=6) p307_6 ?_ ?_;focus kernel_rfl)|(with_reducible refine M_draw (id:=19) p307_19 ?_ ?_;focus kernel_rfl)))
   generalize hhe : Heap.put _ g.R (.cells [.slice (some ⟨g.bb, 0, none⟩) 4096 4096, .iface 125 (ptr g.sb 0), .int .i64 0, .int .i64 0, .nilIface, I lb, I lrs] 217 0 0) = hh
   have k0 : Keep g.X h hh := by subst hhe; exact (by repeat (first | exact Keep.refl _ _ | assumption | refine Keep.put ?_ (by first | (left; simp; done) | (right; omega)) _ | refine Keep.new ?_ _))
   have rd0 : hh.at g.R = some (.cells [.slice (some ⟨g.bb, 0, none⟩) 4096 4096, .iface 125 (ptr g.sb 0), .int .i64 0, .int .i64 0, .nilIface, I lb, I lrs] 217 0 0) := by subst hhe; exact (by first|assumption|(simp(disch:=first|assumption|omega)only[at_put_eq,at_put_ne,at_new_eq,at_new_ne,zN,ne_eq,not_false_eq_true];first|done|assumption|rfl))
   have bf0 : hh.at g.bb = some (.cells ([] ++ (byteVals buf ++ [])) 5 0 0) := by subst hhe; rw [List.nil_append, List.append_nil]; exact (by first|assumption|(simp(disch:=first|assumption|omega)only[at_put_eq,at_put_ne,at_new_eq,at_new_ne,zN,ne_eq,not_false_eq_true];first|done|assumption|rfl))
   have sa0 : hh.at g.sb = some (.cells [sv] 127 0 0) := by subst hhe; exact (by first|assumption|(simp(disch:=first|assumption|omega)only[at_put_eq,at_put_ne,at_new_eq,at_new_ne,zN,ne_eq,not_false_eq_true];first|done|assumption|rfl))
   have sd0 : SrcD hh g.db sv src := by subst hhe; exact sd.keep (by first|assumption|(simp(disch:=first|assumption|omega)only[at_put_eq,at_put_ne,at_new_eq,at_new_ne,zN,ne_eq,not_false_eq_true];first|done|assumption|rfl))
   have n0 : hh.n = h.n := by subst hhe; rfl
   have p0 : hh.at pb = some (.cells (pre ++ (mid ++ post)) 5 0 0) := by subst hhe; exact (by first|assumption|(simp(disch:=first|assumption|omega)only[at_put_eq,at_put_ne,at_new_eq,at_new_ne,zN,ne_eq,not_false_eq_true];first|done|assumption|rfl))
   clear hhe
   refine callP_of (bread_ok (w0 := w0) (n := 4096) (cp := 4096) (pb := g.bb) (pre := []) ns nb sa0 sd0 bf0 (by rw [byteVals_length, bl]) d4 d5 d6 sl (by omega)) ?_
   rintro v h1 ⟨rfl, k1, hb1, sv1, sa1, sd1⟩
   have n1 := k1.1
   have rd1 := (k1.2 g.R (by omega) (by simp; exact ⟨d2, d1⟩)).trans rd0
   have p1 := (k1.2 pb (by omega) (by simp; exact ⟨e3, e2⟩)).trans p0
   obtain ⟨m, hm⟩ : ∃ m, min src.length 4096 = m := ⟨_, rfl⟩
   rw [hm]
   have lR1 : g.R < h1.n := by omega
   have lB1 : g.bb < h1.n := by omega
   have lS1 : g.sb < h1.n := by omega
   have lD1 : g.db < h1.n := by omega
   have lP1 : pb < h1.n := by omega
   have sl1 : (src.drop 4096).length < 1000000000 := by rw [List.length_drop]; omega
   have kk1 : Keep (g.X ++ [pb]) h h1 := (k0.more (by simp)).trans (k1.more (by simp))
   have hrl : restL buf r r src = src := by unfold restL; rw [Nat.sub_self, List.take_zero]; rfl
   have hm0 : decide ((m : Int) < 0) = false := decide_eq_false (by omega)
   obtain ⟨buf1, bf1, bl1, ht1⟩ : ∃ buf1, h1.at g.bb = some (.cells (byteVals buf1) 5 0 0) ∧ buf1.length = 4096 ∧ buf1.take m = src.take 4096 := by
    refine ⟨src.take 4096 ++ buf.drop src.length, ?_, ?_, ?_⟩
    ·rw [hb1, List.nil_append, List.append_nil, byteVals_app, byteVals_drop]
    ·rw [List.length_append, List.length_take, List.length_drop, bl]; omega
    ·rw [List.take_append_of_le_length (by rw [List.length_take]; omega)]
     exact List.take_of_length_le (by rw [List.length_take]; omega)
   cases hemp : src.isEmpty with
   | true =>
    obtain rfl := List.isEmpty_iff.1 hemp
    have hmz : m = 0 := by rw [← hm]; simp
    subst hmz
    rw [show errOf true = eofV from rfl]
    (repeat(first|(simp(disch:=first|omega|(simp only[zN];omega))only[push_cast,go_sem_proc,↓ite_only,M_block,rd1])|(with_reducible refine⟨by omega,?_⟩)))
    refine callM_of (readErr_ok (buf := buf1) (r := 0) (w := 0) (er := true) (lb := lb) (lrs := lrs) (sv := sv1) (src := List.drop 4096 []) G ⟨by exact (by first|assumption|(simp(disch:=first|assumption|omega)only[at_put_eq,at_put_ne,at_new_eq,at_new_ne,zN,ne_eq,not_false_eq_true];first|done|assumption|rfl)), (by first|assumption|(simp(disch:=first|assumption|omega)only[at_put_eq,at_put_ne,at_new_eq,at_new_ne,zN,ne_eq,not_false_eq_true];first|done|assumption|rfl)), bl1, Nat.le_refl _, by omega, (by first|assumption|(simp(disch:=first|assumption|omega)only[at_put_eq,at_put_ne,at_new_eq,at_new_ne,zN,ne_eq,not_false_eq_true];first|done|assumption|rfl)), sd1.keep (by first|assumption|(simp(disch:=first|assumption|omega)only[at_put_eq,at_put_ne,at_new_eq,at_new_ne,zN,ne_eq,not_false_eq_true];first|done|assumption|rfl)), sl1, lR1, lB1, lS1, lD1⟩) ?_
    rintro v h2 ⟨rfl, k2, hb2, b2⟩
    (repeat simp only[push_cast,go_sem_proc,↓ite_only,M_block])
    ((with_reducible refine hX _ _ _ (fun j hj => nomatch hj) ?_); simp only[push_cast,go_sem_proc,↓ite_only,M_block,Tryz.results307])
    rw [hrl]
    refine ⟨Keep.trans (show Keep (g.X ++ [pb]) h _ from (by repeat (first | exact Keep.refl _ _ | assumption | refine Keep.put ?_ (by first | (left; simp; done) | (right; omega)) _ | refine Keep.new ?_ _))) (k2.more (by simp)), 0, Nat.zero_le _, Nat.zero_le _, fun _ => rfl, rfl, ⟨_, _, _, _, _, _, _, b2, by unfold restL; rfl⟩, ?_⟩
    refine (k2.2 pb (by first | exact lP1 | (simp only [n_put]; omega)) (by simp; exact ⟨e1, e2, e3⟩)).trans ?_
    rw [at_put_ne _ _ e1, p1]
    rfl
   | false =>
    have hsp0 : 0 < src.length := by cases src with | nil => cases hemp | cons _ _ => exact Nat.succ_pos _
    have hmz : decide ((m : Int) = 0) = false := decide_eq_false (by omega)
    rw [show errOf false = .nilIface from rfl]
    obtain ⟨q, hqm⟩ : ∃ q, min ((0 : Int) + (m : Int)).toNat n = q := ⟨_, rfl⟩
    have hq2 : min m n = q := by rw [← hqm, show ((0 : Int) + (m : Int)).toNat = m by omega]
    have hql : (buf1.take q).length = q := by rw [List.length_take, bl1]; omega
    have hlc : loadC (some (.cells (byteVals buf1) 5 0 0)) 0 q = some (byteVals (buf1.take q)) := by
     rw [loadC_some, only_pos (by rw [byteVals_length, bl1]; omega), List.drop_zero, byteVals_take]
    have hsp : splice (pre ++ (mid ++ post)) pre.length (byteVals (buf1.take q)) = pre ++ (byteVals (buf1.take q) ++ (mid.drop q ++ post)) := by
     rw [splice_mid _ _ _ _ (by rw [byteVals_length, hql]; omega), byteVals_length, hql]
    obtain ⟨x, hx⟩ : ∃ x, (byteVals buf1)[((0 : Int) + (q : Int) - 1).toNat]? = some (B x) := by
     rw [show ((0 : Int) + (q : Int) - 1).toNat = q - 1 by omega]
     exact ⟨_, by unfold byteVals; rw [List.getElem?_map, List.getElem?_eq_getElem (by omega)]; rfl⟩
    (repeat(first|(simp(disch:=first|omega|(simp only[zN];omega))only[push_cast,go_sem_proc,↓ite_only,M_block,rd1, hm0, hmz, hqm, bf1, hlc, p1, hsp, hql, hx])|(with_reducible refine And.intro ?_ ?_;focus(first|omega|(simp only[zL,rd1, hm0, hmz, hqm, bf1, hlc, p1, hsp, hql, hx];omega)))|(with_reducible refine M_draw (id:=25) p307_25 ?_ ?_;focus kernel_rfl)|(with_reducible refine M_draw (id:=27) p307_27 ?_ ?_;focus kernel_rfl)))
    ((with_reducible refine hX _ _ _ (fun j hj => nomatch hj) ?_); simp(disch:=omega)only[push_cast,go_sem_proc,↓ite_only,M_block,Tryz.results307])
    try simp only [Int.zero_add]
    rw [hrl]
    have hsrc : src = buf1.take m ++ src.drop 4096 := by rw [ht1]; exact (List.take_append_drop _ _).symm
    have hml : (buf1.take m).length = m := by rw [List.length_take, bl1]; omega
    have htk : src.take q = buf1.take q := by
     rw [hsrc, List.take_append_of_le_length (by omega), List.take_take, Nat.min_eq_left (by omega)]
    have hdr : restL buf1 q m (src.drop 4096) = src.drop q := by
     unfold restL
     conv => rhs; rw [hsrc, List.drop_append_of_le_length (by omega), List.drop_take]
    refine ⟨(by repeat (first | exact Keep.refl _ _ | assumption | refine Keep.put ?_ (by first | (left; simp; done) | (right; omega)) _ | refine Keep.new ?_ _)), q, by omega, by omega, fun e => by omega, by rw [decide_eq_false (by omega)]; rfl, ⟨buf1, q, m, _, _, sv1, src.drop 4096, ⟨(by first|assumption|(simp(disch:=first|assumption|omega)only[at_put_eq,at_put_ne,at_new_eq,at_new_ne,zN,ne_eq,not_false_eq_true];first|done|assumption|rfl)), (by first|assumption|(simp(disch:=first|assumption|omega)only[at_put_eq,at_put_ne,at_new_eq,at_new_ne,zN,ne_eq,not_false_eq_true];first|done|assumption|rfl)), bl1, by omega, by omega, (by first|assumption|(simp(disch:=first|assumption|omega)only[at_put_eq,at_put_ne,at_new_eq,at_new_ne,zN,ne_eq,not_false_eq_true];first|done|assumption|rfl)), sd1.keep (by first|assumption|(simp(disch:=first|assumption|omega)only[at_put_eq,at_put_ne,at_new_eq,at_new_ne,zN,ne_eq,not_false_eq_true];first|done|assumption|rfl)), sl1, lR1, lB1, lS1, lD1⟩, hdr.symm⟩, ?_⟩
    rw [htk]
    exact (by first|assumption|(simp(disch:=first|assumption|omega)only[at_put_eq,at_put_ne,at_new_eq,at_new_ne,zN,ne_eq,not_false_eq_true];first|done|assumption|rfl))
 ·have hq1 : decide ((r : Int) = (w : Int)) = false := decide_eq_false (by omega)
  obtain ⟨m, hm⟩ : ∃ m, min (w - r) n = m := ⟨_, rfl⟩
  have hr4 : ((4096 : Nat) = r) = False := eq_false (by omega)
  have hld : loadN h g.bb r m = some (byteVals ((buf.drop r).take m)) := b0.load (by omega)
  have hlt : ((buf.drop r).take m).length = m := by rw [List.length_take, List.length_drop, bl]; omega
  have hsp : splice (pre ++ (mid ++ post)) pre.length (byteVals ((buf.drop r).take m)) = pre ++ (byteVals ((buf.drop r).take m) ++ (mid.drop m ++ post)) := by
   rw [splice_mid _ _ _ _ (by rw [byteVals_length, hlt]; omega), byteVals_length, hlt]
  obtain ⟨x, hx⟩ : ∃ x, (byteVals buf)[((r : Int) + (m : Int) - 1).toNat]? = some (B x) := by
   rw [show ((r : Int) + (m : Int) - 1).toNat = r + m - 1 by omega]
   exact ⟨_, by unfold byteVals; rw [List.getElem?_map, List.getElem?_eq_getElem (by omega)]; rfl⟩
  (repeat(first|(simp(disch:=first|omega|(simp only[zN];omega))only[push_cast,go_sem_proc,↓ite_only,M_block,rd, hnz, hq1, hr4, hm, hld, hp, hsp, hlt, bf, hx])|(with_reducible refine And.intro ?_ ?_;focus(first|omega|(simp only[zL,rd, hnz, hq1, hr4, hm, hld, hp, hsp, hlt, bf, hx];omega)))|(with_reducible refine M_draw (id:=6) p307_6 ?_ ?_;focus kernel_rfl)|(with_reducible refine M_draw (id:=25) p307_25 ?_ ?_;focus kernel_rfl)|(with_reducible refine M_draw (id:=27) p307_27 ?_ ?_;focus kernel_rfl)))
  ((with_reducible refine hX _ _ _ (fun j hj => nomatch hj) ?_); simp(disch:=omega)only[push_cast,go_sem_proc,↓ite_only,M_block,Tryz.results307])
  have hrl : restL buf r w src = (buf.drop r).take (w - r) ++ src := rfl
  have hl1 : ((buf.drop r).take (w - r)).length = w - r := by rw [List.length_take, List.length_drop, bl]; omega
  have htk : (restL buf r w src).take m = (buf.drop r).take m := by rw [hrl, List.take_append_of_le_length (by omega), List.take_take, Nat.min_eq_left (by omega)]
  have hdr : (restL buf r w src).drop m = restL buf (r + m) w src := by rw [hrl, List.drop_append_of_le_length (by omega), List.drop_take, List.drop_drop]; unfold restL; congr 2; omega
  have hcast : ((r + m : Nat) : Int) = (r : Int) + (m : Int) := by omega
  refine ⟨(by repeat (first | exact Keep.refl _ _ | assumption | refine Keep.put ?_ (by first | (left; simp; done) | (right; omega)) _ | refine Keep.new ?_ _)), m, by omega, by rw [hrl, List.length_append]; omega, fun e => by omega, ?_, ?_, ?_⟩
  ·rw [decide_eq_false (by omega)]; rfl
  ·rw [hdr]
   exact ⟨buf, r + m, w, _, _, sv, src, ⟨by rw [hcast]; exact (by first|assumption|(simp(disch:=first|assumption|omega)only[at_put_eq,at_put_ne,at_new_eq,at_new_ne,zN,ne_eq,not_false_eq_true];first|done|assumption|rfl)), (by first|assumption|(simp(disch:=first|assumption|omega)only[at_put_eq,at_put_ne,at_new_eq,at_new_ne,zN,ne_eq,not_false_eq_true];first|done|assumption|rfl)), bl, by omega, hww, (by first|assumption|(simp(disch:=first|assumption|omega)only[at_put_eq,at_put_ne,at_new_eq,at_new_ne,zN,ne_eq,not_false_eq_true];first|done|assumption|rfl)), sd.keep (by first|assumption|(simp(disch:=first|assumption|omega)only[at_put_eq,at_put_ne,at_new_eq,at_new_ne,zN,ne_eq,not_false_eq_true];first|done|assumption|rfl)), sl, lR, lB, lS, lD⟩, rfl⟩
  ·rw [htk]
   exact (by first|assumption|(simp(disch:=first|assumption|omega)only[at_put_eq,at_put_ne,at_new_eq,at_new_ne,zN,ne_eq,not_false_eq_true];first|done|assumption|rfl))
end Go.Proofs.YtbjaapiliegegaaGreatDoor.Sy
end
section
namespace Go.Proofs.YtbjaapiliegegaaGreatDoor.Sy
open Go
set_option maxRecDepth 100000
variable {w0 : World} {h : Heap}
def MimeEnd (g : Bio) (tp : Nat) (bv : Value) (rest : Str) (h : Heap) (v : Value) (h' : Heap) : Prop :=
 Keep (g.X ++ [tp, blkOf tp bv]) h h' ∧ ∃ bv' rem mv ev, v = .tuple #[mv, ev] ∧ TP h' tp g bv' ∧ RawB (tp + 1) h' bv' ∧
  (blkOf tp bv' = blkOf tp bv ∨ h.n ≤ blkOf tp bv' ∨ blkOf tp bv' = tp) ∧ BR h' g rem ∧ MimeOut tp g rest h.n bv' rem mv ev h'
theorem mime84_ok {g : Bio} {tp : Nat} {bv : Value} {rest : Str} (htp : w0.heap.size ≤ tp) (G : g.Ok w0.heap.size) (T : TP h tp g bv) (hbv : RawB (tp + 1) h bv) (b : BR h g rest) :
  ACall Tryz.prog w0 84 [ptr tp 0] h (fun v h' => MimeEnd g tp bv rest h v h') := by
 refine ACall.known fun hKn => ?_
 obtain ⟨hN, hB⟩ := hKn
 refine ACall.run noCount mixed Tryz.func84 rfl (by kernel_rfl) (Nat.le_of_ble_eq_true rfl) fun X hX => ?_
 (repeat simp only[push_cast,go_sem_proc,↓ite_only,M_block])
 refine callM_of (mime_ok htp G T hbv b) ?_
 rintro v h1 ⟨k, bv', rem, mv, ev, rfl, o⟩
 (repeat simp only[push_cast,go_sem_proc,↓ite_only,M_block])
 ((with_reducible refine hX _ _ _ (fun j hj => nomatch hj) ?_); simp only[push_cast,go_sem_proc,↓ite_only,M_block,Tryz.results84])
 exact ⟨k, bv', rem, mv, ev, rfl, o⟩
theorem noRead_ok (v1 : Value) : ACall Tryz.prog w0 316 [.agg #[], v1] h (fun v h' => v = .tuple #[I 0, eofV] ∧ Ext h h') := by
 refine ACall.known fun hKn => ?_
 obtain ⟨hN, hB⟩ := hKn
 refine ACall.run noCount mixed Tryz.func316 rfl (by kernel_rfl) (Nat.le_of_ble_eq_true rfl) fun X hX => ?_
 (repeat simp only[push_cast,go_sem_proc,↓ite_only,M_block])
 ((with_reducible refine hX _ _ _ (fun j hj => nomatch hj) ?_); simp only[push_cast,go_sem_proc,↓ite_only,M_block,Tryz.results316])
 exact Keep.ext (by repeat (first | exact Keep.refl _ _ | assumption | refine Keep.put ?_ (by first | (left; simp; done) | (right; omega)) _ | refine Keep.new ?_ _))
end Go.Proofs.YtbjaapiliegegaaGreatDoor.Sy
end
section
namespace Go.Proofs.YtbjaapiliegegaaGreatDoor.Sy
open Go
set_option maxRecDepth 100000
variable {w0 : World} {h : Heap}
theorem Row.ext {lo e z n : Nat} {h h' : Heap} {v : Value} {cs : List Value} (r : Row lo h e z v n cs) (x : Ext h h') : Row lo h' e z v n cs := r.keep x.1 (fun b hb _ _ => x.2 b hb)
theorem Data.ext {h h' : Heap} {v : Value} {l : Str} (d : Data h v l) (hB : ∀ b o, h.at b = some o → b < h.n) (x : Ext h h') : Data h' v l := d.keep (fun b ⟨o, ho⟩ _ => x.2 b (hB b o ho))
theorem clone_ok {a : Option Addr} {cp : Nat} {l : Str} (d : Data h (.slice a l.length cp) l) (hl : l.length ≤ 4294967296) : ACall Tryz.prog w0 47 [.slice a l.length cp] h (fun v h' => Own h.n h' v l ∧ Ext h h') := by
 refine ACall.known fun hKn => ?_
 obtain ⟨hN, hB⟩ := hKn
 refine ACall.run noCount mixed Tryz.func47 rfl (by kernel_rfl) (Nat.le_of_ble_eq_true rfl) fun X hX => ?_
 cases a with
 | none =>
  have hl0 : l = [] := by
   rcases d with ⟨e, _⟩ | ⟨b, pre, post, cp', lo, hi, e, _⟩
   ·exact e
   ·cases e
  subst hl0
  (repeat simp only[push_cast,go_sem_proc,↓ite_only,M_block])
  ((with_reducible refine hX _ _ _ (fun j hj => nomatch hj) ?_); simp only[push_cast,go_sem_proc,↓ite_only,M_block,Tryz.results47])
  exact ⟨.inl ⟨rfl, _, _, rfl⟩, Ext.refl _⟩
 | some a =>
  (repeat simp only[push_cast,go_sem_proc,↓ite_only,M_block])
  intro c
  generalize hH : Heap.new h _ = h5
  have x5 : Ext h h5 := by rw [← hH]; exact Keep.ext (by repeat (first | exact Keep.refl _ _ | assumption | refine Keep.put ?_ (by first | (left; simp; done) | (right; omega)) _ | refine Keep.new ?_ _))
  have n5 : h5.n = h.n + 1 := by rw [← hH]; rfl
  have a5 : h5.at h.n = some (.cells [] 5 0 0) := by rw [← hH]; exact at_new_eq _ _
  obtain ⟨v', h6, e6, r6, n6, hold6, _⟩ := app_bytes (c := c) (N := w0.heap.size) (lo := h.n) (v := .slice (some ⟨h.n, 0, none⟩) 0 0) (l := []) (m := l) (.inr ⟨h.n, 0, [], rfl, Nat.le_refl _, by omega, a5, rfl, rfl⟩) hN (by omega) (d.ext hB x5) (by simpa using hl)
  rw [e6]
  (repeat simp only[push_cast,go_sem_proc,↓ite_only,M_block])
  ((with_reducible refine hX _ _ _ (fun j hj => nomatch hj) ?_); simp only[push_cast,go_sem_proc,↓ite_only,M_block,Tryz.results47])
  exact ⟨r6.own, by omega, fun b hb => (hold6 b (by omega) (by show b ≠ h.n; omega)).trans (x5.2 b hb)⟩
def RdrOut (R : (Nat → Prop) → Heap → Str → Value → Nat → Prop) (E : (Nat → Prop) → Heap → Value → Prop) (O : Nat → Prop) (pb : Nat) (pre mid post : List Value) (s : Str) (e : Value) (k : Nat) (h : Heap) (v : Value) (h' : Heap) : Prop :=
 ∃ (O' : Nat → Prop) (m : Nat) (er : Value), (∀ i, O' i → O i ∨ (h.n ≤ i ∧ i < h'.n)) ∧ h.n ≤ h'.n ∧ (∀ i, i < h.n → ¬O i → i ≠ pb → h'.at i = h.at i) ∧ m ≤ mid.length ∧ m ≤ s.length ∧ v = .tuple #[I m, er] ∧
  h'.at pb = some (.cells (pre ++ (byteVals (s.take m) ++ (mid.drop m ++ post))) 5 0 0) ∧ ((er = .nilIface ∧ ∃ k', k' < k ∧ R O' h' (s.drop m) e k') ∨ (s.drop m = [] ∧ er = e ∧ E O' h' e))
structure Rdr (w0 : World) (f : FuncId) (val : Value) (R : (Nat → Prop) → Heap → Str → Value → Nat → Prop) (E : (Nat → Prop) → Heap → Value → Prop) : Prop where
 keep : ∀ {O h h' s e k}, R O h s e k → h.n ≤ h'.n → (∀ i, i < h.n → O i → h'.at i = h.at i) → R O h' s e k
 ekeep : ∀ {O h h' e}, E O h e → h.n ≤ h'.n → (∀ i, i < h.n → O i → h'.at i = h.at i) → E O h' e
 read : ∀ {O h s e k pb pre mid post cp}, R O h s e k → ¬O pb → w0.heap.size ≤ pb → h.at pb = some (.cells (pre ++ (mid ++ post)) 5 0 0) → 0 < mid.length → mid.length ≤ cp → cp < 9223372036854775808 →
  ACall Tryz.prog w0 f [val, .slice (some ⟨pb, pre.length, none⟩) mid.length cp] h (fun v h' => RdrOut R E O pb pre mid post s e k h v h')
theorem bufRdr (g : Bio) (G : g.Ok w0.heap.size) : Rdr w0 307 (ptr g.R 0) (fun O h s e k => O = (fun i => i ∈ g.X ∨ i = g.db) ∧ BR h g s ∧ e = eofV ∧ k = s.length) (fun O h _ => O = (fun i => i ∈ g.X ∨ i = g.db) ∧ BR h g []) where
 keep := by
  rintro O h h' s e k ⟨rfl, ⟨buf, r, w, lb, lrs, sv, src, ⟨rd, bf, bl, hrw, hww, sa, sd, sl, lR, lB, lS, lD⟩, e0⟩, e1, e2⟩ hn hk
  exact ⟨rfl, ⟨buf, r, w, lb, lrs, sv, src, ⟨(hk _ lR (by simp)).trans rd, (hk _ lB (by simp)).trans bf, bl, hrw, hww, (hk _ lS (by simp)).trans sa, sd.keep (hk _ lD (.inr rfl)), sl, by omega, by omega, by omega, by omega⟩, e0⟩, e1, e2⟩
 ekeep := by
  rintro O h h' e ⟨rfl, ⟨buf, r, w, lb, lrs, sv, src, ⟨rd, bf, bl, hrw, hww, sa, sd, sl, lR, lB, lS, lD⟩, e0⟩⟩ hn hk
  exact ⟨rfl, ⟨buf, r, w, lb, lrs, sv, src, ⟨(hk _ lR (by simp)).trans rd, (hk _ lB (by simp)).trans bf, bl, hrw, hww, (hk _ lS (by simp)).trans sa, sd.keep (hk _ lD (.inr rfl)), sl, by omega, by omega, by omega, by omega⟩, e0⟩⟩
 read := by
  rintro O h s e k pb pre mid post cp ⟨rfl, b, rfl, rfl⟩ hpb hw hat h0 hcp hcl
  simp only [Bio.X, List.mem_cons, List.not_mem_nil, or_false, not_or] at hpb
  refine (bufRead_ok (n := mid.length) G hw b hat rfl h0 (by omega) hcp (by omega) (by omega) (by omega) (by omega)).mono ?_
  rintro v h' ⟨k1, m, hm, hms, hm0, rfl, b', hat'⟩
  refine ⟨_, m, _, fun i hi => .inl hi, k1.1, fun i hi hO hp => k1.2 i hi (by simp only [List.mem_append, List.mem_singleton, not_or]; exact ⟨fun hx => hO (.inl hx), hp⟩), hm, hms, rfl, hat', ?_⟩
  rcases Nat.eq_zero_or_pos m with h1 | h1
  ·subst h1
   obtain rfl := hm0 rfl
   exact .inr ⟨rfl, rfl, rfl, b'⟩
  ·refine .inl ⟨by rw [decide_eq_false (by omega)]; rfl, (s.drop m).length, by rw [List.length_drop]; omega, rfl, b', rfl, rfl⟩
theorem noRdr : Rdr w0 316 (.agg #[]) (fun O h s e k => O = (fun _ => False) ∧ s = [] ∧ e = eofV) (fun O h _ => O = (fun _ => False)) where
 keep := by
  rintro O h h' s e k ⟨rfl, rfl, rfl⟩ hn hk
  exact ⟨rfl, rfl, rfl⟩
 ekeep := by
  rintro O h h' e rfl hn hk
  rfl
 read := by
  rintro O h s e k pb pre mid post cp ⟨rfl, rfl, rfl⟩ hpb hw hat h0 hcp hcl
  refine ACall.known fun ⟨hN, hB⟩ => ?_
  refine (noRead_ok _).mono ?_
  rintro v h' ⟨rfl, x⟩
  exact ⟨_, 0, _, fun i hi => .inl hi, x.1, fun i hi _ _ => x.2 i hi, Nat.zero_le _, Nat.zero_le _, rfl, by simpa [byteVals] using (x.2 pb (hB _ _ hat)).trans hat, .inr ⟨rfl, rfl, rfl⟩⟩
end Go.Proofs.YtbjaapiliegegaaGreatDoor.Sy
end
