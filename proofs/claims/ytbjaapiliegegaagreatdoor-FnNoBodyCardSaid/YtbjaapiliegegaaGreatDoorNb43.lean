/- Of the proof of FnNoBody: SgH SgI. -/
import Derived.Recover
import Derived.Tactics
import Derived.Tactics2
import Derived.Test.YtbjaapiliegegaaGreatDoorNb42
import Derived.Test.YtbjaapiliegegaaGreatDoorNb38
set_option linter.unusedVariables false
set_option linter.unusedSimpArgs false
section
namespace Go.Proofs.YtbjaapiliegegaaGreatDoor.Sy
open Go
set_option maxRecDepth 100000
variable {w0 : World} {h : Heap}
@[push_cast] def p20_9 : Plan := [(0, []), (1, []), (2, []), (3, []), (4, []), (5, []), (6, []), (7, []), (8, []), (9, []), (10, []), (11, []), (12, []), (13, []), (14, []), (15, []), (16, []), (18, []), (19, []), (20, []), (21, []), (22, []), (23, []), (24, []), (25, []), (27, []), (28, []), (29, []), (30, []), (17, [3, 8, 12, 21, 25, 30]), (26, [3, 8, 12, 21, 30]), (31, []), (32, [])]
@[push_cast] def p20_12 : Plan := [(0, []), (1, []), (2, [1]), (3, []), (4, [])]
theorem zzRest_ok {g : Bio} {rest : Str} (G : g.Ok w0.heap.size) (br : BR h g rest) (hl : rest.length < 1000000000) :
  ACall Tryz.prog w0 88 [ptr g.R 0] h (fun v h' => (∃ b cp, v = .slice (some ⟨b, 0, none⟩) rest.length cp) ∧ Keep (g.X ++ [g.db]) h h' ∧ BR h' g []) := by
 refine ACall.known fun hKn => ?_
 obtain ⟨hN, hB⟩ := hKn
 refine ACall.run noCount mixed Tryz.func88 rfl (by kernel_rfl) (Nat.le_of_ble_eq_true rfl) fun X hX => ?_
 have hlt : g.R < h.n ∧ g.bb < h.n ∧ g.sb < h.n ∧ g.db < h.n := by
  obtain ⟨_, _, _, _, _, _, _, ⟨_, _, _, _, _, _, _, _, lR, lB, lS, lD⟩, _⟩ := id br
  exact ⟨lR, lB, lS, lD⟩
 (repeat simp only[push_cast,go_sem_proc,↓ite_only,M_block])
 refine callM_of (readAll_ok (O := fun i => i ∈ g.X ∨ i = g.db) m_75_Read Tryz.func307 rfl (bufRdr g G) ⟨rfl, br, rfl, rfl⟩ (.inl rfl) hl (fun i hi => by simp at hi; omega)) ?_
 rintro v h1 ⟨O', d, er, rfl, ho, n1, fk, ⟨rfl, b1⟩, he, b, cp, tail, rfl, hat, hcp, hlb, hub, hob⟩
 rcases he with ⟨_, rfl⟩ | ⟨hne, _⟩
 rotate_left
 ·exact absurd rfl hne
 (repeat simp only[push_cast,go_sem_proc,↓ite_only,M_block])
 ((with_reducible refine hX _ _ _ (fun j hj => nomatch hj) ?_); simp only[push_cast,go_sem_proc,↓ite_only,M_block,Tryz.results88])
 exact ⟨⟨_, _, rfl⟩, ⟨n1, fun i hi hX => fk i hi (fun hO => hX (by rcases hO with hO | hO; exact (List.mem_append_left [g.db] hO : i ∈ g.X ++ [g.db]); exact (List.mem_append_right g.X (List.mem_singleton.2 hO) : i ∈ g.X ++ [g.db])))⟩, b1⟩
theorem zzAllNone_ok : ACall Tryz.prog w0 89 [.iface 180 (.agg #[])] h (fun v h' => (∃ b cp, v = .tuple #[.slice (some ⟨b, 0, none⟩) 0 cp, .nilIface]) ∧ Ext h h') := by
 refine ACall.known fun hKn => ?_
 obtain ⟨hN, hB⟩ := hKn
 refine ACall.run noCount mixed Tryz.func89 rfl (by kernel_rfl) (Nat.le_of_ble_eq_true rfl) fun X hX => ?_
 (repeat simp only[push_cast,go_sem_proc,↓ite_only,M_block])
 refine callM_of (readAll_ok (O := fun _ => False) (s := []) (e := eofV) (k := 0) m_180_Read Tryz.func316 rfl noRdr ⟨rfl, rfl, rfl⟩ (.inl rfl) (by simp) (fun i hi => hi.elim)) ?_
 rintro v h1 ⟨O', d, er, rfl, ho, n1, fk, rfl, he, b, cp, tail, rfl, hat, hcp, hlb, hub, hob⟩
 rcases he with ⟨_, rfl⟩ | ⟨hne, _⟩
 rotate_left
 ·exact absurd rfl hne
 (repeat simp only[push_cast,go_sem_proc,↓ite_only,M_block])
 ((with_reducible refine hX _ _ _ (fun j hj => nomatch hj) ?_); simp only[push_cast,go_sem_proc,↓ite_only,M_block,Tryz.results89])
 exact ⟨⟨_, _, rfl⟩, n1, fun i hi => fk i hi id⟩
theorem bodyNone_ok {g : Bio} {rest : Str} (G : g.Ok w0.heap.size) (br : BR h g rest) (hl : rest.length < 1000000000) :
  ACall Tryz.prog w0 52 [.iface 180 (.agg #[]), ptr g.R 0] h (fun v h' => (∃ a cp, v = .tuple #[.slice a 0 cp, I rest.length, .bool true]) ∧ Keep (g.X ++ [g.db]) h h') := by
 refine ACall.known fun hKn => ?_
 obtain ⟨hN, hB⟩ := hKn
 refine ACall.run noCount mixed Tryz.func52 rfl (by kernel_rfl) (Nat.le_of_ble_eq_true rfl) fun X hX => ?_
 (repeat simp only[push_cast,go_sem_proc,↓ite_only,M_block])
 refine callM_of zzAllNone_ok ?_
 rintro v h1 ⟨⟨b, cp, rfl⟩, x1⟩
 (repeat simp only[push_cast,go_sem_proc,↓ite_only,M_block])
 refine callM_of (clone_ok (l := []) (.inl ⟨rfl, _, _, rfl⟩) (by simp)) ?_
 rintro v h2 ⟨o2, x2⟩
 obtain ⟨a2, cp2, rfl⟩ := o2.data.len
 (repeat simp only[push_cast,go_sem_proc,↓ite_only,M_block])
 refine callM_of (zzRest_ok G (br.ext (x1.trans x2)) hl) ?_
 rintro v h3 ⟨⟨b3, cp3, rfl⟩, k3, b3'⟩
 (repeat simp only[push_cast,go_sem_proc,↓ite_only,M_block])
 ((with_reducible refine hX _ _ _ (fun j hj => nomatch hj) ?_); simp only[push_cast,go_sem_proc,↓ite_only,M_block,Tryz.results52])
 exact ⟨⟨_, _, rfl⟩, ((x1.trans x2).keep _).trans k3⟩
theorem idle45 (A : Array Value) (w : World) : CallsD Tryz.prog 45 A .returning w fun e u' w' => (∃ v, e = .returned v) ∧ u' = .returning ∧ w' = w := by
 have hsz : 6 ≤ (A ++ Array.replicate (6 - A.size) undef).size := by simp; omega
 refine callsD_of_wpS Tryz.func45 rfl fun c₀ cs hu => ?_
 simp only [Tryz.ntmps45]
 generalize A ++ Array.replicate (6 - A.size) undef = T at hsz ⊢
 have h3 : ∀ v u, ((T.setIfInBounds 3 v).setIfInBounds 4 u).getD 4 undef = u := by intro v u; simp [Array.getD_eq_getD_getElem?]; omega
 have h4 : ∀ v, (T.setIfInBounds 3 v)[3]?.getD undef = v := by intro v; simp; omega
 apply wpS_seq
 apply wpS_region
 simp [wpOpsS, go_sem, recoverD, hu, Exit.thenS, h4]
 refine wpS_cond (t := false) (by simp [Act.eval]; omega) ?_
 simp only [Bool.false_eq_true, if_false]
 refine wpS_of_wp (wp_skip ?_)
 cases c₀
 simp_all [bodyPostS, results, Tryz.results45]
theorem idleD45 (args : List Value) {Q : Heap → Prop} (hq : Q h) : ADefer Tryz.prog w0 45 args h Q :=
 fun w hF => (idle45 args.toArray w).mono fun e u w' ⟨h1, h2, h3⟩ => ⟨h1, h2, h, h3 ▸ hF, hq⟩
def ImplOut (meth l b c : Str) (m : Nat) (h : Heap) (v : Value) (h' : Heap) : Prop :=
 ∃ (fv : Value) (len : Int) (ba : Option Addr) (bcp : Nat), v = .tuple #[.agg #[S [], S [], I (decN b), S c, I 1, I m, S [], fv, .int .i64 len, .bool false, .bool (closeL 1 m (valsH (groupH (respFs l)) sCo)), .slice ba 0 bcp, .bool true, .slice none 0 0], I ((l.length - respAt l : Nat) : Int), .bool true] ∧ Ext h h' ∧
  IFlds h.n h' fv (fieldsH (flenH true (decN b) meth false (closeH 1 m true (groupH (respFs l)))))
set_option maxHeartbeats 16000000 in
theorem impl_none_ok {meth l a b c : Str} {m cp : Nat} {ad : Option Addr} (hd : Data h (.slice ad l.length cp) l) (F : Fine1 l a b c m) (hm0 : meth ≠ [])
  (hpr : valsL (respFs l) sPr = []) (hte : valsL (respFs l) sTE = []) (hcl : (valsL (respFs l) sCL).length ≤ 1) (hnum : ∀ x, (valsL (respFs l) sCL).head? = some x → NumS x) (hz : flenL true (decN b) meth false (valsL (respFs l) sCL) = 0) (hlr : l.length < 1000000) :
  ACall Tryz.prog w0 20 [S meth, .slice ad l.length cp] h (fun v h' => ImplOut meth l b c m h v h') := by
 refine ACall.known fun hKn => ?_
 obtain ⟨hN, hB⟩ := hKn
 refine ACall.runD noCount mixed Tryz.func20 rfl (by kernel_rfl) (Nat.le_of_ble_eq_true rfl) fun X hX => ?_
 (repeat simp only[push_cast,go_sem_proc,↓ite_only,M_block])
 generalize hhe : Heap.new (Heap.new (Heap.new h _) _) _ = h1
 have n1 : h1.n = h.n + 3 := by rw [← hhe]; rfl
 have x1 : Ext h h1 := by rw [← hhe]; exact Keep.ext (by repeat (first | exact Keep.refl _ _ | assumption | refine Keep.put ?_ (by first | (left; simp; done) | (right; omega)) _ | refine Keep.new ?_ _))
 have m1 : h1.at h.n = some (.cells [S [], S [], I 0, S [], I 0, I 0, S [], .slice none 0 0, .int .i64 0, .bool false, .bool false, .slice none 0 0, .bool false, .slice none 0 0] 40 0 0) := by
  rw [← hhe, at_new_ne _ _ (by simp only [n_new]; omega), at_new_ne _ _ (by simp only [n_new]; omega)]; exact at_new_eq _ _
 have i1 : h1.at (h.n + 1) = some (.cells [I 0] 3 0 0) := by
  rw [← hhe, at_new_ne _ _ (by simp only [n_new]; omega)]; exact at_new_eq _ _
 have j1 : h1.at (h.n + 1 + 1) = some (.cells [.bool false] 4 0 0) := by rw [← hhe]; exact at_new_eq _ _
 clear hhe
 refine callM_of (clone_ok (hd.ext hB x1) (by omega)) ?_
 rintro v h2 ⟨o2, x2⟩
 rcases o2 with ⟨hl0, _⟩ | ⟨db, pre, post, cpd, hdb1, hdb2, rfl, hcpd, hatd⟩
 ·subst hl0
  have := F.line
  simp [lineL, lineJ] at this
 have n2 := x2.1
 (repeat simp only[push_cast,go_sem_proc,↓ite_only,M_block])
 refine callM_of (zzReader_ok (db := db) (src := l) (.inr ⟨pre, post, cpd, 0, 0, rfl, hcpd, hatd⟩) (by omega) hdb2) ?_
 rintro v h3 ⟨x3, n3, rfl, b3⟩
 have G : (⟨h2.n + 1, h2.n + 2, h2.n, db⟩ : Bio).Ok w0.heap.size := ⟨by show _ ≤ h2.n + 1; omega, by show _ ≤ h2.n + 2; omega, by show _ ≤ h2.n; omega, by show h2.n + 1 ≠ h2.n + 2; omega, by show h2.n + 1 ≠ h2.n; omega, by show h2.n + 1 ≠ db; omega, by show h2.n + 2 ≠ h2.n; omega, by show h2.n + 2 ≠ db; omega, by show h2.n ≠ db; omega⟩
 have hm : sameL meth [] = false := sameL_false hm0
 obtain ⟨g, hg⟩ : ∃ g : Bio, g = ⟨h2.n + 1, h2.n + 2, h2.n, db⟩ := ⟨_, rfl⟩
 rw [← hg] at G b3
 have hgR : h2.n + 1 = g.R := by rw [hg]
 have hgX : g.X = [h2.n + 1, h2.n + 2, h2.n] := by rw [hg]
 have hgd : g.db = db := by rw [hg]
 rw [hgR]
 (repeat simp only[push_cast,go_sem_proc,↓ite_only,M_block])
 refine callM_of (asked_ok meth hm) ?_
 rintro v h4 ⟨x4, qb, qr, rfl, hq1, hq2, hq3⟩
 (repeat simp only[push_cast,go_sem_proc,↓ite_only,M_block])
 refine callM_of (http_none_ok G (b3.ext x4) F hq2 hq3 (by rw [hgX]; simp; omega) hpr hte hcl hnum hz hlr) ?_
 rintro v h5 ⟨rb, mb, len, pr, un, own, rfl, hrb, hrl5, k5, b5, hown, r5, m5⟩
 rw [hgX] at k5
 have n4 := x4.1
 have n5 := k5.1
 have k05 : Keep [h2.n + 1, h2.n + 2, h2.n] h1 h5 := (x2.keep _).trans ((x3.keep _).trans ((x4.keep _).trans k5))
 have hoX : ∀ i, i < h2.n → i ∉ [h2.n + 1, h2.n + 2, h2.n] := fun i hi => by simp; omega
 have m5' := (k05.2 h.n (by omega) (hoX _ (by omega))).trans m1
 have i5 := (k05.2 (h.n + 1) (by omega) (hoX _ (by omega))).trans i1
 have j5 := (k05.2 (h.n + 1 + 1) (by omega) (hoX _ (by omega))).trans j1
 obtain ⟨st, hst⟩ : ∃ st, b ++ 32 :: c = st := ⟨_, rfl⟩
 have hstl : st.length = c.length + 4 := by rw [← hst, List.length_append, List.length_cons, F.bl]; omega
 have hdrop : (st.take st.length).drop 4 = c := by
  rw [List.take_length, ← hst, show b ++ 32 :: c = (b ++ [32]) ++ c by simp, List.drop_left' (by simp [F.bl])]
 rw [hst] at r5
 have hsm : Small 61 (groupH (respFs l)) := group_small (fields_count _) (fun f hf => by have := (fields_short _ f hf).2; rw [List.length_drop] at this; omega)
 have hsm2 : Small 61 (flenH true (decN b) meth false (closeH 1 m true (groupH (respFs l)))) := (hsm.sub (closeH_sub _ _ _ _)).sub (flenH_sub _ _ _ _ _)
 have htot := hsm2.total
 have hcs : (c = [] ∧ decide ((4 : Int) < (st.length : Int)) = false) ∨ decide ((4 : Int) < (st.length : Int)) = true := by
  by_cases hc : c = []
  ·exact .inl ⟨hc, decide_eq_false (by rw [hstl, hc]; simp)⟩
  ·have := List.length_pos_iff.2 hc
   exact .inr (decide_eq_true (by omega))
 rcases hcs with ⟨hc, hl4⟩ | hl4
 all_goals first
 | (have := hc; (repeat(first|(simp(disch:=omega)only[push_cast,go_sem_proc,↓ite_only,M_block,r5, hl4])|(with_reducible refine M_draw (id:=9) p20_9 ?_ ?_;focus kernel_rfl))))
 | ((repeat(first|(simp(disch:=omega)only[push_cast,go_sem_proc,↓ite_only,M_block,r5, hl4, hdrop])|(with_reducible refine⟨by omega,?_⟩)|(with_reducible refine M_draw (id:=9) p20_9 ?_ ?_;focus kernel_rfl))))
 all_goals
  refine callP_of (fieldsMap_ok m5 (by have := hsm2.1; omega) (hsm2.short (by omega)) (by omega)) ?_
  rintro v h6 ⟨x6, f6⟩
  have n6 := x6.1
  have r6 := (x6.2 rb hrl5).trans r5
  obtain ⟨fa, fc, rfl⟩ := Row.len f6
  (repeat simp only[push_cast,go_sem_proc,↓ite_only,M_block,r6])
  refine callP_of chunkedNil_ok ?_
  rintro v h7 ⟨rfl, rfl⟩
  have m7 := (x6.2 h.n (by omega)).trans m5'
  (repeat(first|(simp(disch:=first|omega|decide)only[push_cast,go_sem_proc,↓ite_only,M_block,r6, m7])|(with_reducible refine⟨by omega,?_⟩)))
  generalize hhe : Heap.put h7 h.n _ = h8
  have k8 : Keep [h.n] h7 h8 := by rw [← hhe]; exact (by repeat (first | exact Keep.refl _ _ | assumption | refine Keep.put ?_ (by first | (left; simp; done) | (right; omega)) _ | refine Keep.new ?_ _))
  have m8 : h8.at h.n = some (.cells [S [], S [], I (decN b), S c, I 1, I m, S [], .slice fa (fieldsH (flenH true (decN b) meth false (closeH 1 m true (groupH (respFs l))))).length fc, .int .i64 len, .bool false, .bool (closeL 1 m (valsH (groupH (respFs l)) sCo)), .slice none 0 0, .bool false, .slice none 0 0] 40 0 0) := by
   rw [← hhe]
   first
   | exact at_put_eq _ _ _
   | (rw [hc]; exact at_put_eq _ _ _)
  clear hhe
  have n8 := k8.1
  have b8 : BR h8 g (l.drop (respAt l)) := (b5.ext x6).keep k8 (by simp; omega) (by rw [hg]; simp; omega) (by rw [hg]; simp; omega) (by rw [hgd]; simp; omega)
  have r8 := (k8.2 rb (by omega) (by simp; omega)).trans r6
  have i8 := (k8.2 (h.n + 1) (by omega) (by simp)).trans ((x6.2 (h.n + 1) (by omega)).trans i5)
  have j8 := (k8.2 (h.n + 1 + 1) (by omega) (by simp; omega)).trans ((x6.2 (h.n + 1 + 1) (by omega)).trans j5)
  refine callM_of (bodyNone_ok G b8 (by rw [List.length_drop]; omega)) ?_
  rintro v h9 ⟨⟨ba, bcp, rfl⟩, k9⟩
  rw [hgX, hgd] at k9
  have n9 := k9.1
  have hoY : ∀ i, i < h.n + 3 ∨ i = rb → i ∉ [h2.n + 1, h2.n + 2, h2.n] ++ [db] := fun i hi => by simp; omega
  have m9 := (k9.2 h.n (by omega) (hoY _ (by omega))).trans m8
  have i9 := (k9.2 (h.n + 1) (by omega) (hoY _ (by omega))).trans i8
  have j9 := (k9.2 (h.n + 1 + 1) (by omega) (hoY _ (by omega))).trans j8
  have r9 := (k9.2 rb (by omega) (hoY _ (by omega))).trans r8
  (repeat(first|(simp(disch:=first|omega|decide|(simp only[zN];omega))only[push_cast,go_sem_proc,↓ite_only,M_block,m9, i9, j9, r9])|(with_reducible refine⟨by omega,?_⟩)))
  generalize hhe : Heap.put _ h.n _ = h10
  have k10 : Keep [h.n, h.n + 1] h9 h10 := by rw [← hhe]; exact (by repeat (first | exact Keep.refl _ _ | assumption | refine Keep.put ?_ (by first | (left; simp; done) | (right; omega)) _ | refine Keep.new ?_ _))
  have m10 : h10.at h.n = some (.cells [S [], S [], I (decN b), S c, I 1, I m, S [], .slice fa (fieldsH (flenH true (decN b) meth false (closeH 1 m true (groupH (respFs l))))).length fc, .int .i64 len, .bool false, .bool (closeL 1 m (valsH (groupH (respFs l)) sCo)), .slice ba 0 bcp, .bool true, .slice none 0 0] 40 0 0) := by
   rw [← hhe]; exact at_put_eq _ _ _
  have i10 : h10.at (h.n + 1) = some (.cells [I ((l.drop (respAt l)).length : Nat)] 3 0 0) := by
   rw [← hhe, at_put_ne _ _ (by omega)]; exact at_put_eq _ _ _
  clear hhe
  have n10 := k10.1
  have j10 := (k10.2 (h.n + 1 + 1) (by omega) (by simp; omega)).trans j9
  have r10 := (k10.2 rb (by omega) (by simp; omega)).trans r9
  refine callM_of fieldsNil_ok ?_
  rintro v h11 ⟨x11, rfl⟩
  have m11 := (x11.2 h.n (by omega)).trans m10
  have i11 := (x11.2 (h.n + 1) (by omega)).trans i10
  have j11 := (x11.2 (h.n + 1 + 1) (by omega)).trans j10
  (repeat(first|(simp(disch:=first|omega|decide|(simp only[zN];omega))only[push_cast,go_sem_proc,↓ite_only,M_block,m11, i11, j11])|(with_reducible refine⟨by omega,?_⟩)|(with_reducible refine M_draw (id:=12) p20_12 ?_ ?_;focus kernel_rfl)))
  generalize hhe : Heap.put _ (h.n + 1 + 1) _ = h12
  have k12 : Keep [h.n, h.n + 1, h.n + 1 + 1] h11 h12 := by rw [← hhe]; exact (by repeat (first | exact Keep.refl _ _ | assumption | refine Keep.put ?_ (by first | (left; simp; done) | (right; omega)) _ | refine Keep.new ?_ _))
  have m12 : h12.at h.n = some (.cells [S [], S [], I (decN b), S c, I 1, I m, S [], .slice fa (fieldsH (flenH true (decN b) meth false (closeH 1 m true (groupH (respFs l))))).length fc, .int .i64 len, .bool false, .bool (closeL 1 m (valsH (groupH (respFs l)) sCo)), .slice ba 0 bcp, .bool true, .slice none 0 0] 40 0 0) := by
   rw [← hhe, at_put_ne _ _ (by omega), at_put_ne _ _ (by omega)]; exact at_put_eq _ _ _
  have i12 : h12.at (h.n + 1) = some (.cells [I ((l.drop (respAt l)).length : Nat)] 3 0 0) := by
   rw [← hhe, at_put_ne _ _ (by omega)]; exact at_put_eq _ _ _
  have j12 : h12.at (h.n + 1 + 1) = some (.cells [.bool true] 4 0 0) := by
   rw [← hhe]; exact at_put_eq _ _ _
  clear hhe
  have n12 := k12.1
  have n11 := x11.1
  refine hX _ _ _ _ (fun j hj => nomatch hj) ?_ ?_
  ·intro x hx g' hg'
   rw [List.mem_singleton.1 hx] at hg'
   cases hg'
   exact ⟨_, Tryz.func45, fun e => by cases e⟩
  ·refine idleD45 _ ?_
   show got _ _
   simp only[push_cast,go_sem_proc,↓ite_only,M_block,m12, i12, j12, Tryz.results20]
   have xx : Ext h h12 := by
    refine ⟨by omega, fun i hi => ?_⟩
    rw [k12.2 i (by omega) (by simp; omega), x11.2 i (by omega), k10.2 i (by omega) (by simp; omega), k9.2 i (by omega) (hoY _ (by omega)), k8.2 i (by omega) (by simp; omega), x6.2 i (by omega), k05.2 i (by omega) (hoX _ (by omega)), x1.2 i hi]
   have ff : IFlds h.n h12 (.slice fa (fieldsH (flenH true (decN b) meth false (closeH 1 m true (groupH (respFs l))))).length fc) (fieldsH (flenH true (decN b) meth false (closeH 1 m true (groupH (respFs l))))) := by
    refine Row.lower (Row.keep f6 (by omega) (fun d hd hlo _ => ?_)) (by omega)
    rw [k12.2 d (by omega) (by simp; omega), x11.2 d (by omega), k10.2 d (by omega) (by simp; omega), k9.2 d (by omega) (by simp; omega), k8.2 d (by omega) (by simp; omega)]
   exact ⟨_, len, ba, bcp, by rw [List.length_drop], xx, ff⟩
end Go.Proofs.YtbjaapiliegegaaGreatDoor.Sy
end
section
namespace Go.Proofs.YtbjaapiliegegaaGreatDoor.Sy
open Go Go.RowKit
set_option maxRecDepth 100000
variable {w0 : World} {h : Heap}
section
variable {P : Program} {nt : Nat} {ops : Array Oper}
def anyW (P : Program) (w0 : World) (ops : Array Oper) : Nat → Array Bool → Tm → Df → Heap → (Tm → Df → Heap → Prop) → Prop
 | 0, listed, tm, df, h, K => Region.ready .any ops listed = [] ∧ K tm df h
 | fuel + 1, listed, tm, df, h, K => (Region.ready .any ops listed = [] → K tm df h) ∧
  ∀ j ∈ Region.ready .any ops listed, ∃ o, ops[j]? = some o ∧ oneW P w0 ops o tm df h fun tm df h => anyW P w0 ops fuel (listed.setIfInBounds j true) tm df h K
theorem anyW_ok (hng : NoCount P) (hfit : ∀ o ∈ ops.toList, fits nt o.dst = true) {K : Tm → Df → Heap → Prop} :
  ∀ (fuel : Nat) (listed : Array Bool) {Y : Nat → World → Prop} {tm : Tm} {df : Df} {h : Heap} {a : Act} {w : World}, (∀ k w, Y k w) → anyW P w0 ops fuel listed tm df h K → RS w0 nt tm df h a w → wpAnyK P ops (Fin w0 nt K) fuel listed Y a w
 | 0, listed, Y, tm, df, h, a, w, hY, e, hs => ⟨e.1, tm, df, h, e.2, hs⟩
 | fuel + 1, listed, Y, tm, df, h, a, w, hY, e, hs => by
  refine ⟨fun hr => ⟨tm, df, h, e.1 hr, hs⟩, fun j hj => ?_⟩
  obtain ⟨o, ho, h1⟩ := e.2 j hj
  unfold wpOp
  simp only [ho]
  refine oneW_ok hng h1 hs (hfit o (List.mem_of_getElem? (by simpa using ho))) fun tm' df' h' a' w' hk hs' => ⟨fun _ => True, fun _ _ _ _ => hY _ _, anyW_ok hng hfit fuel _ (fun k w => ?_) hk hs'⟩
  unfold upd
  split
  ·trivial
  ·exact hY _ _
def preOk (P : Program) (ops : Array Oper) : Plan → Array Bool → Bool
 | [], _ => true
 | (i, _) :: l, listed => match ops[i]? with
  | none => false
  | some o => still P o.op && ((Region.ready .any ops listed).contains i && Region.free .any ops listed i) && preOk P ops l (listed.setIfInBounds i true)
def afterL : Plan → Array Bool → Array Bool
 | [], listed => listed
 | (i, _) :: l, listed => afterL l (listed.setIfInBounds i true)
theorem preW_ok (hng : NoCount P) (hsel : Region.noSelect ops = true) (hfit : ∀ o ∈ ops.toList, fits nt o.dst = true) {K : Tm → Df → Heap → Prop} :
  ∀ (l : Plan) (fuel : Nat) (listed : Array Bool) {acc : Acc} {Y : Nat → World → Prop} {tm : Tm} {df : Df} {h : Heap} {a : Act} {w : World}, preOk P ops l listed = true → planW P w0 ops l acc tm df h (fun tm df h => anyW P w0 ops fuel (afterL l listed) tm df h K) → RS w0 nt tm df h a w → Down ops listed → (∀ k w, Y k w) →
   wpAnyK P ops (Fin w0 nt K) (l.length + fuel) listed Y a w
 | [], fuel, listed, acc, Y, tm, df, h, a, w, hok, hp, hs, hd, hY => by
  rw [List.length_nil, Nat.zero_add]
  exact anyW_ok hng hfit fuel listed hY hp hs
 | (i, ks) :: l, fuel, listed, acc, Y, tm, df, h, a, w, hok, hp, hs, hd, hY => by
  simp only [preOk] at hok
  simp only [planW] at hp
  rw [List.length_cons, show l.length + 1 + fuel = (l.length + fuel) + 1 by omega]
  split at hok
  ·cases hok
  ·rename_i o ho
   simp only [ho] at hp
   have hof : fits nt o.dst = true := hfit o (List.mem_of_getElem? (by simpa using ho))
   simp only [Bool.and_eq_true] at hok
   obtain ⟨⟨hst, hready, hfree⟩, hok2⟩ := hok
   rw [if_pos hst] at hp
   have hmem : i ∈ Region.ready .any ops listed := by simpa using hready
   have hw := wanted_ok (ops := ops) (o := o) hs.rf
   have hY' : ∀ k w, upd Y i (fun _ => True) k w := fun k w => by
    unfold upd
    split
    ·trivial
    ·exact hY _ _
   by_cases hwt : awanted ops tm o = true
   ·have h1 := hp.1 hwt
    obtain ⟨out, hout, hk⟩ := got_some h1
    obtain ⟨v, rfl, hy⟩ := still_yields (a := a) hng hs.rf hst hout
    refine wpAnyK_first (S := fun _ => True) (v := v) ho (Region.noSelect_spec hsel) (fun _ _ _ h => h.elim) (l.length + fuel) listed Y a w hd (Region.free_spec ho hfree) hmem (.inl ⟨by rw [hw, hwt], fun w' _ => hy w'⟩) trivial ?_
    exact preW_ok hng hsel hfit l fuel _ hok2 hk (hs.put hof v hs.full) (hd.add hmem) hY'
   ·have hwf : awanted ops tm o = false := by simpa using hwt
    refine wpAnyK_first (S := fun _ => True) (v := undef) ho (Region.noSelect_spec hsel) (fun _ _ _ h => h.elim) (l.length + fuel) listed Y a w hd (Region.free_spec ho hfree) hmem (.inr ⟨by rw [hw, hwf], rfl⟩) trivial ?_
    exact preW_ok hng hsel hfit l fuel _ hok2 (hp.2 hwf) (hs.put hof undef hs.full) (hd.add hmem) hY'
theorem reg_mix_ok (hng : NoCount P) (hmix : P.follows .mixedOrders = true) {id : Nat} {l : Plan} {fuel : Nat} {tm : Tm} {df : Df} {h : Heap} {a : Act} {w : World} {K : Tm → Df → Heap → Prop} (hsel : Region.noSelect ops = true) (hfit : ∀ o ∈ ops.toList, fits nt o.dst = true) (hlen : ops.size = l.length + fuel)
  (hl : preOk P ops l (Array.replicate ops.size false) = true) (hp : planW P w0 ops l [] tm df h (fun tm df h => anyW P w0 ops fuel (afterL l (Array.replicate ops.size false)) tm df h K)) (hs : RS w0 nt tm df h a w) : (Code.region id ops true).wp P (Fin w0 nt K) a w := by
 refine wp_region_any hmix ?_
 have key := preW_ok (a := a) (w := w.drew) hng hsel hfit l fuel (Array.replicate ops.size false) (Y := fun _ _ => True) hl hp ⟨hs.rf, hs.rd, hs.full.drew⟩ (fun c hc => by
  exfalso
  rw [Array.getD_eq_getD_getElem?, Array.getElem?_replicate] at hc
  split at hc <;> simp at hc) (fun _ _ => trivial)
 rw [← hlen] at key
 exact wpAny_of_K _ _ _ _ _ key
theorem one_of_M {o : Oper} {tm : Tm} {df : Df} {h : Heap} {K : Tm → Df → Heap → Prop} (e : M P w0 [.ops ops [o]] .normal tm df h (fun _ tm df h => K tm df h)) : oneW P w0 ops o tm df h K := e
theorem plan_of_M {l : Plan} {tm : Tm} {df : Df} {h : Heap} {K : Tm → Df → Heap → Prop} (e : M P w0 [.plan ops l []] .normal tm df h (fun _ tm df h => K tm df h)) : planW P w0 ops l [] tm df h K := e
theorem seq_wp (hng : NoCount P) (hmix : P.follows .mixedOrders = true) {A R : Code} {Q : Exit → Act → World → Prop} {tm : Tm} {df : Df} {h : Heap} {a : Act} {w : World} {J : Tm → Df → Heap → Prop} (hfit : fitsCode nt A = true) (hA : M P w0 [.code A] .normal tm df h (fun e tm df h => e = .normal ∧ J tm df h)) (hs : RS w0 nt tm df h a w)
  (hR : ∀ tm df h a w, J tm df h → RS w0 nt tm df h a w → R.wp P Q a w) : (Code.seq A R).wp P Q a w := by
 refine wp_seq (wp_mono (code_ok (Q := fun e tm df h => e = .normal ∧ J tm df h) hng hmix hfit hA hs) fun e a' w' hp => ?_)
 cases e <;> first | (exact hp.elim) | skip
 ·obtain ⟨tm', df', h', ⟨_, hq⟩, hs'⟩ := hp
  exact hR _ _ _ _ _ hq hs'
 ·obtain ⟨tm', df', h', ⟨hq, _⟩, hs'⟩ := hp
  cases hq
 ·obtain ⟨tm', df', h', ⟨hq, _⟩, hs'⟩ := hp
  cases hq
theorem ACall.intro_wp (hng : NoCount P) {f : FuncId} {F : Func} {c : Code} (hf : P.funcs[f]? = some F) (hb : F.body = some c) {args : List Value} (hl : args.length ≤ F.ntmps) {h : Heap} {Q : Value → Heap → Prop}
  (e : ∀ a w, RS w0 F.ntmps (slots 0 args) [] h a w → c.wp P (PostW w0 F.ntmps (fun e tm df h' => e = .ret ∧ df = [] ∧ got (resOf P tm h' F.results.toList) fun vs => Q (pack vs) h')) a w) : ACall P w0 f args h Q := by
 intro w hF
 refine calls_of_wp_defers hf hb ?_
 refine wp_mono (e _ _ (start_ok hF hl)) fun e a w hp => ?_
 cases e <;> first | (exact hp.elim) | skip
 ·obtain ⟨tm, df, h', ⟨hq, _⟩, hs⟩ := hp
  cases hq
 ·obtain ⟨tm, df, h', ⟨hq, _⟩, hs⟩ := hp
  cases hq
 ·obtain ⟨tm, df, h', ⟨_, rfl, hg⟩, hs⟩ := hp
  show Leaves P F a.tmps _ a.defers .returning w
  rw [hs.rd]
  refine defs_ok (K := fun h2 => got (resOf P tm h2 F.results.toList) fun vs => Q (pack vs) h2) (fun h2 w2 hk hF2 => ?_) hng hg (fun x hx => by cases hx) hs.full
  obtain ⟨vs, hvs, hq⟩ := got_some hk
  exact ⟨pack vs, results_ok hs.rf hF2 hvs, pack vs, h2, rfl, hF2, hq⟩
end
def stepA (P : Program) (w0 : World) (ops : Array Oper) (x : Option Oper) (tm : Tm) (df : Df) (h : Heap) (K : Tm → Df → Heap → Prop) : Prop :=
 match x with
 | none => False
 | some o => M P w0 [.ops ops [o]] .normal tm df h (fun _ tm df h => K tm df h)
theorem stepA_some {P : Program} {ops : Array Oper} {o : Oper} {tm : Tm} {df : Df} {h : Heap} {K : Tm → Df → Heap → Prop} : stepA P w0 ops (some o) tm df h K ↔ M P w0 [.ops ops [o]] .normal tm df h (fun _ tm df h => K tm df h) := Iff.rfl
theorem anyW_step {P : Program} {ops : Array Oper} {fuel : Nat} {listed : Array Bool} {tm : Tm} {df : Df} {h : Heap} {K : Tm → Df → Heap → Prop} (rs : List Nat) (hr : Region.ready .any ops listed = rs) (hne : rs ≠ []) (e : ∀ j ∈ rs, stepA P w0 ops ops[j]? tm df h fun tm df h => anyW P w0 ops fuel (listed.setIfInBounds j true) tm df h K) :
  anyW P w0 ops (fuel + 1) listed tm df h K := ⟨fun h0 => absurd (hr.symm.trans h0) hne, fun j hj => by
   have := e j (hr ▸ hj)
   unfold stepA at this
   split at this
   ·exact this.elim
   ·rename_i o ho
    exact ⟨o, ho, one_of_M this⟩⟩
theorem anyW_end {P : Program} {ops : Array Oper} {listed : Array Bool} {tm : Tm} {df : Df} {h : Heap} {K : Tm → Df → Heap → Prop} (hr : Region.ready .any ops listed = []) (e : K tm df h) : anyW P w0 ops 0 listed tm df h K := ⟨hr, e⟩
def decL (n : Nat) : Str := if h : n < 10 then [UInt8.ofNat (48 + n)] else decL (n / 10) ++ [UInt8.ofNat (48 + n % 10)]
theorem decL_small {n : Nat} (h : n < 10) : decL n = [UInt8.ofNat (48 + n)] := by unfold decL; rw [dif_pos h]
theorem decL_big {n : Nat} (h : ¬n < 10) : decL n = decL (n / 10) ++ [UInt8.ofNat (48 + n % 10)] := by rw [decL, dif_neg h]
theorem decL_len (n : Nat) : (decL n).length ≤ n + 1 := by
 induction n using Nat.strongRecOn with
 | ind n ih =>
  by_cases h : n < 10
  ·rw [decL_small h]; simp
  ·rw [decL_big h, List.length_append, List.length_singleton]
   have := ih (n / 10) (by omega)
   omega
theorem dig {n : Nat} (h : n < 10) : (((48 : Int) + (n : Int)) % 256).toNat = 48 + n := by omega
set_option maxHeartbeats 4000000 in
theorem decimal_ok (n : Nat) : n < 1000000 → ∀ {h : Heap}, ACall Tryz.prog w0 37 [I n] h (fun v h' => v = S (decL n) ∧ Ext h h') := by
 induction n using Nat.strongRecOn with
 | ind n ih =>
  intro hn h
  by_cases h10 : n < 10
  ·refine ACall.known fun hKn => ?_
   obtain ⟨hN, hB⟩ := hKn
   refine ACall.run noCount mixed Tryz.func37 rfl (by kernel_rfl) (Nat.le_of_ble_eq_true rfl) fun X hX => ?_
   have d : decide ((n : Int) < 10) = true := decide_eq_true (by omega)
   (repeat simp(disch:=omega)only[push_cast,go_sem_proc,↓ite_only,M_block,d, bytesOf])
   ((with_reducible refine hX _ _ _ (fun j hj => nomatch hj) ?_); simp only[push_cast,go_sem_proc,↓ite_only,M_block,Tryz.results37])
   rw [dig h10, decL_small h10]
   exact ⟨rfl, Keep.ext (by repeat (first | exact Keep.refl _ _ | assumption | refine Keep.put ?_ (by first | (left; simp; done) | (right; omega)) _ | refine Keep.new ?_ _))⟩
  ·refine ACall.known fun ⟨hN, hB⟩ => ?_
   refine ACall.intro_wp noCount Tryz.func37 rfl (Nat.le_of_ble_eq_true rfl) fun a w hs => ?_
   refine seq_wp noCount mixed (J := fun tm df h' => df = [] ∧ h' = h ∧ tget tm 0 = I n) (by kernel_rfl) ?_ hs ?_
   ·(repeat simp only[push_cast,go_sem_proc,↓ite_only,M_block])
    first
    | done
    | exact ⟨rfl, rfl, rfl, (by first|assumption|(simp only[zT,Nat.reduceBEq];first|done|assumption|rfl))⟩
    | exact ⟨rfl, rfl, (by first|assumption|(simp only[zT,Nat.reduceBEq];first|done|assumption|rfl))⟩
    | exact (by first|assumption|(simp only[zT,Nat.reduceBEq];first|done|assumption|rfl))
   rintro tm df h1 a w ⟨rfl, rfl, t0⟩ hs
   refine seq_wp noCount mixed (J := fun tm df h' => df = [] ∧ h' = h1 ∧ tget tm 0 = I n) (by kernel_rfl) ?_ hs ?_
   ·have d : decide ((n : Int) < 10) = false := decide_eq_false (by omega)
    (repeat simp only[push_cast,go_sem_proc,↓ite_only,M_block,t0, d])
    first
    | done
    | exact ⟨rfl, rfl, rfl, (by first|assumption|(simp only[zT,Nat.reduceBEq];first|done|assumption|rfl))⟩
    | exact ⟨rfl, rfl, (by first|assumption|(simp only[zT,Nat.reduceBEq];first|done|assumption|rfl))⟩
    | exact (by first|assumption|(simp only[zT,Nat.reduceBEq];first|done|assumption|rfl))
   rintro tm df h2 a w ⟨rfl, rfl, t0⟩ hs
   have hq : (n : Int).tdiv 10 = (n : Int) / 10 := Int.tdiv_eq_ediv_of_nonneg (by omega)
   have hr : (n : Int).tmod 10 = (n : Int) % 10 := Int.tmod_eq_emod_of_nonneg (by omega)
   have hdg : ((48 + (n : Int) % 10) % 256).toNat = 48 + n % 10 := by omega
   have ih' : ∀ {h : Heap}, ACall Tryz.prog w0 37 [I ((n : Int) / 10)] h (fun v h' => v = S (decL (n / 10)) ∧ Ext h h') := by
    intro h
    have := ih (n / 10) (by omega) (by omega) (h := h)
    rwa [show ((n / 10 : Nat) : Int) = (n : Int) / 10 by omega] at this
   have hlen : (decL (n / 10)).length + 1 < 1099511627776 := by have := decL_len (n / 10); omega
   refine wp_seq (wp_mono (reg_mix_ok (l := [(0, []), (1, []), (3, []), (4, []), (5, []), (6, [])]) (fuel := 5) (K := fun tm df h' => df = [] ∧ Ext h2 h' ∧ tget tm 2 = S (decL n)) noCount mixed (by kernel_rfl) (List.all_eq_true.1 (by kernel_rfl)) rfl (by kernel_rfl) ?_ hs) fun e a' w' hp => ?_)
   ·refine plan_of_M ?_
    (repeat simp(disch:=omega)only[push_cast,go_sem_proc,↓ite_only,M_block,t0, hq, hr])
    refine anyW_step [2, 7] (by kernel_rfl) (by simp) ?_
    intro j hj
    rcases List.mem_cons.1 hj with rfl | hj
    ·(repeat simp only[push_cast,go_sem_proc,↓ite_only,M_block,stepA_some])
     refine callM_of ih' ?_
     rintro v h3 ⟨rfl, x3⟩
     (repeat simp only[push_cast,go_sem_proc,↓ite_only,M_block])
     refine anyW_step [7] (by kernel_rfl) (by simp) ?_
     intro j hj
     obtain rfl := List.mem_singleton.1 hj
     (repeat simp only[push_cast,go_sem_proc,↓ite_only,M_block,stepA_some])
     refine anyW_step [8] (by kernel_rfl) (by simp) ?_
     intro j hj
     obtain rfl := List.mem_singleton.1 hj
     (repeat simp only[push_cast,go_sem_proc,↓ite_only,M_block,stepA_some, bytesOf, hdg])
     refine anyW_step [9] (by kernel_rfl) (by simp) ?_
     intro j hj
     obtain rfl := List.mem_singleton.1 hj
     (repeat(first|(simp only[push_cast,go_sem_proc,↓ite_only,M_block,stepA_some])|(with_reducible refine⟨by omega,?_⟩)))
     refine anyW_step [10] (by kernel_rfl) (by simp) ?_
     intro j hj
     obtain rfl := List.mem_singleton.1 hj
     (repeat simp only[push_cast,go_sem_proc,↓ite_only,M_block,stepA_some])
     exact anyW_end (by kernel_rfl) ⟨rfl, x3.trans (Keep.ext (by repeat (first | exact Keep.refl _ _ | assumption | refine Keep.put ?_ (by first | (left; simp; done) | (right; omega)) _ | refine Keep.new ?_ _))), by rw [decL_big h10]; exact (by simp only[zT,Nat.reduceBEq])⟩
    ·obtain rfl := List.mem_singleton.1 hj
     (repeat simp only[push_cast,go_sem_proc,↓ite_only,M_block,stepA_some])
     generalize hhe : Heap.new h2 _ = h3
     have a3 : h3.at h2.n = some (.cells [.int .u8 ((48 + (n : Int) % 10) % 256)] 5 0 0) := by rw [← hhe]; exact at_new_eq _ _
     have n3 : h3.n = h2.n + 1 := by rw [← hhe]; rfl
     have x3 : Ext h2 h3 := by rw [← hhe]; exact Keep.ext (by repeat (first | exact Keep.refl _ _ | assumption | refine Keep.put ?_ (by first | (left; simp; done) | (right; omega)) _ | refine Keep.new ?_ _))
     clear hhe
     refine anyW_step [2, 8] (by kernel_rfl) (by simp) ?_
     intro j hj
     rcases List.mem_cons.1 hj with rfl | hj
     ·(repeat simp only[push_cast,go_sem_proc,↓ite_only,M_block,stepA_some])
      refine callM_of ih' ?_
      rintro v h4 ⟨rfl, x4⟩
      have a4 := (x4.2 h2.n (by omega)).trans a3
      (repeat simp only[push_cast,go_sem_proc,↓ite_only,M_block])
      refine anyW_step [8] (by kernel_rfl) (by simp) ?_
      intro j hj
      obtain rfl := List.mem_singleton.1 hj
      (repeat simp only[push_cast,go_sem_proc,↓ite_only,M_block,stepA_some, bytesOf, hdg, a4])
      refine anyW_step [9] (by kernel_rfl) (by simp) ?_
      intro j hj
      obtain rfl := List.mem_singleton.1 hj
      (repeat(first|(simp only[push_cast,go_sem_proc,↓ite_only,M_block,stepA_some])|(with_reducible refine⟨by omega,?_⟩)))
      refine anyW_step [10] (by kernel_rfl) (by simp) ?_
      intro j hj
      obtain rfl := List.mem_singleton.1 hj
      (repeat simp only[push_cast,go_sem_proc,↓ite_only,M_block,stepA_some])
      exact anyW_end (by kernel_rfl) ⟨rfl, x3.trans x4, by rw [decL_big h10]; exact (by simp only[zT,Nat.reduceBEq])⟩
     ·obtain rfl := List.mem_singleton.1 hj
      (repeat simp only[push_cast,go_sem_proc,↓ite_only,M_block,stepA_some, bytesOf, hdg, a3])
      refine anyW_step [2] (by kernel_rfl) (by simp) ?_
      intro j hj
      obtain rfl := List.mem_singleton.1 hj
      (repeat simp only[push_cast,go_sem_proc,↓ite_only,M_block,stepA_some])
      refine callM_of ih' ?_
      rintro v h4 ⟨rfl, x4⟩
      (repeat simp only[push_cast,go_sem_proc,↓ite_only,M_block])
      refine anyW_step [9] (by kernel_rfl) (by simp) ?_
      intro j hj
      obtain rfl := List.mem_singleton.1 hj
      (repeat(first|(simp only[push_cast,go_sem_proc,↓ite_only,M_block,stepA_some])|(with_reducible refine⟨by omega,?_⟩)))
      refine anyW_step [10] (by kernel_rfl) (by simp) ?_
      intro j hj
      obtain rfl := List.mem_singleton.1 hj
      (repeat simp only[push_cast,go_sem_proc,↓ite_only,M_block,stepA_some])
      exact anyW_end (by kernel_rfl) ⟨rfl, x3.trans x4, by rw [decL_big h10]; exact (by simp only[zT,Nat.reduceBEq])⟩
   ·cases e <;> first | (exact hp.elim) | skip
    obtain ⟨tm, df, h3, ⟨rfl, x3, t2⟩, hs3⟩ := hp
    refine wp_ret ⟨tm, [], h3, ⟨rfl, rfl, ?_⟩, hs3⟩
    simp only[push_cast,go_sem_proc,↓ite_only,M_block,t2, Tryz.results37]
    exact x3
end Go.Proofs.YtbjaapiliegegaaGreatDoor.Sy
end
