/- Of the proof of FnNoBody: SfK SfL. -/
import Derived.Test.YtbjaapiliegegaaGreatDoorNb36
set_option linter.unusedVariables false
set_option linter.unusedSimpArgs false
section
namespace Go.Proofs.YtbjaapiliegegaaGreatDoor.Sy
open Go
set_option maxRecDepth 100000
variable {w0 : World} {h : Heap}
@[push_cast] def p86_12 : Plan := [(0, []), (1, []), (2, []), (3, []), (4, []), (5, []), (6, []), (7, []), (8, []), (9, []), (10, []), (11, []), (12, []), (13, []), (14, []), (15, []), (16, [])]
@[push_cast] def p86_29 : Plan := [(0, []), (1, []), (2, []), (3, []), (4, []), (5, []), (6, []), (7, []), (8, []), (9, []), (10, []), (11, []), (12, []), (13, []), (14, []), (15, []), (16, []), (17, []), (18, []), (19, []), (20, []), (21, []), (22, [])]
@[push_cast] def p86_38 : Plan := [(0, []), (1, []), (2, []), (3, []), (4, []), (5, []), (6, []), (7, []), (8, []), (9, []), (10, []), (11, []), (12, []), (13, []), (14, []), (15, []), (16, []), (17, [])]
@[push_cast] def p86_51 : Plan := [(0, []), (1, []), (2, []), (4, []), (5, []), (6, []), (7, []), (8, []), (9, []), (10, []), (3, [9]), (11, []), (12, []), (13, []), (14, []), (15, []), (16, [])]
@[push_cast] def p86_55 : Plan := [(0, []), (1, []), (2, []), (3, []), (5, []), (6, []), (7, []), (8, []), (4, [8]), (9, []), (10, []), (11, []), (12, []), (13, []), (14, [])]
abbrev rsC (st : Value) (code : Nat) (pr : Value) (maj min : Nat) (hd bd : Value) (len : Int) (te : Value) (cl : Bool) (un tr rq : Value) : List Value := [st, I code, pr, I maj, I min, hd, bd, .int .i64 len, te, .bool cl, un, tr, rq]
def TransOut (own : Nat → Prop) (mb rb qb code maj min : Nat) (hs : Hdr) (st pr un : Value) (meth : Str) (h : Heap) (v : Value) (h' : Heap) : Prop :=
 v = .nilIface ∧ Keep [mb, rb] h h' ∧ (∃ len : Int, h'.at rb = some (.cells (rsC st code pr maj min (.map (some mb)) (.iface 180 (.agg #[])) len (.slice none 0 0) (closeL maj min (valsH hs sCo)) un (.map none) (ptr qb 0)) 90 0 0)) ∧ HMap own h' mb (flenH true code meth false (closeH maj min true hs)) []
theorem Keep.fresh {X : List Nat} {a b : Heap} {c : Nat} (k : Keep (X ++ [c]) a b) (hc : a.n ≤ c) : Keep X a b := ⟨k.1, fun i hi hX => k.2 i hi (fun hm => by rcases List.mem_append.1 hm with h | h; exact hX h; cases List.mem_singleton.1 h; omega)⟩
set_option maxHeartbeats 16000000 in
theorem transNone_ok {own : Nat → Prop} {mb rb qb R code maj min : Nat} {hs : Hdr} {st pr un : Value} {meth : Str} {qr : List Value} (m : HMap own h mb hs []) (hNm : w0.heap.size ≤ mb) (hNr : w0.heap.size ≤ rb) (hor : ¬own rb) (hsh : ShortH hs) (hc : code < 1000000) (hmaj : 0 < maj) (hmaj2 : maj < 1000) (hmin : min < 1000)
  (hat : h.at rb = some (.cells (rsC st code pr maj min (.map (some mb)) .nilIface 0 (.slice none 0 0) false un (.map none) (ptr qb 0)) 90 0 0)) (hq : h.at qb = some (.cells (S meth :: qr) 104 0 0)) (hqr : qr.length = 14) (hoq : ¬own qb)
  (hte : getH hs sTE = none) (hl : (valsH hs sCL).length ≤ 1) (hn : ∀ x, (valsH hs sCL).head? = some x → NumS x) (hz : flenL true code meth false (valsH hs sCL) = 0) :
  ACall Tryz.prog w0 86 [.iface 77 (ptr rb 0), ptr R 0, .int .i64 9223372036854775807] h (fun v h' => TransOut own mb rb qb code maj min hs st pr un meth h v h') := by
 refine ACall.known fun hKn => ?_
 obtain ⟨hN, hB⟩ := hKn
 refine ACall.run noCount mixed Tryz.func86 rfl (by kernel_rfl) (Nat.le_of_ble_eq_true rfl) fun X hX => ?_
 have hrl := hB _ _ hat
 have hql := hB _ _ hq
 obtain ⟨hml, hmo⟩ : mb < h.n ∧ own mb := by obtain ⟨_, _, _, m⟩ := m; exact ⟨m.lmb, m.omb⟩
 have hqm : qb ≠ rb := by
  rintro rfl
  rw [hat] at hq
  injection hq with hq
  injection hq with _ e
  cases e
 have hrm : rb ≠ mb := fun e => hor (e ▸ hmo)
 have hqmb : qb ≠ mb := fun e => hoq (e ▸ hmo)
 obtain ⟨own1, ho1⟩ : ∃ o : Nat → Prop, o = fun i => own i ∧ i < h.n := ⟨_, rfl⟩
 have m0 : HMap own1 h mb hs [] := m.mono (fun i hi ho => by rw [ho1]; exact ⟨ho, hi⟩)
 have hno : ∀ i, h.n ≤ i → ¬own1 i := by rw [ho1]; exact fun i hi ho => by have := ho.2; omega
 have hnr : ¬own1 rb := by rw [ho1]; exact fun ho => hor ho.1
 have hnq : ¬own1 qb := by rw [ho1]; exact fun ho => hoq ho.1
 (repeat(first|(simp(disch:=first|omega|decide|(simp only[zN];omega))only[push_cast,go_sem_proc,↓ite_only,M_block,hat])|(with_reducible refine⟨by omega,?_⟩)|(with_reducible refine M_draw (id:=12) p86_12 ?_ ?_;focus kernel_rfl)))
 generalize h1e : Heap.put _ h.n (.cells [.map (some mb), I code, S [71, 69, 84], I maj, I min, .nilIface, .int .i64 0, .bool false, .bool false, .map none] 170 0 0) = h1
 have k1 : Keep [] h h1 := by subst h1e; exact (by repeat (first | exact Keep.refl _ _ | assumption | refine Keep.put ?_ (by first | (left; simp; done) | (right; omega)) _ | refine Keep.new ?_ _))
 have a1 : h1.at h.n = some (.cells (trC (.map (some mb)) code [71, 69, 84] maj min .nilIface 0 false false (.map none)) 170 0 0) := by subst h1e; exact (by first|assumption|(simp(disch:=first|assumption|omega)only[at_put_eq,at_put_ne,at_new_eq,at_new_ne,zN,ne_eq,not_false_eq_true];first|done|assumption|rfl))
 have n1 : h1.n = h.n + 1 := by subst h1e; rfl
 have r1 := (k1.2 _ hrl (by simp)).trans hat
 have q1 := (k1.2 _ hql (by simp)).trans hq
 clear h1e
 refine callP_of (shouldClose_ok (m0.keep k1 (by simp)) hNm hsh maj min true hmaj2 hmin) ?_
 rintro v h2 ⟨rfl, k2, m2⟩
 have kk2 : Keep [mb] h h2 := (k1.more (by simp)).trans k2
 have n2 := k2.1
 have a2 := (k2.2 _ (by omega) (by simp; omega)).trans a1
 have r2 := (k2.2 _ (by omega) (by simp; exact hrm)).trans r1
 have q2 := (k2.2 _ (by omega) (by simp; exact hqmb)).trans q1
 have d0 : decide ((maj : Int) = 0) = false := decide_eq_false (by omega)
 (repeat(first|(simp(disch:=first|omega|(simp only[zN];omega))only[push_cast,go_sem_proc,↓ite_only,M_block,a2, r2, q2, d0])|(with_reducible refine⟨by omega,?_⟩)))
 generalize h3e : Heap.put _ h.n (.cells [.map (some mb), I code, S meth, I maj, I min, .nilIface, .int .i64 0, .bool false, .bool (closeL maj min (valsH hs sCo)), .map none] 170 0 0) = h3
 have k3 : Keep [h.n] h2 h3 := by subst h3e; exact (by repeat (first | exact Keep.refl _ _ | assumption | refine Keep.put ?_ (by first | (left; simp; done) | (right; omega)) _ | refine Keep.new ?_ _))
 have a3 : h3.at h.n = some (.cells (trC (.map (some mb)) code meth maj min .nilIface 0 false (closeL maj min (valsH hs sCo)) (.map none)) 170 0 0) := by subst h3e; exact (by first|assumption|(simp(disch:=first|assumption|omega)only[at_put_eq,at_put_ne,at_new_eq,at_new_ne,zN,ne_eq,not_false_eq_true];first|done|assumption|rfl))
 have n3 := k3.1
 have r3 := (k3.2 _ (by omega) (by simp; omega)).trans r2
 have q3 := (k3.2 _ (by omega) (by simp; omega)).trans q2
 clear h3e
 have m3 := m2.keep k3 (by simpa using hno _ (Nat.le_refl _))
 have hsh3 : ∀ x ∈ valsH (closeH maj min true hs) sTE, x.length < 1000000000 := by rw [vals_closeH maj min true hs sTE (by decide)]; exact (hsh sTE).2
 refine callM_of (coding_ok m3 hNm (by omega) (by omega) (hno _ (Nat.le_refl _)) hsh3 a3) ?_
 rintro v h4 ⟨k4, hs4, ch4, cl4, a4, m4, -, hout, -⟩
 obtain ⟨rfl, rfl, rfl, rfl⟩ := hout (by rw [get_closeH maj min true hs sTE (by decide)]; exact hte)
 have n4 := k4.1
 have r4 := (k4.2 _ (by omega) (by simp; omega)).trans r3
 have q4 := (k4.2 _ (by omega) (by simp; omega)).trans q3
 (repeat(first|(simp(disch:=omega)only[push_cast,go_sem_proc,↓ite_only,M_block,a4])|(with_reducible refine M_draw (id:=29) p86_29 ?_ ?_;focus kernel_rfl)))
 have hv5 := vals_closeH maj min true hs sCL (by decide)
 refine callP_of (flen_ok m4 hNm hc (by rw [hv5]; exact hl) (by rw [hv5]; exact hn)) ?_
 rw [hv5, hz]
 rintro v h5 ⟨rfl, k5, m5⟩
 have n5 := k5.1
 have a5 := (k5.2 _ (by omega) (by simp; omega)).trans a4
 have r5 := (k5.2 _ (by omega) (by simp; omega)).trans r4
 have q5 := (k5.2 _ (by omega) (by simp; omega)).trans q4
 (repeat simp(disch:=omega)only[push_cast,go_sem_proc,↓ite_only,M_block,a5])
 generalize hHe : flenH true code meth false (closeH maj min true hs) = H at *
 obtain ⟨v, hlk, hv, hvo, hvn⟩ := m5.val k_85 sCL false
 have hlk' : alookup Tryz.prog h5 85 (.map (some mb)) (S sCL) false = some v := by simpa using hlk
 have hlk2 : alookup Tryz.prog h5 85 (.map (some mb)) (.string ⟨#[67, 111, 110, 116, 101, 110, 116, 45, 76, 101, 110, 103, 116, 104]⟩) false = some v := hlk'
 cases hm : sameL meth [72, 69, 65, 68] with
 | true =>
  have hf : H = closeH maj min true hs := by rw [← hHe]; unfold flenH; rw [show sameL meth sHEAD = true from hm]; rfl
  have hvH : valsH H sCL = valsH hs sCL := by rw [hf]; exact hv5
  (repeat simp(disch:=omega)only[push_cast,go_sem_proc,↓ite_only,M_block,hlk2, a5])
  refine callM_of (clen_ok v _ hv (by rw [hvH]; exact hn)) ?_
  rintro u h6 ⟨rfl, x6⟩
  have a6 := (x6.2 _ (by omega)).trans a5
  have r6 := (x6.2 _ (by omega)).trans r5
  have q6 := (x6.2 _ (by omega)).trans q5
  have m6 := m5.keep (x6.keep []) (by simp)
  have n6 := x6.1
  (repeat(first|(simp(disch:=first|omega|(simp only[zN];omega))only[push_cast,go_sem_proc,↓ite_only,M_block,a6])|(with_reducible refine⟨by omega,?_⟩)|(with_reducible refine M_draw (id:=38) p86_38 ?_ ?_;focus kernel_rfl)))
  obtain ⟨L, hL⟩ : ∃ L : Int, L = clenL (valsH H sCL) := ⟨_, rfl⟩
  rw [← hL]
  generalize h7e : Heap.put _ h.n (.cells [.map (some mb), I code, S meth, I maj, I min, .nilIface, .int .i64 L, .bool false, .bool (closeL maj min (valsH hs sCo)), .map none] 170 0 0) = h7
  have k7 : Keep [h.n] h6 h7 := by subst h7e; exact (by repeat (first | exact Keep.refl _ _ | assumption | refine Keep.put ?_ (by first | (left; simp; done) | (right; omega)) _ | refine Keep.new ?_ _))
  have a7 : h7.at h.n = some (.cells (trC (.map (some mb)) code meth maj min .nilIface L false (closeL maj min (valsH hs sCo)) (.map none)) 170 0 0) := by subst h7e; exact (by first|assumption|(simp(disch:=first|assumption|omega)only[at_put_eq,at_put_ne,at_new_eq,at_new_ne,zN,ne_eq,not_false_eq_true];first|done|assumption|rfl))
  clear h7e
  have n7 := k7.1
  have r7 := (k7.2 _ (by omega) (by simp; omega)).trans r6
  have q7 := (k7.2 _ (by omega) (by simp; omega)).trans q6
  have m7 := m6.keep k7 (by simpa using hno _ (Nat.le_refl _))
  have kk7 : Keep [mb, rb, h.n] h h7 := (kk2.more (by simp)).trans ((k3.more (by simp)).trans ((k4.more (by simp)).trans ((k5.more (by simp)).trans ((x6.keep _).trans (k7.more (by simp))))))
  refine callP_of (noTrailer_ok m7 _) ?_
  rintro u h8 ⟨rfl, rfl⟩
  (repeat(first|(simp(disch:=first|omega|(simp only[zN];omega))only[push_cast,go_sem_proc,↓ite_only,M_block,a7])|(with_reducible refine⟨by omega,?_⟩)))
  generalize h8e : Heap.put _ h.n (.cells [.map (some mb), I code, S meth, I maj, I min, .nilIface, .int .i64 L, .bool false, .bool (closeL maj min (valsH hs sCo)), .map none] 170 0 0) = hh
  have k8 : Keep [h.n] h8 hh := by subst h8e; exact (by repeat (first | exact Keep.refl _ _ | assumption | refine Keep.put ?_ (by first | (left; simp; done) | (right; omega)) _ | refine Keep.new ?_ _))
  have a8 : hh.at h.n = some (.cells (trC (.map (some mb)) code meth maj min .nilIface L false (closeL maj min (valsH hs sCo)) (.map none)) 170 0 0) := by subst h8e; exact (by first|assumption|(simp(disch:=first|assumption|omega)only[at_put_eq,at_put_ne,at_new_eq,at_new_ne,zN,ne_eq,not_false_eq_true];first|done|assumption|rfl))
  clear h8e
  have n8 := k8.1
  have r8 := (k8.2 _ (by omega) (by simp; omega)).trans r7
  have m8 := m7.keep k8 (by simpa using hno _ (Nat.le_refl _))
  have kk8 : Keep [mb, rb, h.n] h hh := kk7.trans (k8.more (by simp))
  refine callM_of noBody_ok ?_
  rintro u h9 ⟨rfl, x9⟩
  have a9 := (x9.2 _ (by omega)).trans a8
  have r9 := (x9.2 _ (by omega)).trans r8
  have m9 := m8.keep (x9.keep []) (by simp)
  have kk9 : Keep [mb, rb, h.n] h h9 := kk8.trans (x9.keep _)
  have n9 := x9.1
  (repeat(first|(simp(disch:=first|omega|(simp only[zN];omega))only[push_cast,go_sem_proc,↓ite_only,M_block,a9, r9])|(with_reducible refine⟨by omega,?_⟩)))
  ((with_reducible refine hX _ _ _ (fun j hj => nomatch hj) ?_); simp only[push_cast,go_sem_proc,↓ite_only,M_block,Tryz.results86])
  exact ⟨rfl, Keep.fresh (c := h.n) (by simpa using (show Keep [mb, rb, h.n] h _ from (by repeat (first | exact Keep.refl _ _ | assumption | refine Keep.put ?_ (by first | (left; simp; done) | (right; omega)) _ | refine Keep.new ?_ _)))) (Nat.le_refl _), ⟨_, (by first|assumption|(simp(disch:=first|assumption|omega)only[at_put_eq,at_put_ne,at_new_eq,at_new_ne,zN,ne_eq,not_false_eq_true];first|done|assumption|rfl))⟩, HMap.mono (HMap.keep (X := [rb, h.n]) (show HMap own1 h9 mb (flenH true code meth false (closeH maj min true hs)) [] by rw [hHe]; exact m9) (by repeat (first | exact Keep.refl _ _ | assumption | refine Keep.put ?_ (by first | (left; simp; done) | (right; omega)) _ | refine Keep.new ?_ _)) (by intro i hi; simp at hi; rcases hi with rfl | rfl; exact hnr; exact hno _ (Nat.le_refl _))) (fun i _ ho => by rw [ho1] at ho; exact ho.1)⟩
 | false =>
  (repeat(first|(simp(disch:=first|omega|(simp only[zN];omega))only[push_cast,go_sem_proc,↓ite_only,M_block,a5])|(with_reducible refine⟨by omega,?_⟩)|(with_reducible refine M_draw (id:=38) p86_38 ?_ ?_;focus kernel_rfl)))
  generalize h7e : Heap.put _ h.n (.cells [.map (some mb), I code, S meth, I maj, I min, .nilIface, .int .i64 0, .bool false, .bool (closeL maj min (valsH hs sCo)), .map none] 170 0 0) = h7
  have k7 : Keep [h.n] h5 h7 := by subst h7e; exact (by repeat (first | exact Keep.refl _ _ | assumption | refine Keep.put ?_ (by first | (left; simp; done) | (right; omega)) _ | refine Keep.new ?_ _))
  have a7 : h7.at h.n = some (.cells (trC (.map (some mb)) code meth maj min .nilIface 0 false (closeL maj min (valsH hs sCo)) (.map none)) 170 0 0) := by subst h7e; exact (by first|assumption|(simp(disch:=first|assumption|omega)only[at_put_eq,at_put_ne,at_new_eq,at_new_ne,zN,ne_eq,not_false_eq_true];first|done|assumption|rfl))
  clear h7e
  have n7 := k7.1
  have r7 := (k7.2 _ (by omega) (by simp; omega)).trans r5
  have q7 := (k7.2 _ (by omega) (by simp; omega)).trans q5
  have m7 := m5.keep k7 (by simpa using hno _ (Nat.le_refl _))
  have kk7 : Keep [mb, rb, h.n] h h7 := (kk2.more (by simp)).trans ((k3.more (by simp)).trans ((k4.more (by simp)).trans ((k5.more (by simp)).trans ((Keep.refl _ _).trans (k7.more (by simp))))))
  refine callP_of (noTrailer_ok m7 _) ?_
  rintro u h8 ⟨rfl, rfl⟩
  (repeat(first|(simp(disch:=first|omega|(simp only[zN];omega))only[push_cast,go_sem_proc,↓ite_only,M_block,a7])|(with_reducible refine⟨by omega,?_⟩)))
  generalize h8e : Heap.put _ h.n (.cells [.map (some mb), I code, S meth, I maj, I min, .nilIface, .int .i64 0, .bool false, .bool (closeL maj min (valsH hs sCo)), .map none] 170 0 0) = hh
  have k8 : Keep [h.n] h8 hh := by subst h8e; exact (by repeat (first | exact Keep.refl _ _ | assumption | refine Keep.put ?_ (by first | (left; simp; done) | (right; omega)) _ | refine Keep.new ?_ _))
  have a8 : hh.at h.n = some (.cells (trC (.map (some mb)) code meth maj min .nilIface 0 false (closeL maj min (valsH hs sCo)) (.map none)) 170 0 0) := by subst h8e; exact (by first|assumption|(simp(disch:=first|assumption|omega)only[at_put_eq,at_put_ne,at_new_eq,at_new_ne,zN,ne_eq,not_false_eq_true];first|done|assumption|rfl))
  clear h8e
  have n8 := k8.1
  have r8 := (k8.2 _ (by omega) (by simp; omega)).trans r7
  have m8 := m7.keep k8 (by simpa using hno _ (Nat.le_refl _))
  have kk8 : Keep [mb, rb, h.n] h hh := kk7.trans (k8.more (by simp))
  refine callM_of noBody_ok ?_
  rintro u h9 ⟨rfl, x9⟩
  have a9 := (x9.2 _ (by omega)).trans a8
  have r9 := (x9.2 _ (by omega)).trans r8
  have m9 := m8.keep (x9.keep []) (by simp)
  have kk9 : Keep [mb, rb, h.n] h h9 := kk8.trans (x9.keep _)
  have n9 := x9.1
  (repeat(first|(simp(disch:=first|omega|(simp only[zN];omega))only[push_cast,go_sem_proc,↓ite_only,M_block,a9, r9])|(with_reducible refine⟨by omega,?_⟩)))
  ((with_reducible refine hX _ _ _ (fun j hj => nomatch hj) ?_); simp only[push_cast,go_sem_proc,↓ite_only,M_block,Tryz.results86])
  exact ⟨rfl, Keep.fresh (c := h.n) (by simpa using (show Keep [mb, rb, h.n] h _ from (by repeat (first | exact Keep.refl _ _ | assumption | refine Keep.put ?_ (by first | (left; simp; done) | (right; omega)) _ | refine Keep.new ?_ _)))) (Nat.le_refl _), ⟨_, (by first|assumption|(simp(disch:=first|assumption|omega)only[at_put_eq,at_put_ne,at_new_eq,at_new_ne,zN,ne_eq,not_false_eq_true];first|done|assumption|rfl))⟩, HMap.mono (HMap.keep (X := [rb, h.n]) (show HMap own1 h9 mb (flenH true code meth false (closeH maj min true hs)) [] by rw [hHe]; exact m9) (by repeat (first | exact Keep.refl _ _ | assumption | refine Keep.put ?_ (by first | (left; simp; done) | (right; omega)) _ | refine Keep.new ?_ _)) (by intro i hi; simp at hi; rcases hi with rfl | rfl; exact hnr; exact hno _ (Nat.le_refl _))) (fun i _ ho => by rw [ho1] at ho; exact ho.1)⟩
end Go.Proofs.YtbjaapiliegegaaGreatDoor.Sy
end
section
namespace Go.Proofs.YtbjaapiliegegaaGreatDoor.Sy
open Go
set_option maxRecDepth 100000
variable {w0 : World} {h : Heap}
theorem chunkedNil_ok : ACall Tryz.prog w0 51 [.slice none 0 0] h (fun v h' => v = .bool false ∧ h' = h) := by
 refine ACall.known fun hKn => ?_
 obtain ⟨hN, hB⟩ := hKn
 refine ACall.run noCount mixed Tryz.func51 rfl (by kernel_rfl) (Nat.le_of_ble_eq_true rfl) fun X hX => ?_
 (repeat simp only[push_cast,go_sem_proc,↓ite_only,M_block])
 ((with_reducible refine hX _ _ _ (fun j hj => nomatch hj) ?_); simp only[push_cast,go_sem_proc,↓ite_only,M_block,Tryz.results51])
def AskOut (h : Heap) (meth : Str) (v : Value) (h' : Heap) : Prop := Ext h h' ∧ ∃ qb qr, v = ptr qb 0 ∧ h.n ≤ qb ∧ h'.at qb = some (.cells (S meth :: qr) 104 0 0) ∧ qr.length = 14
theorem asked_ok (meth : Str) (hm : sameL meth [] = false) : ACall Tryz.prog w0 49 [S meth] h (fun v h' => AskOut h meth v h') := by
 refine ACall.known fun hKn => ?_
 obtain ⟨hN, hB⟩ := hKn
 refine ACall.run noCount mixed Tryz.func49 rfl (by kernel_rfl) (Nat.le_of_ble_eq_true rfl) fun X hX => ?_
 (repeat simp only[push_cast,go_sem_proc,↓ite_only,M_block,hm])
 ((with_reducible refine hX _ _ _ (fun j hj => nomatch hj) ?_); simp only[push_cast,go_sem_proc,↓ite_only,M_block,Tryz.results49])
 exact ⟨Keep.ext (by repeat (first | exact Keep.refl _ _ | assumption | refine Keep.put ?_ (by first | (left; simp; done) | (right; omega)) _ | refine Keep.new ?_ _)), _, _, rfl, Nat.le_refl _, (by first|assumption|(simp(disch:=first|assumption|omega)only[at_put_eq,at_put_ne,at_new_eq,at_new_ne,zN,ne_eq,not_false_eq_true];first|done|assumption|rfl)), rfl⟩
theorem text_ok (g : Bio) : ACall Tryz.prog w0 78 [ptr g.R 0] h (fun v h' => ∃ tp, v = ptr tp 0 ∧ h.n ≤ tp ∧ tp < h'.n ∧ Ext h h' ∧ h'.at tp = some (.cells [ptr g.R 0, .pointer none, .slice none 0 0] 163 0 0)) := by
 refine ACall.known fun hKn => ?_
 obtain ⟨hN, hB⟩ := hKn
 refine ACall.run noCount mixed Tryz.func78 rfl (by kernel_rfl) (Nat.le_of_ble_eq_true rfl) fun X hX => ?_
 (repeat simp only[push_cast,go_sem_proc,↓ite_only,M_block])
 ((with_reducible refine hX _ _ _ (fun j hj => nomatch hj) ?_); simp only[push_cast,go_sem_proc,↓ite_only,M_block,Tryz.results78])
 exact ⟨_, rfl, Nat.le_refl _, Nat.lt_succ_self _, Keep.ext (by repeat (first | exact Keep.refl _ _ | assumption | refine Keep.put ?_ (by first | (left; simp; done) | (right; omega)) _ | refine Keep.new ?_ _)), (by first|assumption|(simp(disch:=first|assumption|omega)only[at_put_eq,at_put_ne,at_new_eq,at_new_ne,zN,ne_eq,not_false_eq_true];first|done|assumption|rfl))⟩
theorem reset_ok {R bb sb : Nat} {cs : List Value} (hR : w0.heap.size ≤ R) (hcl : cs.length = 7) (hat : h.at R = some (.cells cs 217 0 0)) :
  ACall Tryz.prog w0 137 [ptr R 0, .slice (some ⟨bb, 0, none⟩) 4096 4096, .iface 125 (ptr sb 0)] h (fun v h' => h' = h.put R (.cells [.slice (some ⟨bb, 0, none⟩) 4096 4096, .iface 125 (ptr sb 0), I 0, I 0, .nilIface, I (-1), I (-1)] 217 0 0)) := by
 refine ACall.known fun hKn => ?_
 obtain ⟨hN, hB⟩ := hKn
 refine ACall.run noCount mixed Tryz.func137 rfl (by kernel_rfl) (Nat.le_of_ble_eq_true rfl) fun X hX => ?_
 (repeat(first|(simp only[push_cast,go_sem_proc,↓ite_only,M_block,hat, hcl])|(with_reducible refine⟨by omega,?_⟩)))
 ((with_reducible refine hX _ _ _ (fun j hj => nomatch hj) ?_); simp only[push_cast,go_sem_proc,↓ite_only,M_block,Tryz.results137])
 match cs, hcl with
 | [_, _, _, _, _, _, _], _ => rfl
def NewOut (h : Heap) (sb : Nat) (v : Value) (h' : Heap) : Prop := Ext h h' ∧ h'.n = h.n + 2 ∧ v = ptr h.n 0 ∧ h'.at h.n = some (.cells [.slice (some ⟨h.n + 1, 0, none⟩) 4096 4096, .iface 125 (ptr sb 0), I 0, I 0, .nilIface, I (-1), I (-1)] 217 0 0) ∧ h'.at (h.n + 1) = some (.cells (byteVals (List.replicate 4096 0)) 5 0 0)
theorem newSize_ok {sb : Nat} : ACall Tryz.prog w0 104 [.iface 125 (ptr sb 0), I 4096] h (fun v h' => NewOut h sb v h') := by
 refine ACall.known fun hKn => ?_
 obtain ⟨hN, hB⟩ := hKn
 refine ACall.run noCount mixed Tryz.func104 rfl (by kernel_rfl) (Nat.le_of_ble_eq_true rfl) fun X hX => ?_
 (repeat(first|(simp only[push_cast,go_sem_proc,↓ite_only,M_block])|(with_reducible refine⟨by omega,?_⟩)))
 generalize h1e : Heap.new (Heap.new h _) _ = h1
 have a1 : ∃ cs, h1.at h.n = some (.cells cs 217 0 0) ∧ cs.length = 7 := by subst h1e; exact ⟨_, (at_new_ne _ _ (Nat.ne_of_lt (Nat.lt_succ_self _))).trans (at_new_eq _ _), rfl⟩
 have b1 : h1.at (h.n + 1) = some (.cells (byteVals (List.replicate 4096 0)) 5 0 0) := by subst h1e; rw [show h.n + 1 = (h.new _).n from rfl, at_new_eq]; rfl
 have n1 : h1.n = h.n + 2 := by subst h1e; rfl
 have x1 : Ext h h1 := by subst h1e; exact Keep.ext (by repeat (first | exact Keep.refl _ _ | assumption | refine Keep.put ?_ (by first | (left; simp; done) | (right; omega)) _ | refine Keep.new ?_ _))
 obtain ⟨cs, a1, hcl⟩ := a1
 clear h1e
 refine callM_of (reset_ok (R := h.n) (bb := h.n + 1) (sb := sb) hN hcl a1) ?_
 rintro v h2 rfl
 (repeat simp only[push_cast,go_sem_proc,↓ite_only,M_block])
 ((with_reducible refine hX _ _ _ (fun j hj => nomatch hj) ?_); simp only[push_cast,go_sem_proc,↓ite_only,M_block,Tryz.results104])
 exact ⟨Keep.ext ((x1.keep []).put (.inr (Nat.le_refl _)) _), n1, rfl, at_put_eq _ _ _, (at_put_ne _ _ (by omega)).trans b1⟩
theorem newReader_ok {sb : Nat} : ACall Tryz.prog w0 77 [.iface 125 (ptr sb 0)] h (fun v h' => NewOut h sb v h') := by
 refine ACall.known fun hKn => ?_
 obtain ⟨hN, hB⟩ := hKn
 refine ACall.run noCount mixed Tryz.func77 rfl (by kernel_rfl) (Nat.le_of_ble_eq_true rfl) fun X hX => ?_
 (repeat simp only[push_cast,go_sem_proc,↓ite_only,M_block])
 refine callM_of newSize_ok ?_
 rintro v h2 o
 (repeat simp only[push_cast,go_sem_proc,↓ite_only,M_block])
 ((with_reducible refine hX _ _ _ (fun j hj => nomatch hj) ?_); simp only[push_cast,go_sem_proc,↓ite_only,M_block,Tryz.results77])
 exact o
def ReaderOut (h : Heap) (db : Nat) (src : Str) (v : Value) (h' : Heap) : Prop := Ext h h' ∧ h'.n = h.n + 3 ∧ v = ptr (h.n + 1) 0 ∧ BR h' ⟨h.n + 1, h.n + 2, h.n, db⟩ src
theorem zzReader_ok {db : Nat} {sv : Value} {src : Str} (hd : SrcD h db sv src) (hl : src.length < 1000000000) (hdb : db < h.n) : ACall Tryz.prog w0 46 [sv] h (fun v h' => ReaderOut h db src v h') := by
 refine ACall.known fun hKn => ?_
 obtain ⟨hN, hB⟩ := hKn
 refine ACall.run noCount mixed Tryz.func46 rfl (by kernel_rfl) (Nat.le_of_ble_eq_true rfl) fun X hX => ?_
 obtain ⟨a, cp, rfl⟩ := hd.len
 (repeat simp only[push_cast,go_sem_proc,↓ite_only,M_block])
 generalize h1e : Heap.new h _ = h1
 have x1 : Ext h h1 := by subst h1e; exact Keep.ext (by repeat (first | exact Keep.refl _ _ | assumption | refine Keep.put ?_ (by first | (left; simp; done) | (right; omega)) _ | refine Keep.new ?_ _))
 have n1 : h1.n = h.n + 1 := by subst h1e; rfl
 have a1 : h1.at h.n = some (.cells [.slice a src.length cp] 127 0 0) := by subst h1e; exact (by first|assumption|(simp(disch:=first|assumption|omega)only[at_put_eq,at_put_ne,at_new_eq,at_new_ne,zN,ne_eq,not_false_eq_true];first|done|assumption|rfl))
 clear h1e
 refine callM_of newReader_ok ?_
 rintro v h2 ⟨x2, n2, rfl, c1, c2⟩
 rw [n1] at c1 c2 n2
 (repeat simp only[push_cast,go_sem_proc,↓ite_only,M_block])
 ((with_reducible refine hX _ _ _ (fun j hj => nomatch hj) ?_); simp only[push_cast,go_sem_proc,↓ite_only,M_block,Tryz.results46])
 refine ⟨x1.trans x2, n2, by rw [n1], List.replicate 4096 0, 0, 0, -1, -1, .slice a src.length cp, src, ⟨c1, c2, List.length_replicate, Nat.le_refl _, by omega, (x2.2 _ (show h.n < h1.n from by omega)).trans a1, hd.keep ((x2.2 _ (by omega)).trans (x1.2 _ hdb)), hl, (show h.n + 1 < h2.n from by omega), (show h.n + 2 < h2.n from by omega), (show h.n < h2.n from by omega), (show db < h2.n from by omega)⟩, ?_⟩
 show src = restL _ 0 0 src
 rfl
end Go.Proofs.YtbjaapiliegegaaGreatDoor.Sy
end
