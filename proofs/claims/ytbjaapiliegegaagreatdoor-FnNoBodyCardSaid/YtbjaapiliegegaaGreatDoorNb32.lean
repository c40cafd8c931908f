/- Of the proof of FnNoBody: SeC SeD. -/
import Derived.Test.YtbjaapiliegegaaGreatDoorNb31
import Derived.Test.YtbjaapiliegegaaGreatDoorNb24
set_option linter.unusedVariables false
set_option linter.unusedSimpArgs false
section
namespace Go.Proofs.YtbjaapiliegegaaGreatDoor.Sy
open Go
set_option maxRecDepth 100000
variable {w0 : World} {h : Heap}
theorem cmk_nil (a : Option Addr) (cp : Nat) : ACall Tryz.prog w0 98 [.slice a 0 cp] h (fun v h' => v = .tuple #[S [], .bool false] ∧ h' = h) := by
 refine ACall.known fun hKn => ?_
 obtain ⟨hN, hB⟩ := hKn
 refine ACall.run noCount mixed Tryz.func98 rfl (by kernel_rfl) (Nat.le_of_ble_eq_true rfl) fun X hX => ?_
 (repeat simp only[push_cast,go_sem_proc,↓ite_only,M_block])
 ((with_reducible refine hX _ _ _ (fun j hj => nomatch hj) ?_); simp only[push_cast,go_sem_proc,↓ite_only,M_block,Tryz.results98])
theorem ExtBut.keep1 {b : Nat} {h h' : Heap} (x : ExtBut b h h') : Keep [b] h h' := ⟨x.1, fun i hi hX => x.2 i hi (by simpa using hX)⟩
theorem Lin.inB {g : Bio} {buf : Str} {r : Nat} {v : Value} {l : Str} (d : Lin g buf r v l) (h0 : l ≠ []) : ∃ o cp, v = .slice (some ⟨g.bb, o, none⟩) l.length cp ∧ l.length ≤ cp ∧ o + l.length ≤ r ∧ (buf.drop o).take l.length = l := by
 rcases d with ⟨e, _⟩ | d
 ·exact absurd e h0
 ·exact d
theorem key_ok {g : Bio} {tp i n : Nat} {bv kv k v : Value} {l rest : Str} (G : g.Ok w0.heap.size) (htp : w0.heap.size ≤ tp) (K : Kv h tp g kv l rest bv) (sk : Sub kv k 0 i) (sv : Sub kv v (i + 1) n) (hi : i + 1 + n ≤ l.length) (hl : l.length < 1099511627776) :
  ACall Tryz.prog w0 98 [k] h (fun u h' => u = .tuple #[S (keyForm (l.take i)).1, .bool (keyForm (l.take i)).2] ∧ Kv h' tp g v ((l.drop (i + 1)).take n) rest bv ∧ ∃ X, Keep X h h' ∧ ∀ b ∈ X, InB b kv) := by
 obtain ⟨buf, r, w, lb, lrs, s, src, b, hr, T, hbv, hat⟩ := K
 rcases Nat.eq_zero_or_pos i with rfl | hip
 ·have hk : ∃ a cp, k = .slice a 0 cp := by
   rcases sk with ⟨_, a, cp, rfl⟩ | ⟨b, o, len, cp, _, _, rfl⟩ <;> exact ⟨_, _, rfl⟩
  obtain ⟨a, cp, rfl⟩ := hk
  refine ACall.mono (cmk_nil a cp) ?_
  rintro u h' ⟨rfl, rfl⟩
  exact ⟨rfl, ⟨buf, r, w, lb, lrs, s, src, b, hr, T, hbv, hat.sub sv⟩, [], .refl _ _, fun b hb => by simp at hb⟩
 ·rcases sk with ⟨e, _⟩ | ⟨b1, o, len, cp, rfl, hle, rfl⟩
  ·omega
  have hlne : l ≠ [] := by rintro rfl; simp at hi
  have hti : (l.take i).length = i := by rw [List.length_take]; omega
  have tn1 := T.n1
  have tn2 := T.n2
  have tn3 := T.n3
  have tn4 := T.n4
  rcases hat with hat | hat
  ·obtain ⟨o', cp', e, hcp, hor, hbo⟩ := hat.inB hlne
   cases e
   have hbl := b.bl
   have hww := b.ww
   have hrw := b.rw
   have hpl : (byteVals (buf.take o)).length = o := by rw [byteVals_length, List.length_take]; omega
   have e1 : buf = buf.take o ++ (l.take i ++ buf.drop (o + i)) := by
    rw [← lin_take hbo (by omega), ← List.drop_drop, List.take_append_drop, List.take_append_drop]
   have hcell : h.at g.bb = some (.cells (byteVals (buf.take o) ++ (byteVals (l.take i) ++ byteVals (buf.drop (o + i)))) 5 0 0) := by
    rw [b.bf, ← byteVals_app, ← byteVals_app, ← e1]
   have hc := cmk_ok (w0 := w0) (h := h) (l.take i) (byteVals (buf.take o)) (byteVals (buf.drop (o + i))) g.bb (cp - 0) 0 0 G.nb (by omega) hcell (.inl (Nat.zero_le _))
   rw [hpl, hti] at hc
   refine ACall.mono hc ?_
   rintro u h' ⟨rfl, hx, m, hm, _, hb'⟩
   have k1 := hx.keep1
   have hml : m.length = i := hm
   have hb'' : h'.at g.bb = some (.cells (byteVals (buf.take o ++ (m ++ buf.drop (o + i)))) 5 0 0) := by
    rw [hb', byteVals_app, byteVals_app]
   have hto : (buf.take o).length = o := by rw [List.length_take]; omega
   have hdr : ∀ j, o + i ≤ j → (buf.take o ++ (m ++ buf.drop (o + i))).drop j = buf.drop j := by
    intro j hj
    rw [← List.append_assoc, List.drop_append, List.drop_eq_nil_of_le (by rw [List.length_append]; omega), List.nil_append, List.length_append, hto, hml, List.drop_drop]
    congr 1
    omega
   refine ⟨rfl, ⟨buf.take o ++ (m ++ buf.drop (o + i)), r, w, lb, lrs, s, src, ?_, ?_, T.keep k1 (by simp; omega), ?_, ?_⟩, [g.bb], k1, by simp; rfl⟩
   ·refine ⟨(k1.2 _ b.lR (by simp; exact G.d1)).trans b.rd, hb'', ?_, hrw, hww, (k1.2 _ b.ls (by simp; exact Ne.symm G.d4)).trans b.sa, b.sd.keep (k1.2 _ b.ld (by simp; exact Ne.symm G.d5)), b.sl, Nat.lt_of_lt_of_le b.lR k1.1, Nat.lt_of_lt_of_le b.lb' k1.1, Nat.lt_of_lt_of_le b.ls k1.1, Nat.lt_of_lt_of_le b.ld k1.1⟩
    simp only [List.length_append, List.length_drop, hto, hml]
    omega
   ·rw [← hr]
    unfold restL
    rw [hdr r (by omega)]
   ·refine hbv.keep (d := tp) k1 ?_
    have := hbv.ge (d := tp) (Nat.le_refl _)
    simp
    rcases hbv with rfl | ⟨b', n', cp2, cs, rfl, _, _, g3, _⟩
    ·show tp ≠ g.bb; omega
    ·show b' ≠ g.bb; omega
   ·left
    rcases (hat.sub sv) with hs | ⟨o2, cp2, e2, g1, g2, g3⟩
    ·exact .inl hs
    ·refine .inr ⟨o2, cp2, e2, g1, g2, ?_⟩
     by_cases hn0 : ((l.drop (i + 1)).take n).length = 0
     ·rw [hn0, List.take_zero]; exact (List.eq_nil_of_length_eq_zero hn0).symm
     ·rcases sv with ⟨e0, _⟩ | ⟨b3, o3, len3, cp3, e3, _, rfl⟩
      ·rw [e0] at hn0; simp at hn0
      ·cases e3
       have ho2 : o2 = o + (i + 1) := by
        simp only [Value.slice.injEq, Option.some.injEq, Addr.mk.injEq] at e2
        exact e2.1.2.1.symm
       rw [hdr _ (by omega)]
       exact g3
  ·rcases hat with ⟨e, _⟩ | ⟨b', pre, post, cp', h1, h2, e, hcp, hcell⟩
   ·exact absurd e hlne
   cases e
   have el : l = l.take i ++ l.drop i := (List.take_append_drop _ _).symm
   have hcell' : h.at b1 = some (.cells (pre ++ (byteVals (l.take i) ++ (byteVals (l.drop i) ++ post))) 5 0 0) := by
    rw [hcell]
    have : byteVals l = byteVals (l.take i) ++ byteVals (l.drop i) := by rw [← byteVals_app, List.take_append_drop]
    rw [this]
    simp only [List.append_assoc]
   have hc := cmk_ok (w0 := w0) (h := h) (l.take i) pre (byteVals (l.drop i) ++ post) b1 (cp - 0) 0 0 (by omega) (by omega) hcell' (.inl (Nat.zero_le _))
   rw [hti] at hc
   refine ACall.mono hc ?_
   rintro u h' ⟨rfl, hx, m, hm, _, hb'⟩
   have k1 := hx.keep1
   have hml : m.length = i := hm
   refine ⟨rfl, ⟨buf, r, w, lb, lrs, s, src, b.keep k1 (by simp; omega) (by simp; omega) (by simp; omega) (by simp; omega), hr, T.keep k1 (by simp; omega), ?_, ?_⟩, [b1], k1, by simp; rfl⟩
   ·rcases hbv with rfl | ⟨b2, n', cp2, cs, rfl, g1, g2, g3, g4, g5, g6⟩
    ·exact .inl rfl
    ·by_cases hb : b2 = b1
     ·subst hb
      obtain rfl : cs = pre ++ (byteVals l ++ post) := by rw [hcell] at g5; cases g5; rfl
      refine .inr ⟨b2, n', cp2, _, rfl, g1, g2, g3, Nat.lt_of_lt_of_le g4 k1.1, hb', ?_⟩
      simp only [List.length_append, byteVals_length, List.length_drop] at g6 ⊢
      omega
     ·exact .inr ⟨b2, n', cp2, cs, rfl, g1, g2, g3, Nat.lt_of_lt_of_le g4 k1.1, (k1.2 _ g4 (by simp; exact hb)).trans g5, g6⟩
   ·right
    rcases sv with ⟨rfl, a, cp2, rfl⟩ | ⟨b3, o3, len3, cp3, e3, hle3, rfl⟩
    ·exact .inl ⟨rfl, _, _, rfl⟩
    ·cases e3
     have hnl : ((l.drop (i + 1)).take n).length = n := by rw [List.length_take, List.length_drop]; omega
     refine .inr ⟨b1, pre ++ byteVals m ++ byteVals ((l.drop i).take 1), byteVals (l.drop (i + 1 + n)) ++ post, cp - (i + 1), h1, Nat.lt_of_lt_of_le h2 k1.1, ?_, by rw [hnl]; omega, ?_⟩
     ·rw [hnl]
      simp only [List.length_append, byteVals_length, hml, List.length_take, List.length_drop]
      congr 3
      omega
     ·rw [hb']
      have : byteVals (l.drop i) = byteVals ((l.drop i).take 1) ++ (byteVals ((l.drop (i + 1)).take n) ++ byteVals (l.drop (i + 1 + n))) := by
       have e5 : (l.drop (i + 1)).take n ++ l.drop (i + 1 + n) = l.drop (i + 1) := by
        have := List.take_append_drop n (l.drop (i + 1))
        rwa [List.drop_drop] at this
       rw [← byteVals_app, ← byteVals_app, e5, ← List.drop_drop, List.take_append_drop]
      rw [this]
      simp only [List.append_assoc]
end Go.Proofs.YtbjaapiliegegaaGreatDoor.Sy
end
section
namespace Go.Proofs.YtbjaapiliegegaaGreatDoor.Sy
open Go
set_option maxRecDepth 100000
theorem noLF_dif : noLF = difB 10 := by
 funext c
 unfold noLF difB
 by_cases h : c = 10
 ·subst h; rfl
 ·have : ¬ c.toNat = 10 := fun e => h (UInt8.toNat_inj.1 (by simpa using e))
  simp [h, this]
theorem noCol_dif : noCol = difB 58 := by
 funext c
 unfold noCol difB
 by_cases h : c = 58
 ·subst h; rfl
 ·have : ¬ c.toNat = 58 := fun e => h (UInt8.toNat_inj.1 (by simpa using e))
  simp [h, this]
theorem lineL_idx (m : Str) : lineL m = lineJ m (idxL m 10) := by unfold lineL idxL; rw [noLF_dif]
theorem line_none {m : Str} : (lineL m).2.1 = 1 ↔ ¬hitL m := by
 rw [lineL_idx]
 unfold lineJ hitL
 by_cases h : idxL m 10 < m.length
 ·rw [decide_eq_true h]
  cases decide (0 < idxL m 10 ∧ (nth m (idxL m 10 - 1)).toNat = 13) with
  | false => simp [h]
  | true => cases (m.take (idxL m 10 - 1)).contains 13 <;> simp [h]
 ·rw [decide_eq_false h]
  simp [h]
theorem line_some {m : Str} (h0 : (lineL m).2.1 = 0) : hitL m ∧ lineOf m = (lineL m).1 ∧ (lineL m).2.2 = idxL m 10 + 1 ∧ (lineL m).1 = m.take (idxL m 10 - 1) ∧ 0 < idxL m 10 ∧ (nth m (idxL m 10 - 1)).toNat = 13 := by
 rw [lineL_idx] at h0 ⊢
 unfold lineJ at h0 ⊢
 by_cases h : idxL m 10 < m.length
 ·rw [decide_eq_true h] at h0 ⊢
  by_cases h1 : 0 < idxL m 10 ∧ (nth m (idxL m 10 - 1)).toNat = 13
  ·rw [decide_eq_true h1] at h0 ⊢
   cases h2 : (m.take (idxL m 10 - 1)).contains 13 with
   | true => rw [h2] at h0; simp at h0
   | false =>
    refine ⟨h, ?_, rfl, rfl, h1⟩
    have hl : (m.take (idxL m 10)).length = idxL m 10 := by rw [List.length_take]; omega
    unfold lineOf
    rw [dropCR_yes (by rw [hl, nth_take (by omega)]; exact h1), hl, List.take_take, Nat.min_eq_left (by omega)]
  ·rw [decide_eq_false h1] at h0
   simp at h0
 ·rw [decide_eq_false h] at h0
  simp at h0
theorem field_good {s : Str} {first : Bool} (h : (fieldL s first).2 = 0) : blankB (nth s 0) = false ∧ colonIn s ∧ tokL (s.take (idxL s 58)) = true ∧ contentL (trimB (s.drop (idxL s 58 + 1))) = true ∧ (fieldL s first).1 = (s.take (idxL s 58), trimB (s.drop (idxL s 58 + 1))) := by
 unfold fieldL at h ⊢
 cases hb : blankB (nth s 0) with
 | true => rw [hb] at h; cases first <;> simp at h
 | false =>
  rw [hb] at h
  simp only [] at h ⊢
  rw [noCol_dif] at h ⊢
  have hi : (s.takeWhile (difB 58)).length = idxL s 58 := rfl
  rw [hi] at h ⊢
  unfold fieldJ at h ⊢
  by_cases hc : idxL s 58 < s.length
  ·rw [decide_eq_true hc] at h ⊢
   cases h1 : (s.take (idxL s 58)).any blankB with
   | true => rw [h1] at h; simp at h
   | false =>
    rw [h1] at h
    cases h2 : tokL (s.take (idxL s 58)) with
    | false => rw [h2] at h; simp at h
    | true =>
     rw [h2] at h
     cases h3 : contentL (trimB (s.drop (idxL s 58 + 1))) with
     | false => rw [h3] at h; simp at h
     | true => exact ⟨by trivial, hc, by trivial, by trivial, rfl⟩
  ·rw [decide_eq_false hc] at h
   simp at h
theorem field_bad {s : Str} {first : Bool} (h : (fieldL s first).2 = 1) : (blankB (nth s 0) = true ∧ first = true) ∨ (blankB (nth s 0) = false ∧ ¬colonIn s) ∨
  (blankB (nth s 0) = false ∧ colonIn s ∧ tokL (s.take (idxL s 58)) = false ∧ (s.take (idxL s 58)).any blankB = false) := by
 unfold fieldL at h
 cases hb : blankB (nth s 0) with
 | true => rw [hb] at h; cases first <;> simp at h ⊢
 | false =>
  rw [hb] at h
  simp only [] at h
  rw [noCol_dif] at h
  have hi : (s.takeWhile (difB 58)).length = idxL s 58 := rfl
  rw [hi] at h
  unfold fieldJ at h
  by_cases hc : idxL s 58 < s.length
  ·rw [decide_eq_true hc] at h
   cases h1 : (s.take (idxL s 58)).any blankB with
   | true => rw [h1] at h; simp at h
   | false =>
    rw [h1] at h
    cases h2 : tokL (s.take (idxL s 58)) with
    | false => exact .inr (.inr ⟨by trivial, hc, by trivial, by trivial⟩)
    | true =>
     rw [h2] at h
     cases h3 : contentL (trimB (s.drop (idxL s 58 + 1))) <;> rw [h3] at h <;> simp at h
  ·exact .inr (.inl ⟨by trivial, hc⟩)
theorem dw_all {p : UInt8 → Bool} : ∀ {l : Str}, l.all p = true → l.dropWhile p = []
 | [], _ => rfl
 | c :: l, h => by
  rw [List.all_cons, Bool.and_eq_true] at h
  rw [List.dropWhile_cons, h.1]
  exact dw_all h.2
theorem dw_nil {p : UInt8 → Bool} : ∀ {l : Str}, l.dropWhile p = [] → ∀ x ∈ l, p x = true
 | [], _, x, hx => by cases hx
 | c :: l, h, x, hx => by
  rw [List.dropWhile_cons] at h
  cases hc : p c with
  | false => rw [hc] at h; simp at h
  | true =>
   rw [hc] at h
   rcases List.mem_cons.1 hx with rfl | hx
   ·exact hc
   ·exact dw_nil h x hx
theorem dw_head {p : UInt8 → Bool} : ∀ {l : Str} {c : UInt8} {z : Str}, l.dropWhile p = c :: z → p c = false
 | [], _, _, h => by cases h
 | a :: l, c, z, h => by
  rw [List.dropWhile_cons] at h
  cases hc : p a with
  | false => rw [hc] at h; simp at h; rw [← h.1]; exact hc
  | true => rw [hc] at h; exact dw_head h
theorem trimR_mid {a z : Str} {c : UInt8} (h : blankB c = false) : trimR (a ++ c :: z) = a ++ c :: trimR z := by
 unfold trimR
 rw [List.reverse_append, List.reverse_cons, List.append_assoc, List.dropWhile_append]
 cases hz : (z.reverse.dropWhile blankB) with
 | nil =>
  simp only [List.isEmpty_nil, if_true, List.singleton_append]
  rw [List.dropWhile_cons, h]
  simp
 | cons x y => simp
theorem trimR_blank {z : Str} (h : z.all blankB = true) : trimR z = [] := by
 unfold trimR
 rw [dw_all (l := z.reverse) (List.all_eq_true.2 fun x hx => List.all_eq_true.1 h x (by simpa using hx))]
 rfl
theorem trimR_drop (x : Str) : (trimR x).dropWhile blankB = trimB x := by
 unfold trimB
 have hx := (List.takeWhile_append_dropWhile (p := blankB) (l := x)).symm
 generalize ha : x.takeWhile blankB = a at hx
 have hall : a.all blankB = true := by rw [← ha]; exact List.all_takeWhile
 cases hz : x.dropWhile blankB with
 | nil =>
  rw [hz, List.append_nil] at hx
  have hxa : x.all blankB = true := by rw [hx]; exact hall
  rw [trimR_blank hxa]
  rfl
 | cons c z =>
  have hc : blankB c = false := dw_head hz
  rw [hz] at hx
  rw [hx, trimR_mid hc]
  have h2 := trimR_mid (a := []) (z := z) hc
  rw [List.nil_append, List.nil_append] at h2
  rw [h2, List.dropWhile_append_of_pos (List.all_eq_true.1 hall), List.dropWhile_cons, hc]
  simp
theorem trimB_front {s : Str} (h : blankB (nth s 0) = false) : trimB s = trimR s := by
 unfold trimB
 rw [dw_stop (.inr h)]
theorem trim_colon {s : Str} (h : blankB (nth s 0) = false) (hc : colonIn s) : trimB s = s.take (idxL s 58) ++ 58 :: trimR (s.drop (idxL s 58 + 1)) := by
 rw [trimB_front h]
 have hn := idx_nth hc
 have e : s = s.take (idxL s 58) ++ 58 :: s.drop (idxL s 58 + 1) := by
  have h1 : s.drop (idxL s 58) = nth s (idxL s 58) :: s.drop (idxL s 58 + 1) := by
   rw [List.drop_eq_getElem_cons hc]
   congr 1
   have := nth_get hc
   rw [List.getElem?_eq_getElem hc] at this
   exact Option.some.inj this
  rw [hn] at h1
  rw [← h1, List.take_append_drop]
 have h3 := trimR_mid (a := s.take (idxL s 58)) (z := s.drop (idxL s 58 + 1)) (c := 58) (by decide)
 rw [← e] at h3
 exact h3
theorem take_dif (s : Str) (d : UInt8) : (s.take (idxL s d)).all (difB d) = true := by
 have h1 : s.takeWhile (difB d) = s.take (idxL s d) := List.prefix_iff_eq_take.1 (List.takeWhile_prefix _)
 rw [← h1]
 exact List.all_takeWhile
theorem colon_key {s y : Str} (h : blankB (nth s 0) = false) (hc : colonIn s) : idxL (trimB s ++ y) 58 = idxL s 58 ∧ (trimB s ++ y).take (idxL s 58) = s.take (idxL s 58) ∧ idxL s 58 < (trimB s ++ y).length ∧ (trimB s).drop (idxL s 58 + 1) = trimR (s.drop (idxL s 58 + 1)) := by
 have hl : (s.take (idxL s 58)).length = idxL s 58 := by rw [List.length_take]; have : idxL s 58 < s.length := hc; omega
 rw [trim_colon h hc, List.append_assoc]
 refine ⟨?_, ?_, ?_, ?_⟩
 ·rw [idx_skip (take_dif s 58), hl]
  simp [idxL, difB]
 ·rw [List.take_left' hl]
 ·rw [List.length_append, hl]; simp
 ·rw [List.drop_append, List.drop_eq_nil_of_le (by omega), List.nil_append, hl, show idxL s 58 + 1 - idxL s 58 = 1 by omega]
  rfl
theorem trimB_colon {s : Str} (hc : colonIn s) : trimB s ≠ [] := by
 intro e
 have h1 : trimR s = [] ∨ trimR s ≠ [] := Classical.em _
 have hn := idx_nth hc
 have hm : (58 : UInt8) ∈ s := by rw [← hn]; exact List.mem_of_getElem? (nth_get hc)
 have h2 := trimR_drop s
 rw [e] at h2
 obtain ⟨a, z, hz⟩ := List.append_of_mem hm
 rw [hz, trimR_mid (by decide)] at h2
 have := dw_nil h2 58 (by simp)
 revert this
 decide
theorem keyForm_no {k : Str} (h : tokL k = false) (h2 : k.any blankB = false) : (keyForm k).2 = false := by
 cases k with
 | nil => rfl
 | cons c r =>
  have hall : (c :: r).all (fun c => tokB c || c == 32) = false := by
   by_cases hh : (c :: r).all (fun c => tokB c || c == 32) = true
   ·exfalso
    have : (c :: r).all tokB = true := by
     refine List.all_eq_true.2 fun x hx => ?_
     have h3 := List.all_eq_true.1 hh x hx
     rcases (Bool.or_eq_true _ _).mp h3 with h4 | h4
     ·exact h4
     ·exfalso
      have h5 : x = 32 := by simpa using h4
      have : (c :: r).any blankB = true := List.any_eq_true.2 ⟨x, hx, by rw [h5]; decide⟩
      rw [this] at h2
      cases h2
    unfold tokL at h
    rw [this] at h
    simp at h
   ·simpa using hh
  rw [keyForm_bad (by simp) hall]
theorem vals_ok {x : Str} (h : contentL (trimB x) = true) : (trimR x).all (fun c => vhvN c.toNat) = true := by
 have hc : (trimB x).all plainB = true := by
  unfold contentL at h
  exact ((Bool.and_eq_true _ _).mp h).1
 have e := (List.takeWhile_append_dropWhile (p := blankB) (l := trimR x)).symm
 rw [trimR_drop] at e
 rw [e, List.all_append, Bool.and_eq_true]
 refine ⟨List.all_eq_true.2 fun c hm => ?_, List.all_eq_true.2 fun c hm => ?_⟩
 ·have h1 : blankB c = true := List.all_eq_true.1 List.all_takeWhile c hm
  unfold blankB blankN at h1
  unfold vhvN
  simp at h1 ⊢
  omega
 ·have h1 := List.all_eq_true.1 hc c hm
  unfold plainB plainN at h1
  unfold vhvN
  simp at h1 ⊢
  omega
theorem fields_cont {f : Nat} {rem : Str} {out : List Fld} (ho : out ≠ []) (hl : 0 < lead rem) : (fieldsJ (f + 1) rem out).2.1 = 3 ∨ ((fieldsJ (f + 1) rem out).2.1 = 1 ∧ ¬hitL rem) := by
 have hb : blankB (nth rem 0) = true ∧ rem ≠ [] := by
  have h1 : ¬lead rem = 0 := by omega
  rw [lead_zero] at h1
  simp only [not_or] at h1
  exact ⟨by simpa using h1.2, h1.1⟩
 unfold fieldsJ
 rcases fault_cases rem with h0 | h1 | h2
 ·obtain ⟨hit, hlo, hc, hs, hpos, h13⟩ := line_some h0
  have h0b : ¬ (nth rem 0).toNat = 13 := by
   have := hb.1
   unfold blankB blankN at this
   simp at this
   omega
  have hj : 2 ≤ idxL rem 10 := by
   rcases Nat.lt_or_ge (idxL rem 10) 2 with h | h
   ·exfalso
    have : idxL rem 10 - 1 = 0 := by omega
    rw [this] at h13
    exact h0b h13
   ·exact h
  have hsn : nth (lineL rem).1 0 = nth rem 0 := by rw [hs]; exact nth_take (by omega)
  have hse : (lineL rem).1.isEmpty = false := by
   have : 0 < (lineL rem).1.length := by
    rw [hs, List.length_take]
    have : idxL rem 10 < rem.length := hit
    omega
   cases hq : (lineL rem).1 with
   | nil => rw [hq] at this; simp at this
   | cons _ _ => rfl
  have hoe : out.isEmpty = false := by cases out with | nil => exact absurd rfl ho | cons _ _ => rfl
  have hf : (fieldL (lineL rem).1 out.isEmpty).2 = 3 := by
   unfold fieldL
   rw [hsn, hb.1, hoe]
  left
  rw [decide_eq_false (by omega), decide_eq_false (by omega), hse]
  cases decide (60 < out.length) with
  | true => rfl
  | false => rw [decide_eq_false (by omega)]; exact hf
 ·right
  rw [decide_eq_true h1]
  exact ⟨rfl, line_none.1 h1⟩
 ·left
  rw [decide_eq_false (by omega), decide_eq_true h2]
def groupH (fs : List Fld) : Hdr := fs.foldl (fun hs f => addH hs (canonL true f.1) f.2) []
theorem group_snoc (fs : List Fld) (f : Fld) : groupH (fs ++ [f]) = addH (groupH fs) (canonL true f.1) f.2 := by unfold groupH; rw [List.foldl_append]; rfl
def SyncA (rest rem : Str) (hs : Hdr) : Prop := ∃ (out : List Fld) (f : Nat), hs = groupH out ∧ out.length ≤ 61 ∧ rem.length ≤ f ∧ (out = [] → lead rem = 0) ∧
 fieldsL rest = ((fieldsJ (f + 1) rem out).1, (fieldsJ (f + 1) rem out).2.1, rest.length - rem.length + (fieldsJ (f + 1) rem out).2.2)
def Dead (rest rem : Str) : Prop := (fieldsL rest).2.1 = 3 ∨ ((fieldsL rest).2.1 = 1 ∧ ¬hitL rem)
def Sync (rest rem : Str) (hs : Hdr) : Prop := SyncA rest rem hs ∨ Dead rest rem
theorem hit_nil : ¬hitL [] := by simp [hitL, idxL]
theorem hit_suffix {x y : Str} (h : ¬hitL (x ++ y)) : ¬hitL y := by
 unfold hitL at h ⊢
 intro hy
 apply h
 have h1 : idxL (x ++ y) 10 ≤ x.length + idxL y 10 := by
  unfold idxL
  rw [List.takeWhile_append]
  split
  ·simp
  ·rename_i hne
   have := (List.takeWhile_prefix (l := x) (difB 10)).length_le
   omega
 rw [List.length_append]
 omega
theorem next_len {rem : Str} (h : hitL rem) : (nextOf rem).length + (idxL rem 10 + 1) = rem.length := by
 unfold nextOf hitL at *
 rw [List.length_drop]
 omega
theorem fields_step {f : Nat} {rem : Str} {out : List Fld} :
  (fieldsJ (f + 1) rem out).2.1 = 3 ∨ (¬hitL rem ∧ (fieldsJ (f + 1) rem out).2.1 = 1) ∨
  (hitL rem ∧ lineOf rem = [] ∧ fieldsJ (f + 1) rem out = (out, 0, idxL rem 10 + 1)) ∨
  (hitL rem ∧ lineOf rem ≠ [] ∧ (fieldL (lineOf rem) out.isEmpty).2 ≠ 0 ∧ (fieldsJ (f + 1) rem out).2.1 = (fieldL (lineOf rem) out.isEmpty).2) ∨
  (hitL rem ∧ lineOf rem ≠ [] ∧ out.length ≤ 60 ∧ (fieldL (lineOf rem) out.isEmpty).2 = 0 ∧
   fieldsJ (f + 1) rem out = ((fieldsJ f (nextOf rem) (out ++ [(fieldL (lineOf rem) out.isEmpty).1])).1, (fieldsJ f (nextOf rem) (out ++ [(fieldL (lineOf rem) out.isEmpty).1])).2.1, idxL rem 10 + 1 + (fieldsJ f (nextOf rem) (out ++ [(fieldL (lineOf rem) out.isEmpty).1])).2.2)) := by
 rcases fault_cases rem with h0 | h1 | h2
 ·obtain ⟨hit, hlo, hc, hs, hpos, h13⟩ := line_some h0
  rw [fieldsJ, decide_eq_false (by omega), decide_eq_false (by omega), ← hlo, hc]
  cases hse : (lineOf rem).isEmpty with
  | true => exact .inr (.inr (.inl ⟨hit, by simpa using hse, rfl⟩))
  | false =>
   have hne : lineOf rem ≠ [] := by intro e; rw [e] at hse; simp at hse
   by_cases h60 : 60 < out.length
   ·left; rw [decide_eq_true h60]
   ·rw [decide_eq_false h60]
    by_cases hf : (fieldL (lineOf rem) out.isEmpty).2 = 0
    ·rw [decide_eq_true hf]
     exact .inr (.inr (.inr (.inr ⟨hit, hne, by omega, hf, rfl⟩)))
    ·rw [decide_eq_false hf]
     exact .inr (.inr (.inr (.inl ⟨hit, hne, hf, rfl⟩)))
 ·right; left
  refine ⟨line_none.1 h1, ?_⟩
  unfold fieldsJ
  rw [decide_eq_true h1]
 ·left
  unfold fieldsJ
  rw [decide_eq_false (by omega), decide_eq_true h2]
theorem lead_pos {x : Str} (h : 0 < lead x) : x ≠ [] ∧ blankB (nth x 0) = true := by
 have h1 : ¬lead x = 0 := by omega
 rw [lead_zero] at h1
 simp only [not_or] at h1
 exact ⟨h1.1, by simpa using h1.2⟩
theorem line_head {rem : Str} (hit : hitL rem) (hne : lineOf rem ≠ []) : nth (lineOf rem) 0 = nth rem 0 := by
 have hit' : idxL rem 10 < rem.length := hit
 have hl : (rem.take (idxL rem 10)).length = idxL rem 10 := by rw [List.length_take]; omega
 have hpos : 0 < (lineOf rem).length := List.length_pos_iff.2 hne
 unfold lineOf at hpos ⊢
 unfold dropCR at hpos ⊢
 split
 ·rename_i hd
  rw [hd] at hpos
  simp only [] at hpos
  rw [List.take_take] at hpos ⊢
  rw [List.length_take] at hpos
  exact nth_take (by omega)
 ·rename_i hd
  rw [hd] at hpos
  simp only [] at hpos
  rw [List.length_take] at hpos
  exact nth_take (by omega)
theorem sync_bad {rest rem rest' : Str} {hs : Hdr} (s : Sync rest rem hs) (c : ContBad rem rest') : (fieldsL rest).2.1 ≠ 0 := by
 rcases s with ⟨out, f, _, _, _, hfst, e⟩ | h | h
 ·rw [e]
  show (fieldsJ (f + 1) rem out).2.1 ≠ 0
  rcases fields_step (f := f) (rem := rem) (out := out) with h1 | ⟨_, h1⟩ | ⟨q1, q2, _⟩ | ⟨q1, q2, q3, q4⟩ | ⟨q1, q2, q3, q4, q5⟩
  ·omega
  ·omega
  ·rcases c with ⟨c1, _⟩ | ⟨_, c1, _⟩ | ⟨_, c1, _⟩
   ·exact absurd q1 c1
   ·exact absurd q2 c1
   ·exact absurd q2 c1
  ·rw [q4]; exact q3
  ·obtain ⟨g1, g2, _⟩ := field_good q4
   rcases c with ⟨c1, _⟩ | ⟨_, _, c1, _⟩ | ⟨_, _, _, c1, _⟩
   ·exact absurd q1 c1
   ·exact absurd g2 c1
   ·rw [q5]
    show (fieldsJ f (nextOf rem) (out ++ [(fieldL (lineOf rem) out.isEmpty).1])).2.1 ≠ 0
    cases f with
    | zero => simp [fieldsJ]
    | succ f =>
     rcases fields_cont (f := f) (out := out ++ [(fieldL (lineOf rem) out.isEmpty).1]) (by simp) c1 with h | h <;> omega
 ·omega
 ·omega
theorem sync_end {rest rem l rest' : Str} {hs : Hdr} (s : Sync rest rem hs) (hx : ∃ x, rest = x ++ rem) (c : ContOk rem l rest') (hl : l = []) :
  (fieldsL rest).2.1 = 3 ∨ ((fieldsL rest).2.1 = 0 ∧ hs = groupH (fieldsL rest).1 ∧ rest' = rest.drop (fieldsL rest).2.2) := by
 have hc : hitL rem ∧ lineOf rem = [] ∧ rest' = nextOf rem := by
  rcases c with ⟨c1, c2, _, c3⟩ | ⟨_, _, c1, c2⟩ | ⟨_, _, c1, c2, _⟩
  ·exact ⟨c1, c2, c3⟩
  ·exfalso
   rcases c2 with ⟨_, e, _⟩ | ⟨_, ⟨y, e⟩, _⟩
   ·exact trimB_colon c1 (by rw [← e]; exact hl)
   ·rw [hl] at e
    exact trimB_colon c1 (List.append_eq_nil_iff.1 e.symm).1
  ·exact absurd (by rw [← c2]; exact hl) (trimB_colon c1)
 obtain ⟨c1, c2, c3⟩ := hc
 rcases s with ⟨out, f, e1, _, _, hfst, e⟩ | h | ⟨_, h⟩
 ·rcases fields_step (f := f) (rem := rem) (out := out) with h1 | ⟨q, h1⟩ | ⟨q1, q2, q3⟩ | ⟨q1, q2, _⟩ | ⟨q1, q2, _⟩
  ·left; rw [e]; exact h1
  ·exact absurd c1 q
  ·right
   rw [e, q3]
   refine ⟨rfl, e1, ?_⟩
   obtain ⟨x, hx⟩ := hx
   have hxl : rest.length - rem.length = x.length := by rw [hx, List.length_append]; omega
   rw [c3]
   show nextOf rem = rest.drop (rest.length - rem.length + (idxL rem 10 + 1))
   rw [hxl, hx, ← List.drop_drop, List.drop_left]
   rfl
  ·exact absurd c2 q2
  ·exact absurd c2 q2
 ·exact .inl h
 ·exact absurd c1 h
theorem sync_step {rest rem l rest' : Str} {hs : Hdr} (s : Sync rest rem hs) (hx : ∃ x, rest = x ++ rem) (c : ContOk rem l rest') (hl : l ≠ []) :
  (∃ x, tokL (l.take (idxL l 58)) = true ∧ idxL l 58 < l.length ∧ l.drop (idxL l 58 + 1) = trimR x ∧ contentL (trimB x) = true ∧ SyncA rest rest' (addH hs (canonL true (l.take (idxL l 58))) (trimB x))) ∨
  ((fieldsL rest).2.1 = 1 ∧ idxL l 58 < l.length ∧ (keyForm (l.take (idxL l 58))).2 = false) ∨ Dead rest rest' := by
 rcases s with ⟨out, f, e1, hol, hfl, hfst, e⟩ | h | ⟨h1, h⟩
 ·rcases c with ⟨_, _, c1, _⟩ | ⟨c1, c2, c3, c4⟩ | ⟨c1, _, _, _, c5⟩
  ·exact absurd c1 hl
  ·have hlead : out = [] → blankB (nth (lineOf rem) 0) = false := fun ho => by
    have := lead_zero.1 (hfst ho)
    rcases this with h | h
    ·rw [h] at c1; exact absurd c1 hit_nil
    ·rw [line_head c1 c2]; exact h
   obtain ⟨y, hy⟩ : ∃ y, l = trimB (lineOf rem) ++ y := by
    rcases c4 with ⟨_, h, _⟩ | ⟨_, h, _⟩
    ·exact ⟨[], by rw [h, List.append_nil]⟩
    ·exact h
   rcases fields_step (f := f) (rem := rem) (out := out) with h1 | ⟨q, h1⟩ | ⟨q1, q2, q3⟩ | ⟨q1, q2, q3, q4⟩ | ⟨q1, q2, q3, q4, q5⟩
   ·right; right; left; rw [e]; exact h1
   ·exact absurd c1 q
   ·exact absurd q2 c2
   ·
    have hv : (fieldsL rest).2.1 = (fieldL (lineOf rem) out.isEmpty).2 := by rw [e]; exact q4
    by_cases h1 : (fieldL (lineOf rem) out.isEmpty).2 = 1
    ·right; left
     rcases field_bad h1 with ⟨b1, b2⟩ | ⟨_, b2⟩ | ⟨b1, b2, b3, b4⟩
     ·have ho : out = [] := by simpa using b2
      rw [hlead ho] at b1; cases b1
     ·exact absurd c3 b2
     ·obtain ⟨k1, k2, k3, _⟩ := colon_key (y := y) b1 b2
      rw [hy, k1, k2]
      exact ⟨by rw [hv]; exact h1, k3, keyForm_no b3 b4⟩
    ·right; right; left
     rw [hv]
     have : (fieldL (lineOf rem) out.isEmpty).2 = 0 ∨ (fieldL (lineOf rem) out.isEmpty).2 = 1 ∨ (fieldL (lineOf rem) out.isEmpty).2 = 3 := by
      unfold fieldL
      cases blankB (nth (lineOf rem) 0) with
      | true => cases out.isEmpty <;> simp
      | false =>
       simp only []
       unfold fieldJ
       generalize ((lineOf rem).takeWhile noCol).length = i
       cases decide (i < (lineOf rem).length) with
       | false => simp
       | true =>
        cases ((lineOf rem).take i).any blankB with
        | true => simp
        | false =>
         cases tokL ((lineOf rem).take i) with
         | false => simp
         | true => cases contentL (trimB ((lineOf rem).drop (i + 1))) <;> simp
     omega
   ·obtain ⟨g1, g2, g3, g4, g5⟩ := field_good q4
    rcases c4 with ⟨n1, n2, n3⟩ | ⟨n1, _, n3⟩
    ·left
     obtain ⟨k1, k2, k3, k4⟩ := colon_key (y := []) g1 g2
     rw [List.append_nil] at k1 k2 k3
     rw [n2, k1, k2, k4]
     refine ⟨_, g3, k3, rfl, g4, out ++ [(fieldL (lineOf rem) out.isEmpty).1], f - 1, ?_, by simp; omega, ?_, (fun h => by simp at h), ?_⟩
     ·rw [group_snoc, g5, e1]
     ·have := next_len c1; rw [n3]; omega
     ·have := next_len c1
      have hf1 : f - 1 + 1 = f := by have : idxL rem 10 < rem.length := c1; omega
      rw [e, q5, hf1, n3]
      refine congrArg (Prod.mk _) (congrArg (Prod.mk _) ?_)
      obtain ⟨x, hx⟩ := hx
      have : rest.length = x.length + rem.length := by rw [hx, List.length_append]
      simp only []
      omega
    ·right; right
     have hv : (fieldsL rest).2.1 = (fieldsJ f (nextOf rem) (out ++ [(fieldL (lineOf rem) out.isEmpty).1])).2.1 := by rw [e, q5]
     cases f with
     | zero => have : idxL rem 10 < rem.length := c1; omega
     | succ f =>
      rcases fields_cont (f := f) (out := out ++ [(fieldL (lineOf rem) out.isEmpty).1]) (by simp) n1 with h | ⟨h, h2⟩
      ·left; rw [hv]; exact h
      ·right
       obtain ⟨x, hx⟩ := n3
       refine ⟨by rw [hv]; exact h, ?_⟩
       rw [hx] at h2
       exact hit_suffix h2
  ·right; right
   rcases fields_step (f := f) (rem := rem) (out := out) with h1 | ⟨q, h1⟩ | ⟨q1, _⟩ | ⟨q1, _⟩ | ⟨q1, _⟩
   ·left; rw [e]; exact h1
   ·right; rw [c5]; exact ⟨by rw [e]; exact h1, hit_nil⟩
   ·exact absurd q1 c1
   ·exact absurd q1 c1
   ·exact absurd q1 c1
 ·exact .inr (.inr (.inl h))
 ·right; right; right
  refine ⟨h1, ?_⟩
  rcases c with ⟨c1, _⟩ | ⟨c1, _⟩ | ⟨_, _, _, _, c5⟩
  ·exact absurd c1 h
  ·exact absurd c1 h
  ·rw [c5]; exact hit_nil
theorem sync_start {rest : Str} (h : lead rest = 0) : Sync rest rest [] :=
 .inl ⟨[], rest.length, rfl, by simp, Nat.le_refl _, fun _ => h, by unfold fieldsL; simp⟩
theorem fields_blank {rest : Str} (h : 0 < lead rest) : (fieldsL rest).2.1 ≠ 0 := by
 obtain ⟨h1, h2⟩ := lead_pos h
 have e : fieldsL rest = fieldsJ (rest.length + 1) rest [] := rfl
 rw [e]
 rcases fields_step (f := rest.length) (rem := rest) (out := []) with h1 | ⟨q, h1⟩ | ⟨q1, q2, q3⟩ | ⟨q1, q2, q3, q4⟩ | ⟨q1, q2, q3, q4, q5⟩
 ·omega
 ·omega
 ·exfalso
  have hd : rest.take (idxL rest 10) ≠ [] := by
   intro e2
   have := congrArg List.length e2
   rw [List.length_take, List.length_nil] at this
   have hi : idxL rest 10 < rest.length := q1
   have h0 : idxL rest 10 = 0 := by omega
   have := idx_nth hi
   rw [h0] at this
   rw [this] at h2
   revert h2; decide
  unfold lineOf at q2
  unfold dropCR at q2
  split at q2
  ·rename_i hd2
   have := of_decide_eq_true hd2
   have hl := congrArg List.length q2
   rw [List.length_take, List.length_nil] at hl
   have h0 : (rest.take (idxL rest 10)).length = 1 := by omega
   have h3 := this.2
   rw [h0] at h3
   have hti : 0 < idxL rest 10 := by rw [List.length_take] at h0; omega
   have h4 : nth (rest.take (idxL rest 10)) (1 - 1) = nth rest 0 := nth_take hti
   rw [h4] at h3
   unfold blankB blankN at h2
   simp at h2
   omega
  ·exact hd q2
 ·rw [q4]; exact q3
 ·obtain ⟨g1, _⟩ := field_good q4
  rw [line_head q1 q2, h2] at g1
  cases g1
end Go.Proofs.YtbjaapiliegegaaGreatDoor.Sy
end
