/- Of the proof of FnNoBody: SdL. -/
import Derived.Test.YtbjaapiliegegaaGreatDoorNb29
set_option linter.unusedVariables false
set_option linter.unusedSimpArgs false
namespace Go.Proofs.YtbjaapiliegegaaGreatDoor.Sy
open Go
set_option maxRecDepth 100000
variable {w0 : World} {h : Heap}
@[push_cast] def p143_15 : Plan := [(0, []), (1, []), (2, []), (3, []), (4, []), (5, []), (6, []), (7, [4]), (8, []), (9, []), (10, []), (11, [])]
@[push_cast] def p143_26 : Plan := [(0, []), (1, []), (2, []), (3, []), (4, []), (5, []), (6, [4]), (7, []), (8, []), (9, []), (10, [])]
def Kv (h : Heap) (tp : Nat) (g : Bio) (v : Value) (l rest : Str) (bv : Value) : Prop :=
 ∃ buf r w lb lrs sv src, BRl h g buf r w false lb lrs sv src ∧ restL buf r w src = rest ∧ TP h tp g bv ∧ RawB (tp + 1) h bv ∧ LineAt (tp + 1) h g buf r v l
def hitL (rest : Str) : Prop := idxL rest 10 < rest.length
def lineOf (rest : Str) : Str := dropCR (rest.take (idxL rest 10))
def nextOf (rest : Str) : Str := rest.drop (idxL rest 10 + 1)
def colonIn (l : Str) : Prop := idxL l 58 < l.length
def ContOk (rest l rest' : Str) : Prop :=
 (hitL rest ∧ lineOf rest = [] ∧ l = [] ∧ rest' = nextOf rest) ∨
 (hitL rest ∧ lineOf rest ≠ [] ∧ colonIn (lineOf rest) ∧ ((lead (nextOf rest) = 0 ∧ l = trimB (lineOf rest) ∧ rest' = nextOf rest) ∨ (0 < lead (nextOf rest) ∧ (∃ y, l = trimB (lineOf rest) ++ y) ∧ ∃ x, nextOf rest = x ++ rest'))) ∨
 (¬hitL rest ∧ rest ≠ [] ∧ colonIn rest ∧ l = trimB rest ∧ rest' = [])
def ContBad (rest rest' : Str) : Prop :=
 (¬hitL rest ∧ rest' = []) ∨ (hitL rest ∧ lineOf rest ≠ [] ∧ ¬colonIn (lineOf rest) ∧ rest' = nextOf rest) ∨ (hitL rest ∧ lineOf rest ≠ [] ∧ colonIn (lineOf rest) ∧ 0 < lead (nextOf rest) ∧ ∃ x, nextOf rest = x ++ rest')
def ContOut (tp : Nat) (g : Bio) (rest : Str) (v : Value) (h' : Heap) (bv : Value) (n : Nat) : Prop :=
  ∃ bv', (blkOf tp bv' = blkOf tp bv ∨ n ≤ blkOf tp bv' ∨ blkOf tp bv' = tp) ∧
  ((∃ u l rest', v = .tuple #[u, .nilIface] ∧ Kv h' tp g u l rest' bv' ∧ (l ≠ [] → ∀ b, InB b u → b = g.bb ∨ n ≤ b ∨ b = blkOf tp bv') ∧ l.length + rest'.length ≤ rest.length ∧ ContOk rest l rest') ∨
   (∃ t x rest', v = .tuple #[.slice none 0 0, .iface t x] ∧ BR h' g rest' ∧ TP h' tp g bv' ∧ RawB (tp + 1) h' bv' ∧ ContBad rest rest'))
theorem lead_zero {x : Str} : lead x = 0 ↔ (x = [] ∨ blankB (nth x 0) = false) := by
 cases x with
 | nil => simp [lead]
 | cons c x =>
  unfold lead
  rw [List.takeWhile_cons]
  show _ ↔ (c :: x = [] ∨ blankB c = false)
  cases hb : blankB c <;> simp
theorem TP.put {tp : Nat} {g : Bio} {bv bv' : Value} (t : TP h tp g bv) : TP (h.put tp (.cells [ptr g.R 0, .pointer none, bv'] 163 0 0)) tp g bv' :=
 ⟨at_put_eq _ _ _, t.lt, t.n1, t.n2, t.n3, t.n4⟩
theorem TP.out {tp : Nat} {g : Bio} {bv : Value} (t : TP h tp g bv) : g.R ∉ [tp] ∧ g.bb ∉ [tp] ∧ g.sb ∉ [tp] ∧ g.db ∉ [tp] := by
 have h1 := t.n1
 have h2 := t.n2
 have h3 := t.n3
 have h4 := t.n4
 simp
 omega
theorem off_blk {d i : Nat} {v : Value} (h : i ≠ blkOf d v) : Off i v := by
 unfold Off
 split
 ·rename_i b o p _ _
  cases p <;> exact h
 ·trivial
theorem blk_rel {d n : Nat} {v v' : Value} (h : ∀ b, ¬Off b v' → ¬Off b v ∨ n ≤ b) : blkOf d v' = blkOf d v ∨ n ≤ blkOf d v' ∨ blkOf d v' = d := by
 by_cases hv : ∃ b o p k c, v' = .slice (some ⟨b, o, p⟩) k c
 ·obtain ⟨b, o, p, k, c, rfl⟩ := hv
  rcases h b (fun ho => ho rfl) with h1 | h1
  ·left
   by_cases hw : ∃ b' o' p' k' c', v = .slice (some ⟨b', o', p'⟩) k' c'
   ·obtain ⟨b', o', p', k', c', rfl⟩ := hw
    exact Classical.not_not.1 h1
   ·exfalso
    apply h1
    unfold Off
    split
    ·rename_i b2 o2 p2 k2 c2
     exact absurd ⟨_, _, _, _, _, rfl⟩ hw
    ·trivial
  ·exact .inr (.inl h1)
 ·right; right
  unfold blkOf
  split
  ·exact absurd ⟨_, _, _, _, _, rfl⟩ hv
  ·rfl
theorem LineAt.keep {lo : Nat} {h h' : Heap} {g : Bio} {buf : Str} {r : Nat} {v : Value} {l : Str} {X : List Nat} (d : LineAt lo h g buf r v l) (k : Keep X h h') (hX : ∀ i ∈ X, i < lo) : LineAt lo h' g buf r v l := by
 rcases d with d | d
 ·exact .inl d
 ·refine .inr ?_
  rcases d with d | ⟨b, pre, post, cp, h1, h2, h3, h4, h5⟩
  ·exact .inl d
  ·exact .inr ⟨b, pre, post, cp, h1, Nat.lt_of_lt_of_le h2 k.1, h3, h4, (k.2 b h2 (fun hb => by have := hX b hb; omega)).trans h5⟩
theorem Bts.keepX {lo : Nat} {h h' : Heap} {v : Value} {l : Str} {X : List Nat} (r : Bts lo h v l) (k : Keep X h h') (hX : ∀ i ∈ X, i < lo) : Bts lo h' v l :=
 r.keep k.1 (fun b hb hlo _ => k.2 b hb (fun hi => by have := hX b hi; omega))
theorem trimB_le (l : Str) : (trimB l).length ≤ l.length := trimB_len l
theorem lead_drop_len (l : Str) : (l.dropWhile blankB).length = l.length - lead l := by rw [lead_drop, List.length_drop]
theorem grow {g : Bio} {tp c : Nat} {v x : Value} {l m rest : Str} (T : TP h tp g v) (hN : w0.heap.size ≤ tp) (r : Bts (tp + 1) h v l) (br : BR h g rest) (hx : Data h x m) (hne : l ++ m ≠ []) (hbig : l.length + m.length ≤ 2 ^ 32) :
  ∃ a' c' h', aappend w0.heap.size Tryz.prog h #[27, 27] v x c = some (.slice a' (l ++ m).length c', h') ∧ h'.at tp = some (.cells [ptr g.R 0, .pointer none, v] 163 0 0) ∧
   ∀ h'', h'' = h'.put tp (.cells [ptr g.R 0, .pointer none, .slice a' (l ++ m).length c'] 163 0 0) → TP h'' tp g (.slice a' (l ++ m).length c') ∧ RawB (tp + 1) h'' (.slice a' (l ++ m).length c') ∧ Bts (tp + 1) h'' (.slice a' (l ++ m).length c') (l ++ m) ∧ BR h'' g rest ∧
    Keep [tp, blkOf tp v] h h'' ∧ (blkOf tp (.slice a' (l ++ m).length c') = blkOf tp v ∨ h.n ≤ blkOf tp (.slice a' (l ++ m).length c') ∨ blkOf tp (.slice a' (l ++ m).length c') = tp) := by
 obtain ⟨v', h', e, r1, hn', ho', hb'⟩ := app_bytes (c := c) (N := w0.heap.size) r (by omega) (by have := T.lt; omega) hx hbig
 obtain ⟨a2, c2, e2⟩ := r1.own.data.len
 subst e2
 have htl := T.lt
 have tn1 := T.n1
 have tn2 := T.n2
 have tn3 := T.n3
 have tn4 := T.n4
 have hoff : ∀ i, i < h.n → i ≤ tp → h'.at i = h.at i := fun i hi hle => ho' i hi (r.off (by omega))
 have hTp := hoff tp htl (Nat.le_refl _)
 refine ⟨a2, c2, h', e, hTp.trans T.at', ?_⟩
 rintro h'' rfl
 have T4 : TP h' tp g v := ⟨hTp.trans T.at', Nat.lt_of_lt_of_le htl hn', tn1, tn2, tn3, tn4⟩
 have kput : ∀ o, Keep [tp] h' (h'.put tp o) := fun o => (Keep.refl _ _).put (.inl (by simp)) o
 obtain ⟨o1, o2, o3, o4⟩ := T4.out
 have r2 := r1.raw' hne
 refine ⟨T4.put, ?_, r1.keepX (kput _) (by simp), ?_, ?_, blk_rel hb'⟩
 ·rcases r2 with r2 | ⟨b', n', cp2, cs, e2, g1, g2, g3, g4, g5, g6⟩
  ·exact .inl r2
  ·exact .inr ⟨b', n', cp2, cs, e2, g1, g2, g3, g4, (at_put_ne _ _ (by omega)).trans g5, g6⟩
 ·obtain ⟨buf, q, w, lb, lrs, sv, src, b, e⟩ := br
  refine BR.keep (X := [tp]) ⟨buf, q, w, lb, lrs, sv, src, ?_, e⟩ (kput _) o1 o2 o3 o4
  exact ⟨(hoff _ b.lR (by omega)).trans b.rd, (hoff _ b.lb' (by omega)).trans b.bf, b.bl, b.rw, b.ww, (hoff _ b.ls (by omega)).trans b.sa, b.sd.keep (hoff _ b.ld (by omega)), b.sl, Nat.lt_of_lt_of_le b.lR hn', Nat.lt_of_lt_of_le b.lb' hn', Nat.lt_of_lt_of_le b.ls hn', Nat.lt_of_lt_of_le b.ld hn'⟩
 ·exact ⟨hn', fun i hi hX => (at_put_ne _ _ (by simp at hX; omega)).trans (ho' i hi (off_blk (d := tp) (by simp at hX; omega)))⟩
theorem Keep.via {X : List Nat} {d k : Nat} {a b c : Heap} (x : Keep X a b) (y : Keep [d, k] b c) (hd : d ∈ X) (hk : k ∈ X ∨ a.n ≤ k) : Keep X a c :=
 ⟨Nat.le_trans x.1 y.1, fun i hi hX => (y.2 i (Nat.lt_of_lt_of_le hi x.1) (by
  simp only [List.mem_cons, List.not_mem_nil, or_false, not_or]
  refine ⟨fun e => hX (e ▸ hd), fun e => ?_⟩
  rcases hk with hk | hk
  ·exact hX (e ▸ hk)
  ·omega)).trans (x.2 i hi hX)⟩
set_option maxHeartbeats 16000000 in
theorem contLine_ok {g : Bio} {tp : Nat} {bv : Value} {rest : Str} (lim : Int) (hlim : 10000000000 < lim) (hlim2 : lim < 9223372036854775808) (htp : w0.heap.size ≤ tp) (G : g.Ok w0.heap.size) (T : TP h tp g bv) (hbv : RawB (tp + 1) h bv) (b : BR h g rest) :
  ACall Tryz.prog w0 143 [ptr tp 0, .int .i64 lim, .func (.func 144) #[] #[]] h (fun v h' => Keep (g.X ++ [tp, blkOf tp bv]) h h' ∧ ContOut tp g rest v h' bv h.n) := by
 refine ACall.known fun hKn => ?_
 obtain ⟨hN, hB⟩ := hKn
 refine ACall.run noCount mixed Tryz.func143 rfl (by kernel_rfl) (Nat.le_of_ble_eq_true rfl) fun X hX => ?_
 have hsh := b.short
 have htl := T.lt
 have tn1 := T.n1
 have tn2 := T.n2
 have tn3 := T.n3
 have tn4 := T.n4
 have hbg : tp ≤ blkOf tp bv := by have := hbv.ge (d := tp) (Nat.le_refl _); omega
 have hbl : blkOf tp bv < h.n := hbv.lt htl
 have hoffb : blkOf tp bv ∉ g.X := by simp; omega
 (rw [M_seq]; refine M_hide (fun C1 hC1 => ?_))
 (repeat simp only[push_cast,go_sem_proc,↓ite_only,M_block])
 (subst hC1)
 (rw [M_seq]; refine M_hide (fun C1 hC1 => ?_))
 (repeat simp only[push_cast,go_sem_proc,↓ite_only,M_block])
 (subst hC1)
 (rw [M_seq]; refine M_hide (fun C1 hC1 => ?_))
 (repeat simp only[push_cast,go_sem_proc,↓ite_only,M_block])
 refine callM_of (readLineSlice_ok lim G T b) ?_
 rintro v h1 ⟨k1, hout⟩
 have T1 := T.keep k1 T.off
 have hbv1 := hbv.keep k1 hoffb
 have kk1 : Keep (g.X ++ [tp, blkOf tp bv]) h h1 := k1.more (fun i hi => List.mem_append_left _ hi)
 have hR0 : blkOf tp bv = blkOf tp bv ∨ h.n ≤ blkOf tp bv ∨ blkOf tp bv = tp := .inl rfl
 rcases hout with ⟨buf, r, w, lb, lrs, sv, src, vl, line, b1, rfl, hl, hc⟩ | ⟨rfl, hm, b1⟩ | ⟨h0, hlt, _⟩
 rotate_left
 ·(repeat simp only[push_cast,go_sem_proc,↓ite_only,M_block])
  (subst hC1)
  (repeat simp only[push_cast,go_sem_proc,↓ite_only,M_block])
  ((with_reducible refine hX _ _ _ (fun j hj => nomatch hj) ?_); simp only[push_cast,go_sem_proc,↓ite_only,M_block,Tryz.results143])
  exact ⟨kk1, bv, hR0, .inr ⟨_, _, [], rfl, b1, T1, hbv1, .inl ⟨hm, rfl⟩⟩⟩
 ·omega
 obtain ⟨a, cp, rfl⟩ := hl.len
 (repeat simp only[push_cast,go_sem_proc,↓ite_only,M_block])
 (subst hC1)
 (rw [M_seq]; refine M_hide (fun C1 hC1 => ?_))
 (repeat simp only[push_cast,go_sem_proc,↓ite_only,M_block])
 (subst hC1)
 (rw [M_seq]; refine M_hide (fun C1 hC1 => ?_))
 have hl' : LineAt (tp + 1) h1 g buf r (.slice a line.length cp) line := by
  rcases hl with hl | hl
  ·exact .inl hl
  ·refine .inr ?_
   rcases hl with hl | ⟨b', pre, post, cp', q1, q2, q3⟩
   ·exact .inl hl
   ·exact .inr ⟨b', pre, post, cp', by omega, q2, q3⟩
 have hd := hl'.data b1
 have hll : line.length < 1099511627776 := by
  rcases hc with ⟨_, rfl, _⟩ | ⟨_, rfl, _⟩
  ·have := dropCR_len (rest.take (idxL rest 10)); rw [List.length_take] at this; omega
  ·omega
 rcases Nat.eq_zero_or_pos line.length with h0 | h0
 ·have hle : line = [] := List.eq_nil_of_length_eq_zero h0
  subst hle
  rcases hc with ⟨hit, hline, hrest⟩ | ⟨_, e, hne, _⟩
  ·(repeat simp only[push_cast,go_sem_proc,↓ite_only,M_block])
   ((with_reducible refine hX _ _ _ (fun j hj => nomatch hj) ?_); simp only[push_cast,go_sem_proc,↓ite_only,M_block,Tryz.results143])
   exact ⟨kk1, bv, hR0, .inl ⟨_, [], _, rfl, ⟨buf, r, w, lb, lrs, sv, src, b1, rfl, T1, hbv1, hl'⟩, fun e => absurd rfl e, by rw [hrest, List.length_drop]; simp, .inl ⟨hit, hline.symm, rfl, hrest⟩⟩⟩
  ·exact absurd e.symm hne
 ·have hz : decide ((line.length : Int) = 0) = false := decide_eq_false (by omega)
  have hlne : line ≠ [] := List.length_pos_iff.1 h0
  (repeat simp only[push_cast,go_sem_proc,↓ite_only,M_block,hz])
  (subst hC1)
  (rw [M_seq]; refine M_hide (fun C1 hC1 => ?_))
  (repeat simp only[push_cast,go_sem_proc,↓ite_only,M_block])
  refine callM_of (colon_ok hd hll) ?_
  rintro v h2 ⟨rfl, hcol⟩
  rcases hcol with ⟨hcol, rfl⟩ | ⟨hcol, t, x, rfl⟩
  rotate_left
  ·(repeat simp only[push_cast,go_sem_proc,↓ite_only,M_block])
   ((with_reducible refine hX _ _ _ (fun j hj => nomatch hj) ?_); simp only[push_cast,go_sem_proc,↓ite_only,M_block,Tryz.results143])
   refine ⟨kk1, bv, hR0, .inr ⟨_, _, restL buf r w src, rfl, ⟨_, _, _, _, _, _, _, b1, rfl⟩, T1, hbv1, ?_⟩⟩
   rcases hc with ⟨hit, hline, hrest⟩ | ⟨hm, e, hne, hrest⟩
   ·exact .inr (.inl ⟨hit, by unfold lineOf; rw [← hline]; exact hlne, by unfold lineOf; rw [← hline]; exact hcol, hrest⟩)
   ·exact .inl ⟨hm, hrest⟩
  (repeat simp only[push_cast,go_sem_proc,↓ite_only,M_block])
  (subst hC1)
  have hlr : line.length + (restL buf r w src).length ≤ rest.length := by
   rcases hc with ⟨hit, rfl, e⟩ | ⟨_, rfl, _, e⟩
   ·have := dropCR_len (rest.take (idxL rest 10))
    rw [List.length_take] at this
    rw [e, List.length_drop]; omega
   ·rw [e]; simp
  have hgood : lead (restL buf r w src) = 0 → ContOk rest (trimB line) (restL buf r w src) := by
   intro hz
   rcases hc with ⟨hit, hline, hrest⟩ | ⟨hm, e, hne, hrest⟩
   ·have hl2 : line = lineOf rest := hline
    have hr2 : restL buf r w src = nextOf rest := hrest
    exact .inr (.inl ⟨hit, by rw [← hl2]; exact hlne, by rw [← hl2]; exact hcol, .inl ⟨by rw [← hr2]; exact hz, by rw [hl2], hr2⟩⟩)
   ·exact .inr (.inr ⟨hm, hne, by rw [← e]; exact hcol, by rw [e], hrest⟩)
  have hlong : 0 < lead (restL buf r w src) → hitL rest ∧ lineOf rest ≠ [] ∧ colonIn (lineOf rest) ∧ restL buf r w src = nextOf rest := by
   intro hp
   rcases hc with ⟨hit, hline, hrest⟩ | ⟨hm, e, hne, hrest⟩
   ·have hl2 : line = lineOf rest := hline
    exact ⟨hit, by rw [← hl2]; exact hlne, by rw [← hl2]; exact hcol, hrest⟩
   ·rw [hrest] at hp; simp [lead] at hp
  rw [M_seq]
  refine M_cut (fun tm h' => tget tm 0 = ptr tp 0 ∧ tget tm 1 = .int .i64 lim ∧ tget tm 8 = .slice a line.length cp ∧ ∃ lb lrs sv, BRl h' g buf r w false lb lrs sv src ∧ Keep g.X h2 h') (fun R hR hE => ?_) ?_
  ·have Ta := T1.at'
   have hlen2 := restL_len (src := src) b1.bl b1.rw b1.ww
   have hrw := b1.rw
   (repeat simp(disch:=omega)only[push_cast,go_sem_proc,↓ite_only,M_block,Ta])
   refine callM_of (buffered_ok b1) ?_
   rintro v h3 ⟨rfl, rfl⟩
   by_cases hb2 : 1 < w - r
   ·have hb2' : decide ((1 : Int) < (w : Int) - (r : Int)) = true := decide_eq_true (by omega)
    (repeat simp(disch:=omega)only[push_cast,go_sem_proc,↓ite_only,M_block,hb2', Ta])
    refine callM_of (peek_ok (n := 2) G b1 (by omega)) ?_
    rintro v h4 ⟨k4, buf4, r4, w4, sv4, src4, b4, e4, hsame, _, sl, rfl, hd4⟩
    obtain ⟨rfl, rfl, rfl, rfl, hbb⟩ := hsame (by omega)
    generalize hrc : restL buf4 r4 w4 src4 = rc at *
    have hrcl : 2 ≤ rc.length := by omega
    have hpl : (rc.take 2).length = 2 := by rw [List.length_take]; omega
    obtain ⟨b5, pre, post, cp5, lo5, hi5, rfl, hcp5, hat5⟩ := hd4.at (by omega)
    rw [hpl]
    have hg0 := mid_get pre post (rc.take 2) 0 (by omega)
    rw [Nat.add_zero, nth_take (by omega)] at hg0
    have hg1 := mid_get pre post (rc.take 2) 1 (by omega)
    rw [nth_take (by omega)] at hg1
    have hl4 := hl'.keep k4 (by simp; omega)
    have hret : (letN (nth rc 0).toNat = true ∨ (nth rc 0).toNat = 10 ∨ (nth rc 0).toNat = 13) → lead rc = 0 := by
     intro hh
     refine lead_zero.2 (.inr ?_)
     unfold blankB blankN
     rcases hh with hh | hh | hh
     ·have := of_decide_eq_true hh
      simp; omega
     ·simp; omega
     ·simp; omega
    have svd : SrcD h4 g.db sv4 src4 := b4.sd
    have done : lead rc = 0 → ∀ u n, Sub (.slice a line.length cp) u (lead line) n → (line.drop (lead line)).take n = trimB line → ContOut tp g rest (.tuple #[u, .nilIface]) h4 bv h.n := by
     intro hz u n hs he
     refine ⟨bv, hR0, .inl ⟨u, trimB line, rc, rfl, ⟨buf4, r4, w4, _, _, sv4, src4, b4, hrc, T1.keep k4 T.off, hbv1.keep k4 hoffb, ?_⟩, fun hne b hb => ?_, by have := trimB_le line; omega, hgood hz⟩⟩
     ·rw [← he]
      exact hl4.sub hs
     ·have hn0 : n ≠ 0 := by rintro rfl; exact hne (by rw [← he]; rfl)
      rcases hs with ⟨e0, _⟩ | ⟨b2, o2, len2, cp2, e2, _, rfl⟩
      ·exact absurd e0 hn0
      ·cases e2
       have hbe : b2 = b := hb
       rcases hl with hl | hl
       ·rcases hl with ⟨e, _⟩ | ⟨o, cp', e, _⟩
        ·exact absurd e hlne
        ·cases e; exact .inl hbe.symm
       ·rcases hl with ⟨e, _⟩ | ⟨b3, pre3, post3, cp3, q1, q2, e, _⟩
        ·exact absurd e hlne
        ·cases e; right; left; omega
    have kk4 : Keep (g.X ++ [tp, blkOf tp bv]) h h4 := kk1.trans (k4.more (fun i hi => List.mem_append_left _ hi))
    (repeat simp only[push_cast,go_sem_proc,↓ite_only,M_block,hat5, hg0])
    refine callM_of (letter_ok _) ?_
    rintro v h5 ⟨rfl, rfl⟩
    cases hlet : letN (nth rc 0).toNat with
    | true =>
     (repeat simp only[push_cast,go_sem_proc,↓ite_only,M_block,hat5, hg0])
     refine callM_of (trim_ok (hl4.data b4) hll) ?_
     rintro u h6 ⟨rfl, n, hs, hle, he⟩
     (repeat simp only[push_cast,go_sem_proc,↓ite_only,M_block])
     (with_reducible refine hE _ _ _ _ (nomatch ·) ?_)
     (repeat simp only[push_cast,go_sem_proc,↓ite_only,M_block])
     ((with_reducible refine hX _ _ _ (fun j hj => nomatch hj) ?_); simp only[push_cast,go_sem_proc,↓ite_only,M_block,Tryz.results143])
     exact ⟨kk4, done (hret (.inl hlet)) _ _ hs he⟩
    | false =>
     by_cases h10 : (nth rc 0).toNat = 10
     ·have h10' : ((nth rc 0).toNat : Int) = 10 := by omega
      (repeat simp only[push_cast,go_sem_proc,↓ite_only,M_block,hat5, hg0, h10'])
      refine callM_of (trim_ok (hl4.data b4) hll) ?_
      rintro u h6 ⟨rfl, n, hs, hle, he⟩
      (repeat simp only[push_cast,go_sem_proc,↓ite_only,M_block])
      (with_reducible refine hE _ _ _ _ (nomatch ·) ?_)
      (repeat simp only[push_cast,go_sem_proc,↓ite_only,M_block])
      ((with_reducible refine hX _ _ _ (fun j hj => nomatch hj) ?_); simp only[push_cast,go_sem_proc,↓ite_only,M_block,Tryz.results143])
      exact ⟨kk4, done (hret (.inr (.inl h10))) _ _ hs he⟩
     ·have h10' : decide (((nth rc 0).toNat : Int) = 10) = false := decide_eq_false (by omega)
      by_cases h13 : (nth rc 0).toNat = 13
      ·have h13' : ((nth rc 0).toNat : Int) = 13 := by omega
       by_cases h1 : (nth rc 1).toNat = 10
       ·have h1' : ((nth rc 1).toNat : Int) = 10 := by omega
        (repeat simp only[push_cast,go_sem_proc,↓ite_only,M_block,hat5, hg0, hg1, h10', h13', h1'])
        refine callM_of (trim_ok (hl4.data b4) hll) ?_
        rintro u h6 ⟨rfl, n, hs, hle, he⟩
        (repeat simp only[push_cast,go_sem_proc,↓ite_only,M_block])
        (with_reducible refine hE _ _ _ _ (nomatch ·) ?_)
        (repeat simp only[push_cast,go_sem_proc,↓ite_only,M_block])
        ((with_reducible refine hX _ _ _ (fun j hj => nomatch hj) ?_); simp only[push_cast,go_sem_proc,↓ite_only,M_block,Tryz.results143])
        exact ⟨kk4, done (hret (.inr (.inr h13))) _ _ hs he⟩
       ·have h1' : decide (((nth rc 1).toNat : Int) = 10) = false := decide_eq_false (by omega)
        (repeat simp only[push_cast,go_sem_proc,↓ite_only,M_block,hat5, hg0, hg1, h10', h13', h1'])
        exact hR _ _ ⟨(by simp only[zT,Nat.reduceBEq]), (by simp only[zT,Nat.reduceBEq]), (by simp only[zT,Nat.reduceBEq]), _, _, _, b4, k4⟩
      ·have h13' : decide (((nth rc 0).toNat : Int) = 13) = false := decide_eq_false (by omega)
       (repeat simp only[push_cast,go_sem_proc,↓ite_only,M_block,hat5, hg0, hg1, h10', h13'])
       exact hR _ _ ⟨(by simp only[zT,Nat.reduceBEq]), (by simp only[zT,Nat.reduceBEq]), (by simp only[zT,Nat.reduceBEq]), _, _, _, b4, k4⟩
   ·have hb2' : decide ((1 : Int) < (w : Int) - (r : Int)) = false := decide_eq_false (by omega)
    (repeat simp(disch:=omega)only[push_cast,go_sem_proc,↓ite_only,M_block,hb2', Ta])
    exact hR _ _ ⟨(by simp only[zT,Nat.reduceBEq]), (by simp only[zT,Nat.reduceBEq]), (by simp only[zT,Nat.reduceBEq]), _, _, _, b1, .refl _ _⟩
  ·rintro tm3 h3 ⟨t0, t1, t8, lb3, lrs3, sv3, b3, k3⟩
   have kk3 : Keep (g.X ++ [tp, blkOf tp bv]) h h3 := kk1.trans (k3.more (fun i hi => List.mem_append_left _ hi))
   have hl3 := hl'.keep k3 (by simp; omega)
   have T3 := T1.keep k3 T.off
   have hbv3 := hbv1.keep k3 hoffb
   have T3a := T3.at'
   have hn3 := kk3.1
   have hlim0 : decide (lim < 0) = false := decide_eq_false (by omega)
   have htb := trimB_le line
   generalize hrc : restL buf r w src = rc at *
   rw [M_seq]
   refine M_cut (fun tm h' => tget tm 0 = ptr tp 0 ∧ tget tm 1 = .int .i64 lim ∧ Keep (g.X ++ [tp, blkOf tp bv]) h h' ∧ BRl h' g buf r w false lb3 lrs3 sv3 src ∧ ∃ bv', TP h' tp g bv' ∧ RawB (tp + 1) h' bv' ∧ Bts (tp + 1) h' bv' (trimB line) ∧ (blkOf tp bv' = blkOf tp bv ∨ h.n ≤ blkOf tp bv' ∨ blkOf tp bv' = tp)) (fun R hR hE => ?_) ?_
   ·have step : ∀ (a' : Option Addr) (cp' : Nat), Bts (tp + 1) h3 (.slice a' 0 cp') [] → ((a' = none ∧ cp' = 0) ∨ 0 < cp') → blkOf tp (.slice a' 0 cp') = blkOf tp bv → ∀ (x : Value) c, Data h3 x (trimB line) → ∃ a2 c2 h', aappend w0.heap.size Tryz.prog h3 #[27, 27] (.slice a' 0 cp') x c = some (.slice a2 (trimB line).length c2, h') ∧ h'.at tp = some (.cells [ptr g.R 0, .pointer none, bv] 163 0 0) ∧
      ∀ tm, tget tm 0 = ptr tp 0 → tget tm 1 = .int .i64 lim → R .normal tm [] (h'.put tp (.cells [ptr g.R 0, .pointer none, .slice a2 (trimB line).length c2] 163 0 0)) := by
     intro a' cp' hB0 hcp0 hbk x c hx
     obtain ⟨v', h', e, r1, r2, hn', ho', hb'⟩ := app_raw (c := c) (N := w0.heap.size) hB0 hcp0 (by omega) (by omega) hx (by omega)
     obtain ⟨a2, c2, e2⟩ := r1.own.data.len
     subst e2
     have hoff : ∀ i, i < h3.n → i ≠ blkOf tp bv → h'.at i = h3.at i := fun i hi hne => ho' i hi (off_blk (d := tp) (by rw [hbk]; exact hne))
     have htpb : tp ≠ blkOf tp bv ∨ cp' = 0 := by
      rcases hbv3 with rfl | ⟨b', n', cp2, cs, rfl, _, _, g3, _⟩
      ·right
       rcases hcp0 with ⟨_, h0⟩ | h0
       ·exact h0
       ·rcases hB0 with ⟨e2, _⟩ | ⟨b2, cp3, rest2, e2, q1, q2, _⟩
        ·cases e2; rfl
        ·cases e2
         exfalso
         have : b2 = tp := hbk
         omega
      ·left; show tp ≠ b'; omega
     have hTp : h'.at tp = h3.at tp := by
      rcases htpb with hq | hq
      ·exact hoff tp T3.lt hq
      ·refine ho' tp T3.lt ?_
       rcases hB0 with ⟨e2, _⟩ | ⟨b2, cp3, rest2, e2, q1, q2, _⟩
       ·cases e2; trivial
       ·cases e2; show tp ≠ b2; omega
     have kx : Keep [blkOf tp bv] h3 h' := ⟨hn', fun i hi hX => hoff i hi (by simpa using hX)⟩
     have hgx : g.R ∉ [blkOf tp bv] ∧ g.bb ∉ [blkOf tp bv] ∧ g.sb ∉ [blkOf tp bv] ∧ g.db ∉ [blkOf tp bv] := by simp; omega
     have b4 := b3.keep kx hgx.1 hgx.2.1 hgx.2.2.1 hgx.2.2.2
     have T4 : TP h' tp g bv := ⟨hTp.trans T3a, Nat.lt_of_lt_of_le T3.lt hn', tn1, tn2, tn3, tn4⟩
     have kput : ∀ o, Keep [tp] h' (h'.put tp o) := fun o => (Keep.refl _ _).put (.inl (by simp)) o
     obtain ⟨o1, o2, o3, o4⟩ := T4.out
     have hlt1 : ∀ i ∈ [tp], i < tp + 1 := by simp
     refine ⟨a2, c2, h', e, T4.at', fun tm t0 t1 => hR _ _ ⟨t0, t1, ?_, b4.keep (kput _) o1 o2 o3 o4, _, T4.put, ?_, r1.keepX (kput _) hlt1, ?_⟩⟩
     ·exact kk3.trans ((kx.more (by simp)).trans ((kput _).more (by simp)))
     ·rcases r2 with r2 | ⟨b', n', cp2, cs, e2, g1, g2, g3, g4, g5, g6⟩
      ·exact .inl r2
      ·exact .inr ⟨b', n', cp2, cs, e2, g1, g2, g3, g4, (at_put_ne _ _ (by omega)).trans g5, g6⟩
     ·rcases hb' tp with q | q | q
      ·left; rw [q, hbk]
      ·right; left; omega
      ·right; right; exact q
    have hd3 := hl3.data b3
    rcases hbv3.anew with ⟨rfl, hB0⟩ | ⟨b', n', cp', rfl, hn', hcp', hB0⟩
    ·(repeat(first|(simp(disch:=omega)only[push_cast,go_sem_proc,↓ite_only,M_block,t0, t1, t8, T3a])|(with_reducible refine M_draw (id:=15) p143_15 ?_ ?_;focus kernel_rfl)))
     refine callP_of (trim_ok hd3 hll) ?_
     rintro u h4 ⟨rfl, n, hs, hle, he⟩
     (repeat simp only[push_cast,go_sem_proc,↓ite_only,M_block,T3a])
     intro c
     obtain ⟨a2, c2, h5, e, f2, hfin⟩ := step none 0 hB0 (.inl ⟨rfl, rfl⟩) rfl u c (he ▸ hd3.sub hs)
     rw [e]
     (repeat(first|(simp(disch:=first|omega|(simp only[zN];omega))only[push_cast,go_sem_proc,↓ite_only,M_block,t0, T3a, f2])|(with_reducible refine⟨by omega,?_⟩)))
     exact hfin _ ‹_› ‹_›
    ·have hc0 : (cp' = 0) = False := eq_false (by omega)
     (repeat(first|(simp(disch:=omega)only[push_cast,go_sem_proc,↓ite_only,M_block,t0, t1, t8, T3a, hc0])|(with_reducible refine⟨by omega,?_⟩)|(with_reducible refine M_draw (id:=15) p143_15 ?_ ?_;focus kernel_rfl)))
     refine callP_of (trim_ok hd3 hll) ?_
     rintro u h4 ⟨rfl, n, hs, hle, he⟩
     (repeat simp only[push_cast,go_sem_proc,↓ite_only,M_block,T3a])
     intro c
     obtain ⟨a2, c2, h5, e, f2, hfin⟩ := step (some ⟨b', 0, none⟩) cp' hB0 (.inr hcp') rfl u c (he ▸ hd3.sub hs)
     rw [e]
     (repeat(first|(simp(disch:=first|omega|(simp only[zN];omega))only[push_cast,go_sem_proc,↓ite_only,M_block,t0, T3a, f2])|(with_reducible refine⟨by omega,?_⟩)))
     exact hfin _ ‹_› ‹_›
   ·rintro tm4 h4 ⟨t0, t1, k4, b4, bv4, T4, hr4, r4, hrel4⟩
    have T4a := T4.at'
    obtain ⟨a4, c4, e4⟩ := r4.own.data.len
    subst e4
    have hln : 0 < lead rc → line = lineOf rest := by
     intro hp
     rcases hc with ⟨_, hline, _⟩ | ⟨_, _, _, hrest⟩
     ·exact hline
     ·rw [hrest] at hp; simp [lead] at hp
    generalize hm0 : trimB line = m0 at *
    have hsub : IntKind.i64.wrap (lim - m0.length) = lim - m0.length := wrap64 (by omega) (by omega)
    (repeat simp(disch:=omega)only[push_cast,go_sem_proc,↓ite_only,M_block,t0, t1, T4a, hlim0, hsub])
    refine M_loop (fun tm h' n => ∃ (l rest' : Str) (a' : Option Addr) (c' : Nat), n = rest'.length ∧ tget tm 0 = ptr tp 0 ∧ tget tm 1 = .int .i64 (lim - m0.length) ∧ TP h' tp g (.slice a' l.length c') ∧ RawB (tp + 1) h' (.slice a' l.length c') ∧ Bts (tp + 1) h' (.slice a' l.length c') l ∧ BR h' g rest' ∧
     Keep (g.X ++ [tp, blkOf tp bv]) h h' ∧ (blkOf tp (.slice a' l.length c') = blkOf tp bv ∨ h.n ≤ blkOf tp (.slice a' l.length c') ∨ blkOf tp (.slice a' l.length c') = tp) ∧ l.length + rest'.length ≤ rest.length ∧ ((l = m0 ∧ rest' = rc) ∨ (0 < lead rc ∧ (∃ y, l = m0 ++ y) ∧ ∃ x, rc = x ++ rest'))) rc.length
     ⟨m0, rc, a4, c4, rfl, ‹_›, (by simp only[zT,Nat.reduceBEq]), T4, hr4, r4, ⟨_, _, _, _, _, _, _, b4, hrc.symm⟩, k4, hrel4, by omega, .inl ⟨rfl, rfl⟩⟩ ?_
    rintro tm5 h5 n R ⟨l, rest', a5, c5, rfl, t0, t1, T5, hr5, r5, br5, k5, hrel5, hlen5, hst5⟩ hR hE
    have T5a := T5.at'
    have hg5 : tp ≤ blkOf tp (.slice a5 l.length c5) := by have := hr5.ge (d := tp) (Nat.le_refl _); omega
    have hoff5 : blkOf tp (.slice a5 l.length c5) ∉ g.X := by simp; omega
    (repeat simp only[push_cast,go_sem_proc,↓ite_only,M_block,t0])
    refine callM_of (skipSpace_ok G T5 br5) ?_
    rintro v h6 ⟨rfl, k6, br6⟩
    have T6 := T5.keep k6 T5.off
    have hr6 := hr5.keep k6 hoff5
    have r6 := r5.keepX k6 (by simp; omega)
    have T6a := T6.at'
    have kk6 : Keep (g.X ++ [tp, blkOf tp bv]) h h6 := k5.trans (k6.more (fun i hi => List.mem_append_left _ hi))
    rcases Nat.eq_zero_or_pos (lead rest') with hz | hp
    ·have hz' : decide ((0 : Int) < (lead rest' : Nat)) = false := decide_eq_false (by omega)
     (repeat simp only[push_cast,go_sem_proc,↓ite_only,M_block,hz'])
     (with_reducible refine hE _ _ _ _ (nomatch ·) ?_)
     (repeat simp(disch:=omega)only[push_cast,go_sem_proc,↓ite_only,M_block,t0, T6a])
     ((with_reducible refine hX _ _ _ (fun j hj => nomatch hj) ?_); simp only[push_cast,go_sem_proc,↓ite_only,M_block,Tryz.results143])
     rw [lead_drop, hz, List.drop_zero] at br6
     obtain ⟨buf6, r6', w6, lb6, lrs6, sv6, src6, b6, e6⟩ := br6
     refine ⟨kk6, _, hrel5, .inl ⟨_, l, rest', rfl, ⟨buf6, r6', w6, lb6, lrs6, sv6, src6, b6, e6.symm, T6, hr6, .inr r6.own⟩, fun hne b hb => ?_, hlen5, ?_⟩⟩
     ·right; right
      rcases r6 with ⟨_, h0, _⟩ | ⟨b2, cp2, rest2, e2, _⟩
      ·exact absurd (List.eq_nil_of_length_eq_zero h0) hne
      ·rw [e2] at hb ⊢; exact hb.symm
     rcases hst5 with ⟨rfl, rfl⟩ | ⟨hpos, ⟨y, hy⟩, x, hx⟩
     ·exact hgood hz
     ·obtain ⟨q1, q2, q3, q4⟩ := hlong hpos
      have hm0' : m0 = trimB (lineOf rest) := by rw [← hm0, hln hpos]
      exact .inr (.inl ⟨q1, q2, q3, .inr ⟨by rw [← q4]; exact hpos, ⟨y, by rw [hy, hm0']⟩, x, by rw [← q4]; exact hx⟩⟩)
    ·have hp' : decide ((0 : Int) < (lead rest' : Nat)) = true := decide_eq_true (by omega)
     (repeat simp(disch:=omega)only[push_cast,go_sem_proc,↓ite_only,M_block,hp', t0, T6a])
     intro c
     have hkv : ∀ k : Nat, (k = blkOf tp bv ∨ h.n ≤ k ∨ k = tp) → (k ∈ g.X ++ [tp, blkOf tp bv] ∨ h.n ≤ k) := by
      rintro k (rfl | hk | rfl)
      ·left; simp
      ·right; exact hk
      ·left; simp
     have hx7 : Ext h6 (h6.new (.cells [.int .u8 32] 5 0 0)) := (Ext.refl _).new _
     generalize h7e : h6.new (.cells [.int .u8 32] 5 0 0) = h7 at hx7 ⊢
     have hat7 : h7.at h6.n = some (.cells [.int .u8 32] 5 0 0) := by rw [← h7e]; exact at_new_eq _ _
     have hd7 : Data h7 (.slice (some ⟨h6.n, 0, none⟩) 1 1) [32] := .inr ⟨h6.n, [], [], 1, 0, 0, rfl, by simp, hat7⟩
     have T7 := T6.keep (hx7.keep []) (by simp)
     have hl5 : l.length ≤ 1000010000 := by omega
     obtain ⟨a8, c8, h8, e8, hT8, hf8⟩ := grow (w0 := w0) (c := c) T7 htp (r6.keepX (hx7.keep []) (by simp)) (br6.ext hx7) hd7 (by simp) (by simp; omega)
     rw [e8]
     obtain ⟨T9, hr9, r9, br9, k9, hrel9⟩ := hf8 _ rfl
     have hlen8 : (l ++ [(32 : UInt8)]).length = l.length + 1 := by simp
     rw [hlen8] at e8 hf8 T9 hr9 r9 br9 k9 hrel9
     have hlm : decide (lim - (m0.length : Int) ≤ (l.length : Int) + 1) = false := decide_eq_false (by omega)
     have hsub2 : IntKind.i64.wrap (lim - m0.length - ((l.length : Int) + 1)) = lim - m0.length - ((l.length : Int) + 1) := wrap64 (by omega) (by omega)
     have kk7 : Keep (g.X ++ [tp, blkOf tp bv]) h h7 := kk6.trans (hx7.keep _)
     have kk9 := kk7.via k9 (by simp) (hkv _ hrel5)
     have hn7 := kk7.1
     have hrel9' : blkOf tp (.slice a8 (l.length + 1) c8) = blkOf tp bv ∨ h.n ≤ blkOf tp (.slice a8 (l.length + 1) c8) ∨ blkOf tp (.slice a8 (l.length + 1) c8) = tp := by
      rcases hrel9 with q | q | q
      ·rw [q]; exact hrel5
      ·right; left; omega
      ·right; right; exact q
     have T9a := T9.at'
     rw [hlen8]
     generalize h9e : h8.put tp (.cells [ptr g.R 0, .pointer none, .slice a8 (l.length + 1) c8] 163 0 0) = h9 at *
     (repeat(first|(simp(disch:=first|omega|(simp only[zN];omega))only[push_cast,go_sem_proc,↓ite_only,M_block,t0, t1, hT8, h9e, T9a, hlm, hsub2])|(with_reducible refine⟨by omega,?_⟩)))
     refine callM_of (readLineSlice_ok _ G T9 br9) ?_
     rintro v h10 ⟨k10, hout10⟩
     have hr2l := lead_drop_len rest'
     have hld := lead_le rest'
     have hg9 : tp ≤ blkOf tp (.slice a8 (l.length + 1) c8) := by have := hr9.ge (d := tp) (Nat.le_refl _); omega
     have hoff9 : blkOf tp (.slice a8 (l.length + 1) c8) ∉ g.X := by simp; omega
     have T10 := T9.keep k10 T9.off
     have hr10 := hr9.keep k10 hoff9
     have r10 := r9.keepX k10 (by simp; omega)
     have T10a := T10.at'
     have kk10 : Keep (g.X ++ [tp, blkOf tp bv]) h h10 := kk9.trans (k10.more (fun i hi => List.mem_append_left _ hi))
     have hpos : 0 < lead rc := by
      rcases hst5 with ⟨rfl, rfl⟩ | ⟨hpos, _⟩
      ·exact hp
      ·exact hpos
     obtain ⟨x0, hx0⟩ : ∃ x, rc = x ++ rest' := by
      rcases hst5 with ⟨rfl, rfl⟩ | ⟨_, hx⟩
      ·exact ⟨[], rfl⟩
      ·exact hx.2
     obtain ⟨y0, hy0⟩ : ∃ y, l = m0 ++ y := by
      rcases hst5 with ⟨rfl, rfl⟩ | ⟨_, hy, _⟩
      ·exact ⟨[], (List.append_nil _).symm⟩
      ·exact hy
     have hx1 : rc = (x0 ++ rest'.take (lead rest')) ++ rest'.dropWhile blankB := by
      rw [lead_drop, List.append_assoc, List.take_append_drop]; exact hx0
     obtain ⟨q1, q2, q3, q4⟩ := hlong hpos
     rcases hout10 with ⟨buf10, r10', w10, lb10, lrs10, sv10, src10, vl10, line10, b10, rfl, hl10, hc10⟩ | ⟨rfl, hm10, br10⟩ | ⟨h0', hlt10, _⟩
     ·obtain ⟨a10, c10, rfl⟩ := hl10.len
      have hd10 := hl10.data b10
      have hl10l : line10.length + (restL buf10 r10' w10 src10).length ≤ (rest'.dropWhile blankB).length := by
       rcases hc10 with ⟨hit, rfl, e⟩ | ⟨_, rfl, _, e⟩
       ·have := dropCR_len ((rest'.dropWhile blankB).take (idxL (rest'.dropWhile blankB) 10))
        rw [List.length_take] at this
        rw [e, List.length_drop]
        have : idxL (rest'.dropWhile blankB) 10 < (rest'.dropWhile blankB).length := hit
        omega
       ·rw [e]; simp
      have hlt10 : (restL buf10 r10' w10 src10).length < rest'.length := by omega
      obtain ⟨x2, hx2⟩ : ∃ x, rest'.dropWhile blankB = x ++ restL buf10 r10' w10 src10 := by
       rcases hc10 with ⟨hit, _, e⟩ | ⟨_, _, _, e⟩
       ·rw [e]; exact ⟨_, (List.take_append_drop _ _).symm⟩
       ·rw [e]; exact ⟨_, (List.append_nil _).symm⟩
      generalize hrest10 : restL buf10 r10' w10 src10 = rest10 at *
      have br10 : BR h10 g rest10 := ⟨_, _, _, _, _, _, _, b10, hrest10.symm⟩
      (repeat(first|(simp(disch:=omega)only[push_cast,go_sem_proc,↓ite_only,M_block,t0, t1, T10a])|(with_reducible refine M_draw (id:=26) p143_26 ?_ ?_;focus kernel_rfl)))
      refine callP_of (trim_ok hd10 (by omega)) ?_
      rintro u h11 ⟨rfl, n, hs, hle, he⟩
      have hd11 := he ▸ hd10.sub hs
      (repeat simp only[push_cast,go_sem_proc,↓ite_only,M_block,T10a])
      intro c2
      have htb10 := trimB_le line10
      have hlen9 : (l ++ [(32 : UInt8)]).length = l.length + 1 := by simp
      obtain ⟨a12, c12, h12, e12, hT12, hf12⟩ := grow (w0 := w0) (c := c2) T10 htp r10 br10 hd11 (by simp) (by simp; omega)
      rw [e12]
      obtain ⟨T13, hr13, r13, br13, k13, hrel13⟩ := hf12 _ rfl
      generalize hL : l ++ [(32 : UInt8)] ++ trimB line10 = L at *
      have hLl : L.length = l.length + 1 + (trimB line10).length := by rw [← hL]; simp; omega
      generalize h13e : h12.put tp (.cells [ptr g.R 0, .pointer none, .slice a12 L.length c12] 163 0 0) = h13 at *
      (repeat(first|(simp(disch:=first|omega|(simp only[zN];omega))only[push_cast,go_sem_proc,↓ite_only,M_block,t0, t1, hT12, h13e])|(with_reducible refine⟨by omega,?_⟩)))
      refine hR _ _ rest10.length hlt10 ⟨L, rest10, a12, c12, rfl, ‹_›, ‹_›, T13, hr13, r13, br13, kk10.via k13 (by simp) (hkv _ hrel9'), ?_, by omega,   .inr ⟨hpos, ⟨y0 ++ [32] ++ trimB line10, by rw [← hL, hy0]; simp only [List.append_assoc]⟩, x0 ++ rest'.take (lead rest') ++ x2, by rw [hx1, hx2]; simp only [List.append_assoc]⟩⟩
      have hn10 := kk10.1
      rcases hrel13 with q | q | q
      ·rw [q]; exact hrel9'
      ·right; left; omega
      ·right; right; exact q
     ·(repeat simp only[push_cast,go_sem_proc,↓ite_only,M_block,t0, t1])
      (with_reducible refine hE _ _ _ _ (nomatch ·) ?_)
      (repeat simp only[push_cast,go_sem_proc,↓ite_only,M_block])
      ((with_reducible refine hX _ _ _ (fun j hj => nomatch hj) ?_); simp only[push_cast,go_sem_proc,↓ite_only,M_block,Tryz.results143])
      exact ⟨kk10, _, hrel9', .inr ⟨_, _, [], rfl, br10, T10, hr10, .inr (.inr ⟨q1, q2, q3, by rw [← q4]; exact hpos, _, by rw [← q4]; exact (List.append_nil rc).symm⟩)⟩⟩
     ·omega
end Go.Proofs.YtbjaapiliegegaaGreatDoor.Sy
