/- Of the proof of FnNoBody: ScH ScI ScJ. -/
import Derived.Test.YtbjaapiliegegaaGreatDoorNb20
set_option linter.unusedVariables false
set_option linter.unusedSimpArgs false
section
namespace Go.Proofs.YtbjaapiliegegaaGreatDoor.Sy
open Go
set_option maxRecDepth 100000
variable {w0 : World} {h : Heap}
theorem trim_len (x : Str) : (trimR x).length ≤ x.length := by
 unfold trimR
 rw [List.length_reverse]
 refine Nat.le_trans (List.dropWhile_suffix _).length_le ?_
 rw [List.length_reverse]
 exact Nat.le_refl _
theorem Strs.ext {lo : Nat} {h h' : Heap} {v : Value} {ss : List Str} (r : Strs lo h v ss) (hx : Ext h h') : Strs lo h' v ss := r.keep hx.1 (fun b hb _ _ => hx.2 b hb)
theorem Flds.ext {lo : Nat} {h h' : Heap} {v : Value} {ss : List Fld} (r : Flds lo h v ss) (hx : Ext h h') : Flds lo h' v ss := r.keep hx.1 (fun b hb _ _ => hx.2 b hb)
set_option maxHeartbeats 4000000 in
theorem list_ok (s : Str) (hl : s.length < 1000000) :
  ACall Tryz.prog w0 102 [S s] h (fun v h' => Strs h.n h' v (listL s) ∧ Ext h h') := by
 refine ACall.known fun hKn => ?_
 obtain ⟨hN, hB⟩ := hKn
 refine ACall.run noCount mixed Tryz.func102 rfl (by kernel_rfl) (Nat.le_of_ble_eq_true rfl) fun X hX => ?_
 (repeat simp only[push_cast,go_sem_proc,↓ite_only,M_block])
 refine M_loop (fun tm h1 n => ∃ (i fr : Nat) (done : List Str) (sv : Value), fr ≤ i ∧ i ≤ s.length + 1 ∧ n = s.length + 1 - i ∧ Ext h h1 ∧ Strs h.n h1 sv (done.map trimB) ∧ done.length ≤ i ∧
   ((i ≤ s.length ∧ ((s.drop fr).take (i - fr)).all noCom = true ∧ splitC s = done ++ splitC (s.drop fr)) ∨ (i = s.length + 1 ∧ splitC s = done)) ∧
   tget tm 5 = I i ∧ tget tm 4 = I fr ∧ tget tm 0 = S s ∧ tget tm 3 = sv) (s.length + 1)
  ⟨0, 0, [], _, by omega, by omega, by omega, .refl _, Row.nil _ _ _ _, by simp, .inl ⟨by omega, rfl, rfl⟩, (by simp only[zT,Nat.reduceBEq];rfl), (by simp only[zT,Nat.reduceBEq];rfl), (by simp only[zT,Nat.reduceBEq]), (by simp only[zT,Nat.reduceBEq])⟩ ?_
 rintro tm1 h1 n R ⟨i, fr, done, sv, hfr, hi, rfl, hx, hsv, hdl, hcase, t5, t4, t0, t3⟩ hR hE
 (repeat simp only[push_cast,go_sem_proc,↓ite_only,t5, t0])
 (with_reducible(first|refine condM_same ?_ ?_|refine condM_nsame ?_ ?_|refine oneM_same ?_ ?_|refine oneM_nsame ?_ ?_|refine oneP_same ?_ ?_|refine oneP_nsame ?_ ?_|refine condM_dec_ ?_ ?_|refine condM_not_ ?_ ?_|refine oneM_dec_ ?_ ?_|refine oneM_not_ ?_ ?_|refine oneP_dec_ ?_ ?_|refine oneP_not_ ?_ ?_|refine condM_bool ?_ ?_|refine oneM_bool ?_ ?_|refine oneP_bool ?_ ?_)<;>intro c)
 ·have hi' : i ≤ s.length := by omega
  obtain ⟨_, hall, hsp⟩ : i ≤ s.length ∧ ((s.drop fr).take (i - fr)).all noCom = true ∧ splitC s = done ++ splitC (s.drop fr) := by
   rcases hcase with hc | hc
   ·exact hc
   ·omega
  have hdf : (s.drop fr).length = s.length - fr := List.length_drop
  have hnd : nth (s.drop fr) (i - fr) = nth s i := by rw [nth_drop, show fr + (i - fr) = i by omega]
  have hsub : (s.take i).drop fr = (s.drop fr).take (i - fr) := by rw [List.drop_take]
  have hgo : nth s i = nth s i → (i < s.length ∧ ¬(nth s i).toNat = 44) → ((s.drop fr).take (i + 1 - fr)).all noCom = true := fun _ ⟨h1, h2⟩ => by
   rw [show i + 1 - fr = (i - fr) + 1 by omega]
   exact all_snoc (by omega) hall (by rw [hnd]; simp [noCom, h2])
  have hstop : (i = s.length ∨ (i < s.length ∧ (nth s i).toNat = 44)) → (i = s.length ∧ splitC s = done ++ [(s.take i).drop fr]) ∨ (i < s.length ∧ splitC s = (done ++ [(s.take i).drop fr]) ++ splitC (s.drop (i + 1))) := fun hh => by
   rcases hh with hh | ⟨h1, h2⟩
   ·left
    refine ⟨hh, ?_⟩
    have h3 : (s.drop fr).take (i - fr) = s.drop fr := List.take_of_length_le (by omega)
    rw [h3] at hall
    rw [hsp, split_end _ hall, hsub, h3]
   ·right
    refine ⟨h1, ?_⟩
    rw [hsp, split_at (s.drop fr) (i - fr) (by omega) hall (by rw [hnd]; exact h2), hsub, List.drop_drop, show fr + (i - fr + 1) = i + 1 by omega]
    simp
  (repeat simp only[push_cast,go_sem_proc,↓ite_only])
  simp only [M_block]
  rw [M_seq]
  refine M_cut (fun tm h' => h' = h1 ∧ tget tm 5 = I i ∧ tget tm 4 = I fr ∧ tget tm 0 = S s ∧ tget tm 3 = sv ∧ ((i = s.length ∧ splitC s = done ++ [(s.take i).drop fr]) ∨ (i < s.length ∧ splitC s = (done ++ [(s.take i).drop fr]) ++ splitC (s.drop (i + 1))))) (fun R2 hR2 hE2 => ?_) ?_
  ·(repeat simp only[push_cast,go_sem_proc,↓ite_only,M_block,t5, t0])
   repeat' ((with_reducible(first|refine condM_same ?_ ?_|refine condM_nsame ?_ ?_|refine oneM_same ?_ ?_|refine oneM_nsame ?_ ?_|refine oneP_same ?_ ?_|refine oneP_nsame ?_ ?_|refine condM_dec_ ?_ ?_|refine condM_not_ ?_ ?_|refine oneM_dec_ ?_ ?_|refine oneM_not_ ?_ ?_|refine oneP_dec_ ?_ ?_|refine oneP_not_ ?_ ?_|refine condM_bool ?_ ?_|refine oneM_bool ?_ ?_|refine oneP_bool ?_ ?_)<;>intro c) <;> first | (exfalso; first | contradiction | omega) | (try (repeat(first|(simp only[push_cast,go_sem_proc,↓ite_only,M_block,t5, t0, c])|(with_reducible refine⟨by omega,?_⟩)))))
   ·(with_reducible refine hE2 _ _ _ _ (nomatch ·) ?_)
    (repeat simp(disch:=omega)only[push_cast,go_sem_proc,↓ite_only,M_block,t5])
    refine hR _ _ (s.length + 1 - (i + 1)) (by omega) ⟨i + 1, fr, done, sv, by omega, by omega, rfl, hx, hsv, by omega, .inl ⟨by omega, hgo rfl ⟨by omega, by omega⟩, hsp⟩, (by simp only[zT,Nat.reduceBEq];rfl), ‹_›, ‹_›, ‹_›⟩
   ·exact hR2 _ _ ⟨rfl, ‹_›, ‹_›, ‹_›, ‹_›, hstop (.inr ⟨by omega, by omega⟩)⟩
   ·exact hR2 _ _ ⟨rfl, ‹_›, ‹_›, ‹_›, ‹_›, hstop (.inl (by omega))⟩
  ·rintro tm2 h2 ⟨rfl, t5, t4, t0, t3, hnext⟩
   obtain ⟨x0, hx0⟩ : ∃ x, (s.take i).drop fr = x := ⟨_, rfl⟩
   rw [hx0] at hnext
   have hx0l : x0.length ≤ s.length := by rw [← hx0, List.length_drop, List.length_take]; omega
   (repeat(first|(simp only[push_cast,go_sem_proc,↓ite_only,t5, t4, t0, hx0])|(with_reducible refine⟨by omega,?_⟩)))
   refine M_cut (fun tm h6 => Ext h2 h6 ∧ tget tm 5 = I i ∧ tget tm 4 = I fr ∧ tget tm 0 = S s ∧ tget tm 3 = sv ∧ tget tm 6 = S (x0.dropWhile blankB)) (fun R2 hR2 hE2 => ?_) ?_
   ·(repeat simp only[push_cast,go_sem_proc,↓ite_only,M_block])
    refine M_loop (fun tm h6 n => ∃ x : Str, x.length ≤ s.length ∧ n = x.length ∧ Ext h2 h6 ∧ tget tm 6 = S x ∧ tget tm 5 = I i ∧ tget tm 4 = I fr ∧ tget tm 0 = S s ∧ tget tm 3 = sv ∧ x.dropWhile blankB = x0.dropWhile blankB) x0.length
     ⟨x0, by omega, rfl, .refl _, (by simp only[zT,Nat.reduceBEq]), ‹_›, ‹_›, ‹_›, ‹_›, rfl⟩ ?_
    rintro tm4 h6 n R3 ⟨x, hxl, rfl, hx6, t6, t5, t4, t0, t3, hdw⟩ hR3 hE3
    have hdx : (x.take x.length).drop 1 = x.drop 1 := by rw [List.take_length]
    rcases Nat.eq_zero_or_pos x.length with hz | hpos
    ·have hxe : x = [] := List.eq_nil_of_length_eq_zero hz
     subst hxe
     (repeat simp(disch:=decide)only[push_cast,go_sem_proc,↓ite_only,M_block,t6])
     (with_reducible refine hE3 _ _ _ _ (nomatch ·) ?_)
     (repeat simp only[push_cast,go_sem_proc,↓ite_only,M_block])
     refine hR2 _ _ ⟨hx6, ‹_›, ‹_›, ‹_›, ‹_›, ?_⟩
     simp only [tget_cons, Nat.reduceBEq, tsel_true, tsel_false, t6, ← hdw]
     rfl
    ·have hne : ¬x = [] := fun e => by rw [e] at hpos; simp at hpos
     (repeat(first|(simp(disch:=omega)only[push_cast,go_sem_proc,↓ite_only,M_block,t6])|(with_reducible refine⟨by omega,?_⟩)))
     refine callM_of (blank_ok _) ?_
     rintro v h7 ⟨rfl, hx7⟩
     cases hbx : blankB (nth x 0) with
     | true =>
      (repeat(first|(simp only[push_cast,go_sem_proc,↓ite_only,M_block,t6, hdx])|(with_reducible refine⟨by omega,?_⟩)))
      refine hR3 _ _ (x.length - 1) (by omega) ⟨x.drop 1, by rw [List.length_drop]; omega, by rw [List.length_drop], hx6.trans hx7, (by simp only[zT,Nat.reduceBEq]), ‹_›, ‹_›, ‹_›, ‹_›, ?_⟩
      rw [← dw_go hpos hbx, hdw]
     | false =>
      (repeat simp only[push_cast,go_sem_proc,↓ite_only,M_block])
      (with_reducible refine hE3 _ _ _ _ (nomatch ·) ?_)
      (repeat simp only[push_cast,go_sem_proc,↓ite_only,M_block])
      refine hR2 _ _ ⟨hx6.trans hx7, ‹_›, ‹_›, ‹_›, ‹_›, ?_⟩
      simp only [tget_cons, Nat.reduceBEq, tsel_true, tsel_false, t6, ← hdw]
      rw [dw_stop (.inr hbx)]
   ·rintro tm3 h3 ⟨hx3, t5, t4, t0, t3, t6⟩
    have hx1l : (x0.dropWhile blankB).length ≤ s.length := Nat.le_trans (List.dropWhile_suffix _).length_le hx0l
    have hTB : trimB x0 = trimR (x0.dropWhile blankB) := rfl
    generalize hx1 : x0.dropWhile blankB = x1 at t6 hx1l hTB
    (repeat simp only[push_cast,go_sem_proc,↓ite_only])
    refine M_cut (fun tm h6 => Ext h2 h6 ∧ tget tm 5 = I i ∧ tget tm 4 = I fr ∧ tget tm 0 = S s ∧ tget tm 3 = sv ∧ tget tm 6 = S (trimR x1)) (fun R2 hR2 hE2 => ?_) ?_
    ·(repeat simp only[push_cast,go_sem_proc,↓ite_only,M_block])
     refine M_loop (fun tm h6 n => ∃ x : Str, x.length ≤ s.length ∧ n = x.length ∧ Ext h2 h6 ∧ tget tm 6 = S x ∧ tget tm 5 = I i ∧ tget tm 4 = I fr ∧ tget tm 0 = S s ∧ tget tm 3 = sv ∧ trimR x = trimR x1) x1.length
      ⟨x1, by omega, rfl, hx3, ‹_›, ‹_›, ‹_›, ‹_›, ‹_›, rfl⟩ ?_
     rintro tm4 h6 n R3 ⟨x, hxl, rfl, hx6, t6, t5, t4, t0, t3, hdw⟩ hR3 hE3
     rcases Nat.eq_zero_or_pos x.length with hz | hpos
     ·have hxe : x = [] := List.eq_nil_of_length_eq_zero hz
      subst hxe
      (repeat simp(disch:=decide)only[push_cast,go_sem_proc,↓ite_only,M_block,t6])
      (with_reducible refine hE3 _ _ _ _ (nomatch ·) ?_)
      (repeat simp only[push_cast,go_sem_proc,↓ite_only,M_block])
      refine hR2 _ _ ⟨hx6, ‹_›, ‹_›, ‹_›, ‹_›, ?_⟩
      simp only [tget_cons, Nat.reduceBEq, tsel_true, tsel_false, t6, ← hdw]
      rfl
     ·have hne : ¬x = [] := fun e => by rw [e] at hpos; simp at hpos
      have hlm : ((x.length : Int) - 1).toNat = x.length - 1 := by omega
      (repeat(first|(simp(disch:=omega)only[push_cast,go_sem_proc,↓ite_only,M_block,t6, hlm])|(with_reducible refine⟨by omega,?_⟩)))
      refine callM_of (blank_ok _) ?_
      rintro v h7 ⟨rfl, hx7⟩
      cases hbx : blankB (nth x (x.length - 1)) with
      | true =>
       (repeat(first|(simp(disch:=omega)only[push_cast,go_sem_proc,↓ite_only,M_block,t6, hlm])|(with_reducible refine⟨by omega,?_⟩)))
       refine hR3 _ _ (x.length - 1) (by omega) ⟨x.take (x.length - 1), by rw [List.length_take]; omega, by rw [List.length_take, Nat.min_eq_left (by omega)], hx6.trans hx7, (by simp only[zT,Nat.reduceBEq]), ‹_›, ‹_›, ‹_›, ‹_›, ?_⟩
       rw [← tr_go hpos hbx, hdw]
      | false =>
       (repeat simp only[push_cast,go_sem_proc,↓ite_only,M_block])
       (with_reducible refine hE3 _ _ _ _ (nomatch ·) ?_)
       (repeat simp only[push_cast,go_sem_proc,↓ite_only,M_block])
       refine hR2 _ _ ⟨hx6.trans hx7, ‹_›, ‹_›, ‹_›, ‹_›, ?_⟩
       simp only [tget_cons, Nat.reduceBEq, tsel_true, tsel_false, t6, ← hdw]
       rw [tr_stop (.inr hbx)]
    ·rintro tm4 h4 ⟨hx4, t5, t4, t0, t3, t6⟩
     rw [← hTB] at t6
     have hsv4 := hsv.ext hx4
     have hx04 := hx.trans hx4
     have hn4 := hx04.1
     (repeat simp only[push_cast,go_sem_proc,↓ite_only,M_block,t6, t3])
     intro c0
     generalize hH : Heap.new _ _ = h5
     have hat5 : h5.at h4.n = some (.cells [S (trimB x0)] 9 0 0) := by rw [← hH]; exact at_new_eq _ _
     have hn5 : h5.n = h4.n + 1 := by rw [← hH]; rfl
     have hold : ∀ b, b < h4.n → h5.at b = h4.at b := fun b hb => by rw [← hH, at_new_ne _ _ (by omega)]
     have hsv5 := hsv4.keep (h' := h5) (by omega) (fun b hb _ _ => hold b hb)
     have hdl' : (done.map trimB).length ≤ i := by rw [List.length_map]; exact hdl
     obtain ⟨sv', h6, e6, hsv6, hn6, hold6, _⟩ := app_str (c := c0) (N := w0.heap.size) hsv5 hN (by omega) hat5 (by omega)
     rw [e6]
     have hmap : (done ++ [x0]).map trimB = done.map trimB ++ [trimB x0] := by rw [List.map_append]; rfl
     have hfin : Ext h h6 := ⟨by omega, fun c hc => (hold6 c (by omega) (hsv5.off hc)).trans ((hold c (by omega)).trans (hx04.2 c hc))⟩
     (repeat simp(disch:=omega)only[push_cast,go_sem_proc,↓ite_only,M_block,t5])
     rcases hnext with ⟨h1', h2'⟩ | ⟨h1', h2'⟩
     ·refine hR _ _ (s.length + 1 - (i + 1)) (by omega) ⟨i + 1, i + 1, done ++ [x0], sv', by omega, by omega, rfl, hfin, by rw [hmap]; exact hsv6, by simp; omega, .inr ⟨by omega, h2'⟩, (by simp only[zT,Nat.reduceBEq];rfl), (by simp only[zT,Nat.reduceBEq];rfl), ‹_›, (by simp only[zT,Nat.reduceBEq])⟩
     ·refine hR _ _ (s.length + 1 - (i + 1)) (by omega) ⟨i + 1, i + 1, done ++ [x0], sv', by omega, by omega, rfl, hfin, by rw [hmap]; exact hsv6, by simp; omega, .inl ⟨by omega, by rw [Nat.sub_self]; rfl, h2'⟩, (by simp only[zT,Nat.reduceBEq];rfl), (by simp only[zT,Nat.reduceBEq];rfl), ‹_›, (by simp only[zT,Nat.reduceBEq])⟩
 ·have hfin : splitC s = done := by
   rcases hcase with hc | hc
   ·omega
   ·exact hc.2
  (repeat simp only[push_cast,go_sem_proc,↓ite_only,M_block])
  (with_reducible refine hE _ _ _ _ (nomatch ·) ?_)
  (repeat simp only[push_cast,go_sem_proc,↓ite_only,M_block,t3])
  ((with_reducible refine hX _ _ _ (fun j hj => nomatch hj) ?_); simp only[push_cast,go_sem_proc,↓ite_only,M_block,Tryz.results102])
  unfold listL
  rw [hfin]
  exact ⟨hsv, hx⟩
end Go.Proofs.YtbjaapiliegegaaGreatDoor.Sy
end
section
namespace Go.Proofs.YtbjaapiliegegaaGreatDoor.Sy
open Go
set_option maxRecDepth 100000
variable {w0 : World} {h : Heap}
theorem trimB_len (x : Str) : (trimB x).length ≤ x.length := Nat.le_trans (trim_len _) (List.dropWhile_suffix _).length_le
theorem split_len : ∀ (s : Str), ∀ x ∈ splitC s, x.length ≤ s.length
 | [], x, hx => by
  have : x = [] := by simpa [splitC] using hx
  rw [this]
  exact Nat.le_refl _
 | b :: l, x, hx => by
  have ih := split_len l
  unfold splitC at hx
  revert hx
  cases decide (b.toNat = 44) with
  | true =>
   intro hx
   rcases List.mem_cons.1 hx with rfl | hx
   ·simp
   ·exact Nat.le_trans (ih x hx) (by simp)
  | false =>
   cases hs : splitC l with
   | nil =>
    intro hx
    have : x = [b] := by simpa using hx
    rw [this]
    simp
   | cons y r =>
    rw [hs] at ih
    intro hx
    rcases List.mem_cons.1 hx with rfl | hx
    ·have := ih y (by simp)
     simpa using this
    ·exact Nat.le_trans (ih x (by simp [hx])) (by simp)
theorem split_count : ∀ (s : Str), (splitC s).length ≤ s.length + 1
 | [] => by simp [splitC]
 | b :: l => by
  have ih := split_count l
  unfold splitC
  cases decide (b.toNat = 44) with
  | true => simpa using ih
  | false =>
   cases hs : splitC l with
   | nil => simp
   | cons y r => rw [hs] at ih; simpa using Nat.le_succ_of_le ih
def ShortS (ss : List Str) : Prop := ∀ s ∈ ss, s.length < 1000000
theorem list_short {s : Str} (h : s.length < 1000000) : ShortS (listL s) := by
 intro x hx
 obtain ⟨y, hy, rfl⟩ := List.mem_map.1 hx
 exact Nat.lt_of_le_of_lt (Nat.le_trans (trimB_len y) (split_len s y hy)) h
theorem list_count (s : Str) : (listL s).length ≤ s.length + 1 := by
 unfold listL
 rw [List.length_map]
 exact split_count s
theorem ShortS.at {ss : List Str} (hs : ShortS ss) {k : Nat} (hk : k < ss.length) : (snth ss k).length < 1000000 := hs _ (List.mem_of_getElem? (snth_get hk))
theorem sany_snoc {p : Str → Bool} {l : List Str} {k : Nat} (hk : k < l.length) (ha : (l.take k).any p = false) (hp : p (snth l k) = false) : (l.take (k + 1)).any p = false := by
 rw [stake_snoc l k hk, List.any_append, ha]
 simp [hp]
theorem sany_yes {p : Str → Bool} {l : List Str} {k : Nat} (hk : k < l.length) (hp : p (snth l k) = true) : l.any p = true := by
 rw [List.any_eq_true]
 exact ⟨_, List.mem_of_getElem? (snth_get hk), hp⟩
def isWord (word s : Str) : Bool := sameL (s.map lowB') word
def listedL (ss : List Str) (word : Str) : Bool := ss.any fun v => (listL v).any (isWord word)
set_option maxHeartbeats 4000000 in
theorem listed_ok (ss : List Str) (word : Str) (lo : Nat) (v0 : Value) (hv : Strs lo h v0 ss) (hs : ShortS ss) (hc : ss.length < 1000000) :
  ACall Tryz.prog w0 73 [v0, S word] h (fun v h' => v = .bool (listedL ss word) ∧ Ext h h') := by
 obtain ⟨a, cp, rfl⟩ := hv.len
 refine ACall.known fun hKn => ?_
 obtain ⟨hN, hB⟩ := hKn
 refine ACall.run noCount mixed Tryz.func73 rfl (by kernel_rfl) (Nat.le_of_ble_eq_true rfl) fun X hX => ?_
 (repeat simp only[push_cast,go_sem_proc,↓ite_only,M_block])
 refine M_loop (fun tm h1 n => ∃ (k : Nat), k ≤ ss.length ∧ n = ss.length - k ∧ Ext h h1 ∧ (ss.take k).any (fun v => (listL v).any (isWord word)) = false ∧ tget tm 11 = I k ∧ tget tm 10 = I ss.length ∧ tget tm 9 = .slice a ss.length cp ∧ tget tm 1 = S word) ss.length
  ⟨0, by omega, by omega, .refl _, rfl, (by simp only[zT,Nat.reduceBEq];rfl), (by simp only[zT,Nat.reduceBEq]), (by simp only[zT,Nat.reduceBEq]), (by simp only[zT,Nat.reduceBEq])⟩ ?_
 rintro tm1 h1 n R ⟨k, hk, rfl, hx, hno, t11, t10, t9, t1⟩ hR hE
 rcases Nat.lt_or_ge k ss.length with hlt | hge
 ·obtain ⟨b, cp', rest, hve, _, hbn, hat⟩ := hv.at hlt
  cases hve
  have hat1 := (hx.2 b hbn).trans hat
  have hg := str_get rest hlt
  have hsk := hs.at hlt
  (repeat simp only[push_cast,go_sem_proc,↓ite_only,M_block,t11, t10, t9, hat1, hg])
  repeat' ((with_reducible(first|refine condM_same ?_ ?_|refine condM_nsame ?_ ?_|refine oneM_same ?_ ?_|refine oneM_nsame ?_ ?_|refine oneP_same ?_ ?_|refine oneP_nsame ?_ ?_|refine condM_dec_ ?_ ?_|refine condM_not_ ?_ ?_|refine oneM_dec_ ?_ ?_|refine oneM_not_ ?_ ?_|refine oneP_dec_ ?_ ?_|refine oneP_not_ ?_ ?_|refine condM_bool ?_ ?_|refine oneM_bool ?_ ?_|refine oneP_bool ?_ ?_)<;>intro c) <;> first | (exfalso; first | contradiction | omega) | (try (repeat(first|(simp only[push_cast,go_sem_proc,↓ite_only,M_block,t11, t10, t9, hat1, hg, c])|(with_reducible refine⟨by omega,?_⟩)))))
  refine callM_of (list_ok (snth ss k) hsk) ?_
  rintro v h2 ⟨hsv, hx2⟩
  have hx02 := hx.trans hx2
  obtain ⟨a2, cp2, rfl⟩ := hsv.len
  obtain ⟨ls, hls⟩ : ∃ ls, listL (snth ss k) = ls := ⟨_, rfl⟩
  have hlsS : ShortS ls := hls ▸ list_short hsk
  have hlsC : ls.length ≤ (snth ss k).length + 1 := hls ▸ list_count _
  rw [hls] at hsv ⊢
  have hyes : ls.any (isWord word) = true → listedL ss word = true := fun hh => sany_yes (p := fun v => (listL v).any (isWord word)) hlt (by rw [hls]; exact hh)
  have hnot : ls.any (isWord word) = false → (ss.take (k + 1)).any (fun v => (listL v).any (isWord word)) = false := fun hh => sany_snoc (p := fun v => (listL v).any (isWord word)) hlt hno (by rw [hls]; exact hh)
  (repeat simp only[push_cast,go_sem_proc,↓ite_only,M_block,t1])
  refine M_loop (fun tm h3 n => ∃ (j : Nat), j ≤ ls.length ∧ n = ls.length - j ∧ Ext h2 h3 ∧ (ls.take j).any (isWord word) = false ∧ tget tm 18 = I j ∧ tget tm 17 = I ls.length ∧ tget tm 16 = .slice a2 ls.length cp2 ∧ tget tm 1 = S word ∧ tget tm 11 = I k ∧ tget tm 10 = I ss.length ∧ tget tm 9 = .slice (some ⟨b, 0, none⟩) ss.length cp) ls.length
   ⟨0, by omega, by omega, .refl _, rfl, (by simp only[zT,Nat.reduceBEq];rfl), (by simp only[zT,Nat.reduceBEq]), (by simp only[zT,Nat.reduceBEq]), ‹_›, ‹_›, ‹_›, ‹_›⟩ ?_
  rintro tm2 h3 n R2 ⟨j, hj, rfl, hx3, hno2, t18, t17, t16, t1, t11, t10, t9⟩ hR2 hE2
  rcases Nat.lt_or_ge j ls.length with hlt2 | hge2
  ·obtain ⟨b2, cp2', rest2, hve2, _, hbn2, hat2⟩ := hsv.at hlt2
   cases hve2
   have hat3 := (hx3.2 b2 hbn2).trans hat2
   have hg2 := str_get rest2 hlt2
   (repeat simp only[push_cast,go_sem_proc,↓ite_only,M_block,t18, t17, t16, hat3, hg2])
   repeat' ((with_reducible(first|refine condM_same ?_ ?_|refine condM_nsame ?_ ?_|refine oneM_same ?_ ?_|refine oneM_nsame ?_ ?_|refine oneP_same ?_ ?_|refine oneP_nsame ?_ ?_|refine condM_dec_ ?_ ?_|refine condM_not_ ?_ ?_|refine oneM_dec_ ?_ ?_|refine oneM_not_ ?_ ?_|refine oneP_dec_ ?_ ?_|refine oneP_not_ ?_ ?_|refine condM_bool ?_ ?_|refine oneM_bool ?_ ?_|refine oneP_bool ?_ ?_)<;>intro c) <;> first | (exfalso; first | contradiction | omega) | (try (repeat(first|(simp only[push_cast,go_sem_proc,↓ite_only,M_block,t18, t17, t16, hat3, hg2, c])|(with_reducible refine⟨by omega,?_⟩)))))
   refine callM_of (lower_ok (snth ls j) (by have := hlsS.at hlt2; omega)) ?_
   rintro v h4 ⟨rfl, hx4⟩
   cases hb : isWord word (snth ls j) with
   | true =>
    have hb' : sameL ((snth ls j).map lowB') word = true := hb
    have hL := hyes (sany_yes hlt2 hb)
    (repeat simp only[push_cast,go_sem_proc,↓ite_only,M_block,t1, hb'])
    (with_reducible refine hE2 _ _ _ _ (nomatch ·) ?_)
    (repeat simp only[push_cast,go_sem_proc,↓ite_only,M_block])
    (with_reducible refine hE _ _ _ _ (nomatch ·) ?_)
    (repeat simp only[push_cast,go_sem_proc,↓ite_only,M_block])
    ((with_reducible refine hX _ _ _ (fun j hj => nomatch hj) ?_); simp only[push_cast,go_sem_proc,↓ite_only,M_block,Tryz.results73])
    rw [hL]
    exact ⟨rfl, hx02.trans (hx3.trans hx4)⟩
   | false =>
    have hb' : sameL ((snth ls j).map lowB') word = false := hb
    (repeat simp(disch:=omega)only[push_cast,go_sem_proc,↓ite_only,M_block,t18, t1, hb'])
    refine hR2 _ _ (ls.length - (j + 1)) (by omega) ⟨j + 1, by omega, rfl, hx3.trans hx4, sany_snoc hlt2 hno2 hb, (by simp only[zT,Nat.reduceBEq];rfl), ‹_›, ‹_›, ‹_›, ‹_›, ‹_›, ‹_›⟩
  ·have hje : j = ls.length := by omega
   subst hje
   rw [List.take_length] at hno2
   (repeat simp only[push_cast,go_sem_proc,↓ite_only,M_block,t18, t17])
   repeat' ((with_reducible(first|refine condM_same ?_ ?_|refine condM_nsame ?_ ?_|refine oneM_same ?_ ?_|refine oneM_nsame ?_ ?_|refine oneP_same ?_ ?_|refine oneP_nsame ?_ ?_|refine condM_dec_ ?_ ?_|refine condM_not_ ?_ ?_|refine oneM_dec_ ?_ ?_|refine oneM_not_ ?_ ?_|refine oneP_dec_ ?_ ?_|refine oneP_not_ ?_ ?_|refine condM_bool ?_ ?_|refine oneM_bool ?_ ?_|refine oneP_bool ?_ ?_)<;>intro c) <;> first | (exfalso; first | contradiction | omega) | (try (repeat simp only[push_cast,go_sem_proc,↓ite_only,M_block,t18, t17, c])))
   (with_reducible refine hE2 _ _ _ _ (nomatch ·) ?_)
   (repeat simp(disch:=omega)only[push_cast,go_sem_proc,↓ite_only,M_block,t11])
   refine hR _ _ (ss.length - (k + 1)) (by omega) ⟨k + 1, by omega, rfl, hx02.trans hx3, hnot hno2, (by simp only[zT,Nat.reduceBEq];rfl), ‹_›, ‹_›, ‹_›⟩
 ·have hke : k = ss.length := by omega
  subst hke
  rw [List.take_length] at hno
  have hL : listedL ss word = false := hno
  (repeat simp only[push_cast,go_sem_proc,↓ite_only,M_block,t11, t10])
  repeat' ((with_reducible(first|refine condM_same ?_ ?_|refine condM_nsame ?_ ?_|refine oneM_same ?_ ?_|refine oneM_nsame ?_ ?_|refine oneP_same ?_ ?_|refine oneP_nsame ?_ ?_|refine condM_dec_ ?_ ?_|refine condM_not_ ?_ ?_|refine oneM_dec_ ?_ ?_|refine oneM_not_ ?_ ?_|refine oneP_dec_ ?_ ?_|refine oneP_not_ ?_ ?_|refine condM_bool ?_ ?_|refine oneM_bool ?_ ?_|refine oneP_bool ?_ ?_)<;>intro c) <;> first | (exfalso; first | contradiction | omega) | (try (repeat simp only[push_cast,go_sem_proc,↓ite_only,M_block,t11, t10, c])))
  (with_reducible refine hE _ _ _ _ (nomatch ·) ?_)
  (repeat simp only[push_cast,go_sem_proc,↓ite_only,M_block])
  ((with_reducible refine hX _ _ _ (fun j hj => nomatch hj) ?_); simp only[push_cast,go_sem_proc,↓ite_only,M_block,Tryz.results73])
  rw [hL]
  exact ⟨rfl, hx⟩
end Go.Proofs.YtbjaapiliegegaaGreatDoor.Sy
end
section
namespace Go.Proofs.YtbjaapiliegegaaGreatDoor.Sy
open Go
set_option maxRecDepth 100000
variable {w0 : World} {h : Heap}
def notName (f : Fld) (n : Str) : Bool := !sameL (canonL true f.1) n
def withoutL (fs : List Fld) (names : List Str) : List Fld := fs.filter fun f => names.all (notName f)
theorem without_snoc (fs : List Fld) (names : List Str) (k : Nat) (hk : k < fs.length) : withoutL (fs.take (k + 1)) names = withoutL (fs.take k) names ++ (match names.all (notName (fnth fs k)) with | true => [fnth fs k] | false => []) := by
 unfold withoutL
 rw [ftake_snoc fs k hk, List.filter_append]
 cases hb : names.all (notName (fnth fs k)) <;> simp [hb]
theorem without_len (fs : List Fld) (names : List Str) : (withoutL fs names).length ≤ fs.length := List.length_filter_le _ _
set_option maxHeartbeats 4000000 in
theorem without_ok (fs : List Fld) (names : List Str) (lo lo2 : Nat) (v0 v1 : Value) (hv : Flds lo h v0 fs) (hv1 : Strs lo2 h v1 names) (hs : Short fs) (hc : fs.length < 1000000) (hc2 : names.length < 1000000) :
  ACall Tryz.prog w0 56 [v0, v1] h (fun v h' => Flds h.n h' v (withoutL fs names) ∧ Ext h h') := by
 obtain ⟨a, cp, rfl⟩ := hv.len
 obtain ⟨a2, cp2, rfl⟩ := hv1.len
 refine ACall.known fun hKn => ?_
 obtain ⟨hN, hB⟩ := hKn
 refine ACall.run noCount mixed Tryz.func56 rfl (by kernel_rfl) (Nat.le_of_ble_eq_true rfl) fun X hX => ?_
 (repeat simp only[push_cast,go_sem_proc,↓ite_only,M_block])
 refine M_loop (fun tm h1 n => ∃ (k : Nat) (sv : Value), k ≤ fs.length ∧ n = fs.length - k ∧ Ext h h1 ∧ Flds h.n h1 sv (withoutL (fs.take k) names) ∧ tget tm 13 = I k ∧ tget tm 12 = I fs.length ∧ tget tm 11 = .slice a fs.length cp ∧ tget tm 1 = .slice a2 names.length cp2 ∧ tget tm 5 = sv) fs.length
  ⟨0, _, by omega, by omega, .refl _, Row.nil _ _ _ _, (by simp only[zT,Nat.reduceBEq];rfl), (by simp only[zT,Nat.reduceBEq]), (by simp only[zT,Nat.reduceBEq]), (by simp only[zT,Nat.reduceBEq]), (by simp only[zT,Nat.reduceBEq])⟩ ?_
 rintro tm1 h1 n R ⟨k, sv, hk, rfl, hx, hsv, t13, t12, t11, t1, t5⟩ hR hE
 rcases Nat.lt_or_ge k fs.length with hlt | hge
 ·obtain ⟨b, cp', rest, hve, _, hbn, hat⟩ := hv.at hlt
  cases hve
  have hat1 := (hx.2 b hbn).trans hat
  have hld := fld_load hat1 hlt
  have hn1 := hx.1
  obtain ⟨f, hf⟩ : ∃ f, fnth fs k = f := ⟨_, rfl⟩
  have hfs := hs.at hlt
  have hvs := without_snoc fs names k hlt
  rw [hf] at hld hfs hvs
  have hvl := without_len (fs.take k) names
  rw [List.length_take] at hvl
  (repeat simp only[push_cast,go_sem_proc,↓ite_only,M_block,t13, t12, t11, t1, hld])
  repeat' ((with_reducible(first|refine condM_same ?_ ?_|refine condM_nsame ?_ ?_|refine oneM_same ?_ ?_|refine oneM_nsame ?_ ?_|refine oneP_same ?_ ?_|refine oneP_nsame ?_ ?_|refine condM_dec_ ?_ ?_|refine condM_not_ ?_ ?_|refine oneM_dec_ ?_ ?_|refine oneM_not_ ?_ ?_|refine oneP_dec_ ?_ ?_|refine oneP_not_ ?_ ?_|refine condM_bool ?_ ?_|refine oneM_bool ?_ ?_|refine oneP_bool ?_ ?_)<;>intro c) <;> first | (exfalso; first | contradiction | omega) | (try (repeat(first|(simp(disch:=decide)only[push_cast,go_sem_proc,↓ite_only,M_block,t13, t12, t11, t1, hld, c])|(with_reducible refine⟨by omega,?_⟩)))))
  refine M_loop (fun tm h3 n => ∃ (j : Nat), j ≤ names.length ∧ n = names.length - j ∧ Ext h h3 ∧ h3.at h1.n = some (.cells [S f.1, S f.2] 60 0 0) ∧ h1.n < h3.n ∧ Flds h.n h3 sv (withoutL (fs.take k) names) ∧ tget tm 8 = .bool ((names.take j).all (notName f)) ∧ tget tm 19 = I j ∧ tget tm 18 = I names.length ∧ tget tm 17 = .slice a2 names.length cp2 ∧ tget tm 7 = ptr h1.n 0 ∧
    tget tm 13 = I k ∧ tget tm 12 = I fs.length ∧ tget tm 11 = .slice (some ⟨b, 0, none⟩) fs.length cp ∧ tget tm 1 = .slice a2 names.length cp2 ∧ tget tm 5 = sv) names.length
   ⟨0, by omega, by omega, (hx.new _).put hn1 _, at_put_eq _ _ _, Nat.lt_succ_self _, hsv.ext (((Ext.refl h1).new _).put (Nat.le_refl _) _), (by simp only[zT,Nat.reduceBEq];rfl), (by simp only[zT,Nat.reduceBEq];rfl), (by simp only[zT,Nat.reduceBEq]), (by simp only[zT,Nat.reduceBEq]), (by simp only[zT,Nat.reduceBEq]), ‹_›, ‹_›, ‹_›, ‹_›, ‹_›⟩ ?_
  rintro tm2 h3 n R2 ⟨j, hj, rfl, hx3, hat7, hn3, hsv3, t8, t19, t18, t17, t7, t13, t12, t11, t1, t5⟩ hR2 hE2
  rcases Nat.lt_or_ge j names.length with hlt2 | hge2
  ·obtain ⟨b2, cp2', rest2, hve2, _, hbn2, hat2⟩ := hv1.at hlt2
   cases hve2
   have hat3 := (hx3.2 b2 hbn2).trans hat2
   have hg2 := str_get rest2 hlt2
   have hnext := stake_snoc names j hlt2
   cases hkeep : (names.take j).all (notName f) with
   | true =>
    rw [hkeep] at t8
    (repeat simp only[push_cast,go_sem_proc,↓ite_only,M_block,t19, t18, t17, t8, t7, hat3, hg2, hat7])
    repeat' ((with_reducible(first|refine condM_same ?_ ?_|refine condM_nsame ?_ ?_|refine oneM_same ?_ ?_|refine oneM_nsame ?_ ?_|refine oneP_same ?_ ?_|refine oneP_nsame ?_ ?_|refine condM_dec_ ?_ ?_|refine condM_not_ ?_ ?_|refine oneM_dec_ ?_ ?_|refine oneM_not_ ?_ ?_|refine oneP_dec_ ?_ ?_|refine oneP_not_ ?_ ?_|refine condM_bool ?_ ?_|refine oneM_bool ?_ ?_|refine oneP_bool ?_ ?_)<;>intro c) <;> first | (exfalso; first | contradiction | omega) | (try (repeat(first|(simp(disch:=omega)only[push_cast,go_sem_proc,↓ite_only,M_block,t19, t18, t17, t8, t7, hat3, hg2, hat7, c])|(with_reducible refine⟨by omega,?_⟩)))))
    refine callM_of (Canonical_ok _ hfs.1) ?_
    rintro v h4 ⟨rfl, hx4⟩
    (repeat simp(disch:=omega)only[push_cast,go_sem_proc,↓ite_only,M_block,t19])
    refine hR2 _ _ (names.length - (j + 1)) (by omega) ⟨j + 1, by omega, rfl, hx3.trans hx4, (hx4.2 _ hn3).trans hat7, by have := hx4.1; omega, hsv3.ext hx4, ?_, (by simp only[zT,Nat.reduceBEq];rfl), ‹_›, ‹_›, ‹_›, ‹_›, ‹_›, ‹_›, ‹_›, ‹_›⟩
    simp only [tget_cons, Nat.reduceBEq, tsel_true, tsel_false]
    rw [hnext, List.all_append, hkeep]
    simp [notName]
   | false =>
    rw [hkeep] at t8
    (repeat simp only[push_cast,go_sem_proc,↓ite_only,M_block,t19, t18, t17, t8, t7, hat3, hg2, hat7])
    repeat' ((with_reducible(first|refine condM_same ?_ ?_|refine condM_nsame ?_ ?_|refine oneM_same ?_ ?_|refine oneM_nsame ?_ ?_|refine oneP_same ?_ ?_|refine oneP_nsame ?_ ?_|refine condM_dec_ ?_ ?_|refine condM_not_ ?_ ?_|refine oneM_dec_ ?_ ?_|refine oneM_not_ ?_ ?_|refine oneP_dec_ ?_ ?_|refine oneP_not_ ?_ ?_|refine condM_bool ?_ ?_|refine oneM_bool ?_ ?_|refine oneP_bool ?_ ?_)<;>intro c) <;> first | (exfalso; first | contradiction | omega) | (try (repeat(first|(simp(disch:=omega)only[push_cast,go_sem_proc,↓ite_only,M_block,t19, t18, t17, t8, t7, hat3, hg2, hat7, c])|(with_reducible refine⟨by omega,?_⟩)))))
    refine hR2 _ _ (names.length - (j + 1)) (by omega) ⟨j + 1, by omega, rfl, hx3, hat7, hn3, hsv3, ?_, (by simp only[zT,Nat.reduceBEq];rfl), ‹_›, ‹_›, ‹_›, ‹_›, ‹_›, ‹_›, ‹_›, ‹_›⟩
    simp only [tget_cons, Nat.reduceBEq, tsel_true, tsel_false]
    rw [hnext, List.all_append, hkeep]
    rfl
  ·have hje : j = names.length := by omega
   subst hje
   rw [List.take_length] at t8
   (repeat simp only[push_cast,go_sem_proc,↓ite_only,M_block,t19, t18])
   repeat' ((with_reducible(first|refine condM_same ?_ ?_|refine condM_nsame ?_ ?_|refine oneM_same ?_ ?_|refine oneM_nsame ?_ ?_|refine oneP_same ?_ ?_|refine oneP_nsame ?_ ?_|refine condM_dec_ ?_ ?_|refine condM_not_ ?_ ?_|refine oneM_dec_ ?_ ?_|refine oneM_not_ ?_ ?_|refine oneP_dec_ ?_ ?_|refine oneP_not_ ?_ ?_|refine condM_bool ?_ ?_|refine oneM_bool ?_ ?_|refine oneP_bool ?_ ?_)<;>intro c) <;> first | (exfalso; first | contradiction | omega) | (try (repeat simp only[push_cast,go_sem_proc,↓ite_only,M_block,t19, t18, c])))
   (with_reducible refine hE2 _ _ _ _ (nomatch ·) ?_)
   cases hkeep : names.all (notName f) with
   | true =>
    rw [hkeep] at t8 hvs
    (repeat simp(disch:=decide)only[push_cast,go_sem_proc,↓ite_only,M_block,t8, t7, t5, hat7])
    intro c0
    generalize hH : Heap.new _ _ = h5
    have hat5 : h5.at h3.n = some (.cells [S f.1, S f.2] 60 0 0) := by rw [← hH]; exact at_new_eq _ _
    have hn5 : h5.n = h3.n + 1 := by rw [← hH]; rfl
    have hold : ∀ b, b < h3.n → h5.at b = h3.at b := fun b hb => by rw [← hH, at_new_ne _ _ (by omega)]
    have hsv5 := hsv3.keep (h' := h5) (by omega) (fun b hb _ _ => hold b hb)
    have hn03 := hx3.1
    obtain ⟨sv', h6, e6, hsv6, hn6, hold6, _⟩ := app_fld (c := c0) (N := w0.heap.size) hsv5 hN (by omega) hat5 (by omega)
    rw [e6]
    (repeat simp(disch:=omega)only[push_cast,go_sem_proc,↓ite_only,M_block,t13])
    refine hR _ _ (fs.length - (k + 1)) (by omega) ⟨k + 1, sv', by omega, rfl, ⟨by omega, fun c hc => (hold6 c (by omega) (hsv5.off hc)).trans ((hold c (by omega)).trans (hx3.2 c hc))⟩, by rw [hvs]; exact hsv6, (by simp only[zT,Nat.reduceBEq];rfl), ‹_›, ‹_›, ‹_›, (by simp only[zT,Nat.reduceBEq])⟩
   | false =>
    rw [hkeep, List.append_nil] at hvs
    rw [hkeep] at t8
    (repeat simp(disch:=omega)only[push_cast,go_sem_proc,↓ite_only,M_block,t8, t13])
    refine hR _ _ (fs.length - (k + 1)) (by omega) ⟨k + 1, sv, by omega, rfl, hx3, by rw [hvs]; exact hsv3, (by simp only[zT,Nat.reduceBEq];rfl), ‹_›, ‹_›, ‹_›, ‹_›⟩
 ·have hke : k = fs.length := by omega
  subst hke
  rw [List.take_length] at hsv
  (repeat simp only[push_cast,go_sem_proc,↓ite_only,M_block,t13, t12])
  repeat' ((with_reducible(first|refine condM_same ?_ ?_|refine condM_nsame ?_ ?_|refine oneM_same ?_ ?_|refine oneM_nsame ?_ ?_|refine oneP_same ?_ ?_|refine oneP_nsame ?_ ?_|refine condM_dec_ ?_ ?_|refine condM_not_ ?_ ?_|refine oneM_dec_ ?_ ?_|refine oneM_not_ ?_ ?_|refine oneP_dec_ ?_ ?_|refine oneP_not_ ?_ ?_|refine condM_bool ?_ ?_|refine oneM_bool ?_ ?_|refine oneP_bool ?_ ?_)<;>intro c) <;> first | (exfalso; first | contradiction | omega) | (try (repeat simp only[push_cast,go_sem_proc,↓ite_only,M_block,t13, t12, c])))
  (with_reducible refine hE _ _ _ _ (nomatch ·) ?_)
  (repeat simp only[push_cast,go_sem_proc,↓ite_only,M_block,t5])
  ((with_reducible refine hX _ _ _ (fun j hj => nomatch hj) ?_); simp only[push_cast,go_sem_proc,↓ite_only,M_block,Tryz.results56])
  exact ⟨hsv, hx⟩
end Go.Proofs.YtbjaapiliegegaaGreatDoor.Sy
end
