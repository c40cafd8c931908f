/- Of the proof of FnNoBody: SgF SgG. -/
import Derived.Test.YtbjaapiliegegaaGreatDoorSgD
import Derived.Test.YtbjaapiliegegaaGreatDoorSgE
set_option linter.unusedVariables false
set_option linter.unusedSimpArgs false
section
namespace Go.Proofs.YtbjaapiliegegaaGreatDoor.Sy
open Go
set_option maxRecDepth 100000
variable {w0 : World} {h : Heap}
theorem notB_sp : notB 32 = noSp := by
 funext c
 unfold notB noSp
 rfl
theorem noSp_eq {c : UInt8} (h : noSp c = false) : c = 32 := by
 unfold noSp at h
 exact UInt8.toNat_inj.1 (by simpa using h)
theorem cut_at {a z : Str} (h : a.all noSp = true) : cutL 32 (a ++ 32 :: z) = (a, z, true) := by
 have e : (a ++ 32 :: z).takeWhile (notB 32) = a := by
  rw [notB_sp, List.takeWhile_append_of_pos (by simpa using h), List.takeWhile_cons_of_neg (by decide), List.append_nil]
 unfold cutL
 rw [e, decide_eq_true (by simp)]
 simp
theorem tw_cut {p : UInt8 → Bool} : ∀ (l : Str), (l.takeWhile p).length < l.length → ∃ c, p c = false ∧ l = l.takeWhile p ++ c :: l.drop ((l.takeWhile p).length + 1)
 | [], h => by simp at h
 | x :: t, h => by
  cases hp : p x with
  | true =>
   rw [List.takeWhile_cons_of_pos hp] at h ⊢
   obtain ⟨c, h1, h2⟩ := tw_cut t (by simpa using h)
   refine ⟨c, h1, ?_⟩
   rw [List.length_cons, List.drop_succ_cons, List.cons_append, ← h2]
  | false =>
   rw [List.takeWhile_cons_of_neg (by simp [hp])]
   exact ⟨x, hp, rfl⟩
theorem tw_all {p : UInt8 → Bool} (l : Str) : (l.takeWhile p).all p = true := List.all_takeWhile
theorem parts_split {s a b c : Str} (h : partsL s = (a, b, c, true)) : s = a ++ 32 :: (b ++ 32 :: c) ∧ a.all noSp = true ∧ b.all noSp = true := by
 unfold partsL at h
 simp only at h
 by_cases hd : (s.takeWhile noSp).length + 1 + ((s.drop ((s.takeWhile noSp).length + 1)).takeWhile noSp).length < s.length
 ·rw [decide_eq_true hd] at h
  simp only [Prod.mk.injEq, and_true] at h
  obtain ⟨h1, h2, h3⟩ := h
  obtain ⟨x, hx, e1⟩ := tw_cut (p := noSp) s (by omega)
  obtain ⟨y, hy, e2⟩ := tw_cut (p := noSp) (s.drop ((s.takeWhile noSp).length + 1)) (by rw [List.length_drop]; omega)
  rw [noSp_eq hx, h1] at e1
  rw [noSp_eq hy, h1] at e2
  rw [h1] at h2 h3
  rw [h2, List.drop_drop] at e2
  rw [h2] at h3
  rw [← h3, show a.length + 1 + b.length + 1 = a.length + 1 + (b.length + 1) by omega, ← e2]
  refine ⟨e1, h1 ▸ tw_all s, h2 ▸ tw_all _⟩
 ·rw [decide_eq_false hd] at h
  simp at h
def v10 : Str := [72, 84, 84, 80, 47, 49, 46, 48]
def v11 : Str := [72, 84, 84, 80, 47, 49, 46, 49]
theorem version_one {a : Str} (h : (versionL a).2.2 = true) (h1 : (versionL a).1 = 1) (h2 : ¬ 1 < (versionL a).2.1) : (a = v10 ∧ (versionL a).2.1 = 0) ∨ (a = v11 ∧ (versionL a).2.1 = 1) := by
 by_cases hv : Versioned a
 ·rw [version_good hv] at h1 h2 ⊢
  simp only at h1 h2 ⊢
  obtain ⟨g1, g2, g3, g4, g5, g6, g7⟩ := hv
  match a, g1 with
  | [x0, x1, x2, x3, x4, x5, x6, x7], _ =>
   simp only [List.take_succ_cons, List.take_zero, List.cons.injEq, and_true] at g2
   obtain ⟨rfl, rfl, rfl, rfl, rfl⟩ := g2
   have e5 : x5 = 49 := UInt8.toNat_inj.1 (by simp only [nth, List.getD_cons_succ, List.getD_cons_zero] at *; show x5.toNat = 49; omega)
   have e6 : x6 = 46 := UInt8.toNat_inj.1 (by simp only [nth, List.getD_cons_succ, List.getD_cons_zero] at *; show x6.toNat = 46; omega)
   subst e5 e6
   have : x7.toNat = 48 ∨ x7.toNat = 49 := by simp only [nth, List.getD_cons_succ, List.getD_cons_zero] at *; omega
   rcases this with q | q
   ·obtain rfl : x7 = 48 := UInt8.toNat_inj.1 q
    exact .inl ⟨rfl, rfl⟩
   ·obtain rfl : x7 = 49 := UInt8.toNat_inj.1 q
    exact .inr ⟨rfl, rfl⟩
 ·rw [version_bad hv] at h
  cases h
theorem fig_sp {c : UInt8} (h : figB c = true) : isSp c = false := by
 unfold figB at h
 unfold isSp
 rw [Bool.and_eq_true, decide_eq_true_eq, decide_eq_true_eq] at h
 exact decide_eq_false (by omega)
theorem dw_fig {b z : Str} (h0 : b ≠ []) (h : b.all figB = true) : (b ++ z).dropWhile isSp = b ++ z := by
 cases b with
 | nil => exact absurd rfl h0
 | cons x t =>
  rw [List.all_cons, Bool.and_eq_true] at h
  rw [List.cons_append, List.dropWhile_cons_of_neg (by rw [fig_sp h.1]; decide)]
theorem number_figs {b : Str} (h : (numberL b).2 = true) : b ≠ [] ∧ b.all figB = true ∧ b.length ≤ 10 ∧ (numberL b).1 = decN b := by
 by_cases hb : b.all figB = true ∧ b.length ≤ 10
 ·rw [number_good hb.1 hb.2] at h ⊢
  refine ⟨?_, hb.1, hb.2, rfl⟩
  rintro rfl
  cases h
 ·rw [number_bad hb] at h
  cases h
theorem decFrom_figs : ∀ (l : Str) (acc : Nat), l.all figB = true → Lib.decFrom acc l = some (l.foldl (fun n c => 10 * n + (c.toNat - 48)) acc)
 | [], acc, _ => rfl
 | x :: t, acc, h => by
  rw [List.all_cons, Bool.and_eq_true] at h
  have h1 : 48 ≤ x.toNat ∧ x.toNat ≤ 57 := by have := h.1; unfold figB at this; simp at this; exact this
  unfold Lib.decFrom Lib.digitVal
  rw [if_pos h1]
  simp only
  rw [decFrom_figs t _ h.2, List.foldl_cons, Nat.mul_comm acc 10]
theorem atoi_figs {b : Str} (h0 : b ≠ []) (h : b.all figB = true) : Lib.atoi b = some (decN b : Int) := by
 cases b with
 | nil => exact absurd rfl h0
 | cons x t =>
  have h1 : figB x = true := by rw [List.all_cons, Bool.and_eq_true] at h; exact h.1
  have h2 : 48 ≤ x.toNat ∧ x.toNat ≤ 57 := by unfold figB at h1; simp at h1; exact h1
  have n1 : (x == 45) = false := by rw [beq_eq_false_iff_ne]; rintro rfl; exact absurd h2.1 (by decide)
  have n2 : (x == 43) = false := by rw [beq_eq_false_iff_ne]; rintro rfl; exact absurd h2.1 (by decide)
  unfold Lib.atoi Lib.decNat
  dsimp only
  rw [n1, n2]
  simp only [Bool.false_eq_true, if_false, List.isEmpty_cons]
  rw [decFrom_figs _ _ h]
  rfl
theorem atoi_ok (b : Str) (h0 : b ≠ []) (h1 : b.all figB = true) (h2 : b.length ≤ 18) : ACall Tryz.prog w0 83 [S b] h (fun v h' => v = .tuple #[I (decN b), .nilIface] ∧ Ext h h') := by
 refine ACall.of_calls (fun w v w' => v = .tuple #[I (decN b), .nilIface]) (fun w hF => ?_) ?_
 ·refine Calls.mono (Tryz.strconv_Atoi ⟨b.toArray⟩ (decN b) (by show b.toArray.size ≤ 18; simpa using h2) (atoi_figs h0 h1) w) ?_
  rintro e w' ⟨rfl, t, rfl⟩
  exact ⟨_, rfl, Lib.bytesWorld_below _ _ _, rfl⟩
 ·rintro w v w' hF hb rfl
  exact ⟨rfl, seen_ext (by rw [← hF.size]; exact hb.size)⟩
theorem proto30_ok (a : Str) (m : Nat) (h1 : (a = v10 ∧ m = 0) ∨ (a = v11 ∧ m = 1)) : ACall Tryz.prog w0 30 [S a] h (fun v h' => v = .tuple #[I 1, I m, .bool true] ∧ h' = h) := by
 rcases h1 with ⟨rfl, rfl⟩ | ⟨rfl, rfl⟩
 ·refine ACall.known fun hKn => ?_
  obtain ⟨hN, hB⟩ := hKn
  refine ACall.run noCount mixed Tryz.func30 rfl (by kernel_rfl) (Nat.le_of_ble_eq_true rfl) fun X hX => ?_
  have e1 : sameL v10 v11 = false := by decide
  have e2 : sameL v10 v10 = true := by decide
  unfold v10 v11 at *
  (repeat simp only[push_cast,go_sem_proc,↓ite_only,M_block,e1, e2])
  ((with_reducible refine hX _ _ _ (fun j hj => nomatch hj) ?_); simp only[push_cast,go_sem_proc,↓ite_only,M_block,Tryz.results30])
 ·refine ACall.known fun hKn => ?_
  obtain ⟨hN, hB⟩ := hKn
  refine ACall.run noCount mixed Tryz.func30 rfl (by kernel_rfl) (Nat.le_of_ble_eq_true rfl) fun X hX => ?_
  have e2 : sameL v11 v11 = true := by decide
  unfold v10 v11 at *
  (repeat simp only[push_cast,go_sem_proc,↓ite_only,M_block,e2])
  ((with_reducible refine hX _ _ _ (fun j hj => nomatch hj) ?_); simp only[push_cast,go_sem_proc,↓ite_only,M_block,Tryz.results30])
theorem snoc_ind {α : Type} {motive : List α → Prop} (h0 : motive []) (h1 : ∀ l a, motive l → motive (l ++ [a])) (l : List α) : motive l := by
 have key : ∀ l : List α, motive l.reverse := fun l => by
  induction l with
  | nil => exact h0
  | cons a t ih => rw [List.reverse_cons]; exact h1 _ _ ih
 have h := key l.reverse
 rwa [List.reverse_reverse] at h
theorem valsL_snoc (fs : List Fld) (f : Fld) (k : Str) : valsL (fs ++ [f]) k = if canonL true f.1 = k then valsL fs k ++ [f.2] else valsL fs k := by
 unfold valsL
 rw [List.filter_append, List.map_append]
 by_cases hk : canonL true f.1 = k
 ·have : isName k f = true := sameL_true hk
  rw [if_pos hk, List.filter_cons_of_pos this, List.filter_nil]
  rfl
 ·have : isName k f = false := sameL_false hk
  rw [if_neg hk, List.filter_cons_of_neg (by rw [this]; decide), List.filter_nil, List.map_nil, List.append_nil]
theorem vals_group (fs : List Fld) (k : Str) : valsH (groupH fs) k = valsL fs k := by
 induction fs using snoc_ind with
 | h0 => rfl
 | h1 fs f ih => rw [group_snoc, vals_addH, valsL_snoc, ih]
theorem get_addH (hs : Hdr) (k x k' : Str) : getH (addH hs k x) k' = if k = k' then some (valsH hs k ++ [x]) else getH hs k' := get_setH _ _ _ _
theorem get_group (fs : List Fld) (k : Str) (h : valsL fs k = []) : getH (groupH fs) k = none := by
 induction fs using snoc_ind with
 | h0 => rfl
 | h1 fs f ih =>
  rw [valsL_snoc] at h
  by_cases hk : canonL true f.1 = k
  ·rw [if_pos hk] at h; simp at h
  ·rw [if_neg hk] at h
   rw [group_snoc, get_addH, if_neg hk, ih h]
theorem setH_len : ∀ (hs : Hdr) (k : Str) (ss : List Str), (setH hs k ss).length ≤ hs.length + 1
 | [], k, ss => by simp [setH]
 | p :: t, k, ss => by
  unfold setH
  cases decide (p.1 = k) with
  | true => simp
  | false => have := setH_len t k ss; simp; omega
theorem group_len (fs : List Fld) : (groupH fs).length ≤ fs.length := by
 induction fs using snoc_ind with
 | h0 => simp [groupH]
 | h1 fs f ih =>
  rw [group_snoc, List.length_append, List.length_singleton]
  have := setH_len (groupH fs) (canonL true f.1) (valsH (groupH fs) (canonL true f.1) ++ [f.2])
  unfold addH
  omega
theorem valsL_mem {fs : List Fld} {k x : Str} (h : x ∈ valsL fs k) : ∃ f ∈ fs, f.2 = x := by
 unfold valsL at h
 obtain ⟨f, hf, rfl⟩ := List.mem_map.1 h
 exact ⟨f, (List.mem_filter.1 hf).1, rfl⟩
def Small (n : Nat) (hs : Hdr) : Prop := hs.length ≤ n ∧ ∀ p ∈ hs, p.2.length ≤ n ∧ ∀ x ∈ p.2, x.length < 1000000000
theorem getH_mem : ∀ {hs : Hdr} {k : Str} {v : List Str}, getH hs k = some v → (k, v) ∈ hs
 | [], _, _, h => by cases h
 | p :: t, k, v, h => by
  unfold getH at h
  cases hd : decide (p.1 = k) with
  | true =>
   rw [hd] at h
   obtain rfl := of_decide_eq_true hd
   cases h
   exact List.mem_cons_self
  | false => rw [hd] at h; exact List.mem_cons_of_mem _ (getH_mem h)
theorem Small.val {n : Nat} {hs : Hdr} (s : Small n hs) (k : Str) : (valsH hs k).length ≤ n ∧ ∀ x ∈ valsH hs k, x.length < 1000000000 := by
 unfold valsH
 cases hg : getH hs k with
 | none => simp
 | some v => exact s.2 _ (getH_mem hg)
theorem Small.short {n : Nat} {hs : Hdr} (s : Small n hs) (hn : n < 1000000000) : ShortH hs := fun k => ⟨by have := (s.val k).1; omega, (s.val k).2⟩
theorem Small.sub {n : Nat} {hs hs' : Hdr} (s : Small n hs) (b : hs'.Sublist hs) : Small n hs' := ⟨Nat.le_trans b.length_le s.1, fun p hp => s.2 p (b.mem hp)⟩
theorem flat_bound {n : Nat} {hs : Hdr} (hv : ∀ k, (valsH hs k).length ≤ n) : ∀ (ns : List Str), (ns.flatMap (valF hs)).length ≤ ns.length * n
 | [] => by simp
 | a :: t => by
  have h1 := flat_bound hv t
  have h2 := hv a
  have h3 : (valF hs a).length = (valsH hs a).length := List.length_map _
  rw [List.flatMap_cons, List.length_append, List.length_cons, Nat.succ_mul]
  omega
theorem Small.total {n : Nat} {hs : Hdr} (s : Small n hs) : (fieldsH hs).length ≤ n * n := by
 have h1 := flat_bound (fun k => (s.val k).1) (sortS (hs.map (·.1)))
 rw [sortS_len, List.length_map] at h1
 exact Nat.le_trans h1 (Nat.mul_le_mul_right n s.1)
theorem setH_mem : ∀ {hs : Hdr} {k : Str} {ss : List Str} {p : Str × List Str}, p ∈ setH hs k ss → p ∈ hs ∨ p.2 = ss
 | [], k, ss, p, h => by
  unfold setH at h
  rw [List.mem_singleton.1 h]
  exact .inr rfl
 | q :: t, k, ss, p, h => by
  unfold setH at h
  cases hd : decide (q.1 = k) with
  | true =>
   rw [hd] at h
   rcases List.mem_cons.1 h with rfl | h
   ·exact .inr rfl
   ·exact .inl (List.mem_cons_of_mem _ h)
  | false =>
   rw [hd] at h
   rcases List.mem_cons.1 h with rfl | h
   ·exact .inl List.mem_cons_self
   ·rcases setH_mem h with h | h
    ·exact .inl (List.mem_cons_of_mem _ h)
    ·exact .inr h
theorem group_mem (fs : List Fld) : ∀ p ∈ groupH fs, p.2.length ≤ fs.length ∧ ∀ x ∈ p.2, ∃ f ∈ fs, f.2 = x := by
 induction fs using snoc_ind with
 | h0 => intro p hp; cases hp
 | h1 fs f ih =>
  intro p hp
  rw [group_snoc] at hp
  rw [List.length_append, List.length_singleton]
  rcases setH_mem hp with hp | hp
  ·obtain ⟨h1, h2⟩ := ih p hp
   exact ⟨by omega, fun x hx => by obtain ⟨g, hg, e⟩ := h2 x hx; exact ⟨g, List.mem_append_left _ hg, e⟩⟩
  ·rw [hp, vals_group]
   refine ⟨by rw [List.length_append, List.length_singleton]; have := vals_len fs (canonL true f.1); omega, fun x hx => ?_⟩
   rcases List.mem_append.1 hx with hx | hx
   ·obtain ⟨g, hg, e⟩ := valsL_mem hx
    exact ⟨g, List.mem_append_left _ hg, e⟩
   ·exact ⟨f, List.mem_append_right _ (by simp), (List.mem_singleton.1 hx).symm⟩
theorem group_small {fs : List Fld} {n : Nat} (hc : fs.length ≤ n) (hs : ∀ f ∈ fs, f.2.length < 1000000000) : Small n (groupH fs) := by
 refine ⟨Nat.le_trans (group_len fs) hc, fun p hp => ?_⟩
 obtain ⟨h1, h2⟩ := group_mem fs p hp
 refine ⟨by omega, fun x hx => ?_⟩
 obtain ⟨f, hf, rfl⟩ := h2 x hx
 exact hs f hf
theorem delH_sub : ∀ (hs : Hdr) (k : Str), (delH hs k).Sublist hs
 | [], k => by simp [delH]
 | p :: t, k => by
  unfold delH
  cases decide (p.1 = k) with
  | true => exact List.sublist_cons_self _ _
  | false => exact (delH_sub t k).cons_cons p
theorem closeH_sub (maj min : Nat) (rm : Bool) (hs : Hdr) : (closeH maj min rm hs).Sublist hs := by
 unfold closeH
 split <;> first | exact List.Sublist.refl _ | exact delH_sub _ _
theorem flenH_sub (resp : Bool) (code : Nat) (meth : Str) (ch : Bool) (hs : Hdr) : (flenH resp code meth ch hs).Sublist hs := by
 unfold flenH
 split <;> first | exact List.Sublist.refl _ | exact delH_sub _ _
end Go.Proofs.YtbjaapiliegegaaGreatDoor.Sy
end
section
namespace Go.Proofs.YtbjaapiliegegaaGreatDoor.Sy
open Go
set_option maxRecDepth 100000
variable {w0 : World} {h : Heap}
structure Fine1 (l a b c : Str) (m : Nat) : Prop where
 line : (lineL l).2.1 = 0
 parts : partsL (lineL l).1 = (a, b, c, true)
 ver : (a = v10 ∧ m = 0) ∨ (a = v11 ∧ m = 1)
 vmaj : (versionL a).1 = 1
 vmin : (versionL a).2.1 = m
 b0 : b ≠ []
 bf : b.all figB = true
 bl : b.length = 3
 num : (numberL b).1 = decN b
 n100 : 100 ≤ decN b
 cont : contentL c = true
 flds : (fieldsL (l.drop (lineL l).2.2)).2.1 = 0
theorem fine1_of {meth l : Str} (h0 : respV meth l = 0) : ∃ a b c m, Fine1 l a b c m := by
 unfold respV at h0
 obtain ⟨a, b, c, ok, hp⟩ : ∃ a b c ok, partsL (lineL l).1 = (a, b, c, ok) := ⟨_, _, _, _, rfl⟩
 rw [hp] at h0
 dsimp only at h0
 by_cases hf1 : (lineL l).2.1 = 1
 ·rw [if_pos hf1] at h0; cases h0
 rw [if_neg hf1] at h0
 by_cases hf2 : (lineL l).2.1 ≠ 0
 ·rw [if_pos hf2] at h0; cases h0
 rw [if_neg hf2] at h0
 by_cases hok : ok = false
 ·rw [if_pos hok] at h0; cases h0
 rw [if_neg hok] at h0
 by_cases hb : b = []
 ·rw [if_pos hb] at h0; cases h0
 rw [if_neg hb] at h0
 by_cases hv : (versionL a).2.2 = false
 ·rw [if_pos hv] at h0; cases h0
 rw [if_neg hv] at h0
 by_cases hv1 : (versionL a).1 ≠ 1 ∨ 1 < (versionL a).2.1
 ·rw [if_pos hv1] at h0; cases h0
 rw [if_neg hv1] at h0
 by_cases hsg : (nth b 0).toNat = 43 ∨ (nth b 0).toNat = 45
 ·rw [if_pos hsg] at h0; cases h0
 rw [if_neg hsg] at h0
 by_cases hnum : b.length ≠ 3 ∨ (numberL b).2 = false
 ·rw [if_pos hnum] at h0; cases h0
 rw [if_neg hnum] at h0
 by_cases hcn : (numberL b).1 < 100 ∨ contentL c = false
 ·rw [if_pos hcn] at h0; cases h0
 rw [if_neg hcn] at h0
 by_cases hf : (fieldsL (l.drop (lineL l).2.2)).2.1 ≠ 0
 ·rw [if_pos hf] at h0; exact absurd h0 hf
 obtain rfl : ok = true := by simpa using hok
 have hv0 : (versionL a).2.2 = true := by simpa using hv
 have hn0 : (numberL b).2 = true := by simp at hnum; exact hnum.2
 obtain ⟨g1, g2, g3, g4⟩ := number_figs hn0
 have hv2 : (versionL a).1 = 1 := by simp at hv1; exact hv1.1
 have hv3 : ¬ 1 < (versionL a).2.1 := by simp at hv1; omega
 have hm : (a = v10 ∧ (versionL a).2.1 = 0) ∨ (a = v11 ∧ (versionL a).2.1 = 1) := version_one hv0 hv2 hv3
 refine ⟨a, b, c, (versionL a).2.1, by simpa using hf2, hp, ?_, hv2, rfl, g1, g2, by simp at hnum; exact hnum.1, g4, ?_, ?_, by simpa using hf⟩
 ·rcases hm with ⟨rfl, e⟩ | ⟨rfl, e⟩
  ·exact .inl ⟨rfl, e⟩
  ·exact .inr ⟨rfl, e⟩
 ·rw [g4] at hcn; simp at hcn; exact hcn.1
 ·simp at hcn; exact hcn.2
def HttpOut (g : Bio) (rest meth : Str) (qb : Nat) (b c : Str) (m : Nat) (h : Heap) (v : Value) (h' : Heap) : Prop :=
 ∃ (rb mb : Nat) (len : Int) (pr un : Value) (own : Nat → Prop), v = .tuple #[ptr rb 0, .nilIface] ∧ h.n ≤ rb ∧ rb < h'.n ∧ Keep g.X h h' ∧ BR h' g (rest.drop (respAt rest)) ∧ (∀ i, own i → h.n ≤ i ∧ i ≠ rb) ∧
  h'.at rb = some (.cells (rsC (S (b ++ 32 :: c)) (decN b) pr 1 m (.map (some mb)) (.iface 180 (.agg #[])) len (.slice none 0 0) (closeL 1 m (valsH (groupH (respFs rest)) sCo)) un (.map none) (ptr qb 0)) 90 0 0) ∧
  HMap own h' mb (flenH true (decN b) meth false (closeH 1 m true (groupH (respFs rest)))) []
set_option maxHeartbeats 16000000 in
theorem http_none_ok {g : Bio} {rest meth : Str} {qb : Nat} {qr : List Value} {a b c : Str} {m : Nat} (G : g.Ok w0.heap.size) (br : BR h g rest) (F : Fine1 rest a b c m) (hq : h.at qb = some (.cells (S meth :: qr) 104 0 0)) (hqr : qr.length = 14) (hqX : qb ∉ g.X)
  (hpr : valsL (respFs rest) sPr = []) (hte : valsL (respFs rest) sTE = []) (hcl : (valsL (respFs rest) sCL).length ≤ 1) (hnum : ∀ x, (valsL (respFs rest) sCL).head? = some x → NumS x) (hz : flenL true (decN b) meth false (valsL (respFs rest) sCL) = 0) (hlr : rest.length < 1000000) :
  ACall Tryz.prog w0 48 [ptr g.R 0, ptr qb 0] h (fun v h' => HttpOut g rest meth qb b c m h v h') := by
 refine ACall.known fun hKn => ?_
 obtain ⟨hN, hB⟩ := hKn
 refine ACall.run noCount mixed Tryz.func48 rfl (by kernel_rfl) (Nat.le_of_ble_eq_true rfl) fun X hX => ?_
 obtain ⟨hitr, hlo, hat0, -, -, -⟩ := line_some F.line
 obtain ⟨lt1, lt2, lt3⟩ := line_take F.line
 obtain ⟨hsp, hna, hnb⟩ := parts_split F.parts
 have hcut1 : cutL 32 (lineL rest).1 = (a, b ++ 32 :: c, true) := by rw [hsp]; exact cut_at hna
 have hcut2 : cutL 32 (b ++ 32 :: c) = (b, c, true) := cut_at hnb
 have htrim : (b ++ 32 :: c).dropWhile isSp = b ++ 32 :: c := dw_fig F.b0 F.bf
 have hbl := F.bl
 have hsl : (lineL rest).1.length < 1000000 := by omega
 have hbc : (b ++ 32 :: c).length < 1000000 := by
  have := congrArg List.length hsp
  simp only [List.length_append, List.length_cons] at this ⊢
  omega
 have hql := hB _ _ hq
 have hlt : g.R < h.n ∧ g.bb < h.n ∧ g.sb < h.n ∧ g.db < h.n := by
  obtain ⟨_, _, _, _, _, _, _, ⟨_, _, _, _, _, _, _, _, lR, lB, lS, lD⟩, _⟩ := id br
  exact ⟨lR, lB, lS, lD⟩
 have hdec : decN b < 1000 := by
  have := decN_lt b.length b (Nat.le_refl _) (by rw [List.take_length]; exact F.bf)
  rw [List.take_length, hbl] at this
  exact this
 have hsm : Small 61 (groupH (respFs rest)) := group_small (fields_count _) (fun f hf => by have := (fields_short _ f hf).2; rw [List.length_drop] at this; omega)
 have hsh : ShortH (groupH (respFs rest)) := hsm.short (by omega)
 (repeat simp only[push_cast,go_sem_proc,↓ite_only,M_block])
 refine callM_of (text_ok g) ?_
 rintro v h1 ⟨tp, rfl, htp, htl, x1, a1⟩
 have T1 : TP h1 tp g (.slice none 0 0) := ⟨a1, htl, by omega, by omega, by omega, by omega⟩
 have n1 := x1.1
 have b1 := br.ext x1
 (repeat simp only[push_cast,go_sem_proc,↓ite_only,M_block])
 generalize hhe : Heap.new h1 _ = h2
 have n2 : h2.n = h1.n + 1 := by rw [← hhe]; rfl
 have x2 : Ext h1 h2 := by rw [← hhe]; exact Keep.ext (by repeat (first | exact Keep.refl _ _ | assumption | refine Keep.put ?_ (by first | (left; simp; done) | (right; omega)) _ | refine Keep.new ?_ _))
 have r2 : h2.at h1.n = some (.cells [S [], I 0, S [], I 0, I 0, .map none, .nilIface, .int .i64 0, .slice none 0 0, .bool false, .bool false, .map none, ptr qb 0] 90 0 0) := by rw [← hhe]; exact at_new_eq _ _
 clear hhe
 have T2 := T1.keep (x2.keep []) (by simp)
 have b2 := b1.ext x2
 have q2 : h2.at qb = some (.cells (S meth :: qr) 104 0 0) := (x2.2 _ (by omega)).trans ((x1.2 _ hql).trans hq)
 refine callM_of (textLine_ok G T2 b2) ?_
 rintro v h3 ⟨k3, ho⟩
 have n3 := k3.1
 rcases ho with ⟨line, rest', rfl, b3, hc⟩ | ⟨_, hne, _⟩
 rotate_left
 ·exact absurd hitr hne
 rcases hc with ⟨_, hl2, hr2⟩ | ⟨hne, _⟩
 rotate_left
 ·exact absurd hitr hne
 obtain rfl : line = (lineL rest).1 := hl2.trans hlo
 rw [show idxL rest 10 + 1 = (lineL rest).2.2 from hat0.symm] at hr2
 subst hr2
 have oX : ∀ i, h.n ≤ i → i ∉ g.X := fun i hi => by simp; omega
 have r3 := (k3.2 h1.n (by omega) (oX _ n1)).trans r2
 have T3 := T2.keep k3 (oX _ htp)
 have q3 := (k3.2 qb (by omega) hqX).trans q2
 (repeat simp only[push_cast,go_sem_proc,↓ite_only,M_block])
 refine callM_of (cut_ok (lineL rest).1 32 (by omega)) ?_
 rintro v h4 ⟨rfl, x4⟩
 rw [hcut1]
 have n4 := x4.1
 have r4 := (x4.2 h1.n (by omega)).trans r3
 (repeat(first|(simp(disch:=first|omega|(simp only[zN];omega))only[push_cast,go_sem_proc,↓ite_only,M_block,r4])|(with_reducible refine⟨by omega,?_⟩)))
 generalize hhe : Heap.put h4 h1.n _ = h5
 have k5 : Keep [h1.n] h4 h5 := by rw [← hhe]; exact (by repeat (first | exact Keep.refl _ _ | assumption | refine Keep.put ?_ (by first | (left; simp; done) | (right; omega)) _ | refine Keep.new ?_ _))
 have r5 : h5.at h1.n = some (.cells [S [], I 0, S a, I 0, I 0, .map none, .nilIface, .int .i64 0, .slice none 0 0, .bool false, .bool false, .map none, ptr qb 0] 90 0 0) := by rw [← hhe]; exact at_put_eq _ _ _
 clear hhe
 refine callM_of (trimBlanks_ok _ (by omega)) ?_
 rintro v h6 ⟨rfl, x6⟩
 rw [htrim]
 have n5 := k5.1
 have n6 := x6.1
 have r6 := (x6.2 h1.n (by omega)).trans r5
 (repeat(first|(simp(disch:=first|omega|(simp only[zN];omega))only[push_cast,go_sem_proc,↓ite_only,M_block,r6])|(with_reducible refine⟨by omega,?_⟩)))
 generalize hhe : Heap.put h6 h1.n _ = h7
 have k7 : Keep [h1.n] h6 h7 := by rw [← hhe]; exact (by repeat (first | exact Keep.refl _ _ | assumption | refine Keep.put ?_ (by first | (left; simp; done) | (right; omega)) _ | refine Keep.new ?_ _))
 have r7 : h7.at h1.n = some (.cells [S (b ++ 32 :: c), I 0, S a, I 0, I 0, .map none, .nilIface, .int .i64 0, .slice none 0 0, .bool false, .bool false, .map none, ptr qb 0] 90 0 0) := by rw [← hhe]; exact at_put_eq _ _ _
 clear hhe
 refine callM_of (cut_ok (b ++ 32 :: c) 32 (by omega)) ?_
 rintro v h8 ⟨rfl, x8⟩
 rw [hcut2]
 have n7 := k7.1
 have n8 := x8.1
 have r8 := (x8.2 h1.n (by omega)).trans r7
 have d3 : decide ((b.length : Int) = 3) = true := decide_eq_true (by omega)
 (repeat simp only[push_cast,go_sem_proc,↓ite_only,M_block,d3])
 refine callM_of (atoi_ok b F.b0 F.bf (by omega)) ?_
 rintro v h9 ⟨rfl, x9⟩
 have n9 := x9.1
 have r9 := (x9.2 h1.n (by omega)).trans r8
 have dneg : decide ((decN b : Int) < 0) = false := decide_eq_false (by omega)
 (repeat(first|(simp(disch:=first|omega|(simp only[zN];omega))only[push_cast,go_sem_proc,↓ite_only,M_block,r9, dneg])|(with_reducible refine⟨by omega,?_⟩)))
 generalize hhe : Heap.put h9 h1.n _ = h10
 have k10 : Keep [h1.n] h9 h10 := by rw [← hhe]; exact (by repeat (first | exact Keep.refl _ _ | assumption | refine Keep.put ?_ (by first | (left; simp; done) | (right; omega)) _ | refine Keep.new ?_ _))
 have r10 : h10.at h1.n = some (.cells [S (b ++ 32 :: c), I (decN b), S a, I 0, I 0, .map none, .nilIface, .int .i64 0, .slice none 0 0, .bool false, .bool false, .map none, ptr qb 0] 90 0 0) := by rw [← hhe]; exact at_put_eq _ _ _
 clear hhe
 refine callM_of (proto30_ok a m F.ver) ?_
 rintro v h11 ⟨rfl, rfl⟩
 (repeat(first|(simp(disch:=first|omega|(simp only[zN];omega))only[push_cast,go_sem_proc,↓ite_only,M_block,r10])|(with_reducible refine⟨by omega,?_⟩)))
 generalize hhe : Heap.put _ h1.n _ = h12
 have n10 := k10.1
 have k12 : Keep [h1.n] h11 h12 := by rw [← hhe]; exact (by repeat (first | exact Keep.refl _ _ | assumption | refine Keep.put ?_ (by first | (left; simp; done) | (right; omega)) _ | refine Keep.new ?_ _))
 have r12 : h12.at h1.n = some (.cells [S (b ++ 32 :: c), I (decN b), S a, I 1, I m, .map none, .nilIface, .int .i64 0, .slice none 0 0, .bool false, .bool false, .map none, ptr qb 0] 90 0 0) := by rw [← hhe]; exact at_put_eq _ _ _
 clear hhe
 have n12 := k12.1
 have k312 : Keep [h1.n] h3 h12 := (x4.keep _).trans (k5.trans ((x6.keep _).trans (k7.trans ((x8.keep _).trans ((x9.keep _).trans (k10.trans k12))))))
 have T12 := T3.keep k312 (by simp; omega)
 have q12 := (k312.2 qb (by omega) (by simp; omega)).trans q3
 have b12 := b3.keep k312 (by simp; omega) (by simp; omega) (by simp; omega) (by simp; omega)
 have hbv : RawB (tp + 1) h12 (.slice none 0 0) := .inl rfl
 refine callM_of (mime84_ok (by omega) G T12 hbv b12) ?_
 rintro v h13 ⟨k13, bv', rem, mv, ev, rfl, T13, raw13, hrel, b13, mo⟩
 obtain ⟨rfl, rfl, mb, rfl, m13⟩ := mo.1 F.flds
 have n13 := k13.1
 have hbk : blkOf tp (.slice none 0 0) = tp := rfl
 rw [hbk] at k13
 have r13 := (k13.2 h1.n (by omega) (by simp; omega)).trans r12
 have q13 := (k13.2 qb (by omega) (by simp at hqX ⊢; omega)).trans q12
 obtain ⟨hml, hmo⟩ : mb < h13.n ∧ own0 h12.n tp bv' mb := by obtain ⟨_, _, _, M⟩ := m13; exact ⟨M.lmb, M.omb⟩
 have hmg := hmo.1
 have hbl' : blkOf tp bv' < h13.n := raw13.lt (by omega)
 (repeat(first|(simp(disch:=first|omega|(simp only[zN];omega))only[push_cast,go_sem_proc,↓ite_only,M_block,r13])|(with_reducible refine⟨by omega,?_⟩)))
 generalize hhe : Heap.put h13 h1.n _ = h14
 have k14 : Keep [h1.n] h13 h14 := by rw [← hhe]; exact (by repeat (first | exact Keep.refl _ _ | assumption | refine Keep.put ?_ (by first | (left; simp; done) | (right; omega)) _ | refine Keep.new ?_ _))
 have r14 : h14.at h1.n = some (.cells [S (b ++ 32 :: c), I (decN b), S a, I 1, I m, .map (some mb), .nilIface, .int .i64 0, .slice none 0 0, .bool false, .bool false, .map none, ptr qb 0] 90 0 0) := by rw [← hhe]; exact at_put_eq _ _ _
 clear hhe
 have n14 := k14.1
 have hnor : ¬own0 h12.n tp bv' h1.n := fun ho => by have := ho.1; omega
 have hnoq : ¬own0 h12.n tp bv' qb := fun ho => by have := ho.1; omega
 have m14 := m13.keep k14 (by simpa using hnor)
 refine callM_of (pragma_ok m14 (by omega) (fun i hi => ⟨by omega, by omega⟩) hsh) ?_
 rintro v h15 ⟨k15, hs', m15, hpr', _⟩
 obtain rfl := hpr' (by rw [vals_group]; exact hpr)
 have n15 := k15.1
 have r15 := (k15.2 h1.n (by omega) (by simp; omega)).trans r14
 have q15 := (k15.2 qb (by omega) (by simp; omega)).trans ((k14.2 qb (by omega) (by simp; omega)).trans q13)
 (repeat simp only[push_cast,go_sem_proc,↓ite_only,M_block])
 refine callM_of (transNone_ok (R := g.R) (code := decN b) (maj := 1) (min := m) (st := S (b ++ 32 :: c)) (pr := S a) (un := .bool false) m15 (by omega) (by omega) hnor hsh (by omega) (by omega) (by omega) (by rcases F.ver with ⟨_, e⟩ | ⟨_, e⟩ <;> omega) r15 q15 hqr hnoq (get_group _ _ hte) (by rw [vals_group]; exact hcl) (by rw [vals_group]; exact hnum) (by rw [vals_group]; exact hz)) ?_
 rintro v h16 ⟨rfl, k16, ⟨len, a16⟩, m16⟩
 (repeat simp only[push_cast,go_sem_proc,↓ite_only,M_block])
 ((with_reducible refine hX _ _ _ (fun j hj => nomatch hj) ?_); simp only[push_cast,go_sem_proc,↓ite_only,M_block,Tryz.results48])
 have kk : Keep (g.X ++ [h1.n, mb, tp]) h h16 := by
  refine (x1.keep _).trans ((x2.keep _).trans ((k3.more (by simp)).trans ((k312.more (by simp)).trans ((k13.more ?_).trans ((k14.more (by simp)).trans ((k15.more (by simp)).trans (k16.more ?_)))))))
  ·intro i hi; simp at hi ⊢; omega
  ·intro i hi; simp at hi ⊢; omega
 refine ⟨h1.n, mb, len, S a, .bool false, own0 h12.n tp bv', rfl, by omega, by have := k16.1; omega, ⟨kk.1, fun i hi hX => kk.2 i hi ?_⟩, ?_, fun i hi => ⟨by have := hi.1; omega, fun e => by have := hi.1; omega⟩, a16, m16⟩
 ·simp at hX ⊢; omega
 ·have kf : Keep [h1.n, mb] h13 h16 := (k14.more (by simp)).trans ((k15.more (by simp)).trans (k16.more (by intro i hi; simp at hi ⊢; omega)))
  have : BR h16 g ((rest.drop (lineL rest).2.2).drop (fieldsL (rest.drop (lineL rest).2.2)).2.2) := b13.keep kf (by simp; omega) (by simp; omega) (by simp; omega) (by simp; omega)
  rw [List.drop_drop] at this
  exact this
end Go.Proofs.YtbjaapiliegegaaGreatDoor.Sy
end
