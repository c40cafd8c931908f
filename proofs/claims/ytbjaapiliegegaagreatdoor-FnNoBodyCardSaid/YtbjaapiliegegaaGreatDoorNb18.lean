/- Of the proof of FnNoBody: ScA ScB. -/
import Derived.Test.YtbjaapiliegegaaGreatDoorNb09
set_option linter.unusedVariables false
set_option linter.unusedSimpArgs false
section
namespace Go.Proofs.YtbjaapiliegegaaGreatDoor.Sy
open Go
set_option maxRecDepth 100000
variable {w0 : World} {h : Heap}
@[push_cast] def p29_3 : Plan := [(0, []), (1, []), (2, []), (3, []), (4, []), (5, []), (6, []), (7, []), (8, []), (9, []), (10, [])]
@[push_cast] def p40_9 : Plan := [(0, []), (1, []), (2, []), (3, []), (4, []), (5, []), (6, []), (7, []), (8, []), (9, []), (10, []), (11, []), (12, []), (13, []), (14, []), (15, [])]
abbrev Str3 := List UInt8 × List UInt8 × List UInt8 × Bool
theorem tw_eq {p : UInt8 → Bool} : ∀ (l : List UInt8) (k : Nat), k ≤ l.length → (l.take k).all p = true → (k = l.length ∨ p (nth l k) = false) → l.takeWhile p = l.take k
 | [], k, hk, _, _ => by simp
 | c :: l, 0, _, _, h => by
  rcases h with h | h
  ·simp at h
  ·have : p c = false := h
   simp [List.takeWhile_cons, this]
 | c :: l, k + 1, hk, ha, h => by
  rw [List.take_succ_cons, List.all_cons, Bool.and_eq_true] at ha
  rw [List.takeWhile_cons, if_pos ha.1, List.take_succ_cons, tw_eq l k (by simpa using hk) ha.2 ?_]
  rcases h with h | h
  ·left; simpa using h
  ·right; exact h
theorem all_snoc {p : UInt8 → Bool} {l : List UInt8} {k : Nat} (hk : k < l.length) (ha : (l.take k).all p = true) (hp : p (nth l k) = true) : (l.take (k + 1)).all p = true := by
 rw [take_snoc l k hk, List.all_append, ha]
 simp [hp]
theorem all_no {p : UInt8 → Bool} {l : List UInt8} {k : Nat} (hk : k < l.length) (hp : p (nth l k) = false) : l.all p = false := by
 rw [List.all_eq_false]
 exact ⟨_, List.mem_of_getElem? (nth_get hk), by simp [hp]⟩
theorem nth_drop (l : List UInt8) (a k : Nat) : nth (l.drop a) k = nth l (a + k) := by
 unfold nth
 rw [List.getD_eq_getElem?_getD, List.getD_eq_getElem?_getD, List.getElem?_drop]
def blankN (n : Nat) : Bool := decide (n = 32) || decide (n = 9)
def blankB (c : UInt8) : Bool := blankN c.toNat
theorem blank_ok (b : UInt8) : ACall Tryz.prog w0 71 [B b] h (fun v h' => v = .bool (blankB b) ∧ Ext h h') := by
 refine ACall.known fun hKn => ?_
 obtain ⟨hN, hB⟩ := hKn
 refine ACall.run noCount mixed Tryz.func71 rfl (by kernel_rfl) (Nat.le_of_ble_eq_true rfl) fun X hX => ?_
 (repeat simp only[push_cast,go_sem_proc,↓ite_only,M_block])
 repeat' ((with_reducible(first|refine condM_same ?_ ?_|refine condM_nsame ?_ ?_|refine oneM_same ?_ ?_|refine oneM_nsame ?_ ?_|refine oneP_same ?_ ?_|refine oneP_nsame ?_ ?_|refine condM_dec_ ?_ ?_|refine condM_not_ ?_ ?_|refine oneM_dec_ ?_ ?_|refine oneM_not_ ?_ ?_|refine oneP_dec_ ?_ ?_|refine oneP_not_ ?_ ?_|refine condM_bool ?_ ?_|refine oneM_bool ?_ ?_|refine oneP_bool ?_ ?_)<;>intro c) <;> first | (exfalso; first | contradiction | omega) | (try (repeat simp only[push_cast,go_sem_proc,↓ite_only,M_block,c])))
 all_goals
  ((with_reducible refine hX _ _ _ (fun j hj => nomatch hj) ?_); simp only[push_cast,go_sem_proc,↓ite_only,M_block,Tryz.results71])
  refine ⟨congrArg Value.bool ?_, .refl _⟩
  rw [Bool.eq_iff_iff]
  simp [blankB, blankN]
  omega
def plainN (n : Nat) : Bool := (decide (32 ≤ n) || decide (n = 9)) && decide (n ≠ 127)
def plainB (c : UInt8) : Bool := plainN c.toNat
def contentL (l : List UInt8) : Bool := l.all plainB && (l.isEmpty || (!blankB (nth l 0) && !blankB (nth l (l.length - 1))))
set_option maxHeartbeats 1000000 in
theorem content_ok (l : List UInt8) (hl : l.length < 9223372036854775807) : ACall Tryz.prog w0 42 [S l] h (fun v h' => v = .bool (contentL l) ∧ Ext h h') := by
 refine ACall.known fun hKn => ?_
 obtain ⟨hN, hB⟩ := hKn
 refine ACall.run noCount mixed Tryz.func42 rfl (by kernel_rfl) (Nat.le_of_ble_eq_true rfl) fun X hX => ?_
 (repeat simp only[push_cast,go_sem_proc,↓ite_only,M_block])
 refine M_loop (fun tm h1 n => ∃ k : Nat, k ≤ l.length ∧ n = l.length - k ∧ h1 = h ∧ tget tm 7 = I k ∧ tget tm 6 = I l.length ∧ tget tm 0 = S l ∧ (l.take k).all plainB = true) l.length
  ⟨0, by omega, by omega, rfl, (by simp only[zT,Nat.reduceBEq];rfl), (by simp only[zT,Nat.reduceBEq]), (by simp only[zT,Nat.reduceBEq]), rfl⟩ ?_
 rintro tm1 h1 n R ⟨k, hk, rfl, rfl, t7, t6, t0, hall⟩ hR hE
 (repeat simp only[push_cast,go_sem_proc,↓ite_only,M_block,t7, t6, t0])
 repeat' ((with_reducible(first|refine condM_same ?_ ?_|refine condM_nsame ?_ ?_|refine oneM_same ?_ ?_|refine oneM_nsame ?_ ?_|refine oneP_same ?_ ?_|refine oneP_nsame ?_ ?_|refine condM_dec_ ?_ ?_|refine condM_not_ ?_ ?_|refine oneM_dec_ ?_ ?_|refine oneM_not_ ?_ ?_|refine oneP_dec_ ?_ ?_|refine oneP_not_ ?_ ?_|refine condM_bool ?_ ?_|refine oneM_bool ?_ ?_|refine oneP_bool ?_ ?_)<;>intro c) <;> first | (exfalso; first | contradiction | omega) | (try (repeat(first|(simp(disch:=omega)only[push_cast,go_sem_proc,↓ite_only,M_block,t7, t6, t0, c])|(with_reducible refine⟨by omega,?_⟩)))))
 ·refine hR _ _ (l.length - (k + 1)) (by omega) ⟨k + 1, by omega, rfl, rfl, (by simp only[zT,Nat.reduceBEq];rfl), ‹_›, ‹_›, all_snoc (by omega) hall (by simp [plainB, plainN]; omega)⟩
 ·have hno : contentL l = false := by unfold contentL; rw [all_no (k := k) (p := plainB) (by omega) (by simp [plainB, plainN]; omega)]; rfl
  (with_reducible refine hE _ _ _ _ (nomatch ·) ?_)
  (repeat simp only[push_cast,go_sem_proc,↓ite_only,M_block])
  ((with_reducible refine hX _ _ _ (fun j hj => nomatch hj) ?_); simp only[push_cast,go_sem_proc,↓ite_only,M_block,Tryz.results42])
  exact ⟨by rw [hno], .refl _⟩
 ·have hno : contentL l = false := by unfold contentL; rw [all_no (k := k) (p := plainB) (by omega) (by simp [plainB, plainN]; omega)]; rfl
  (with_reducible refine hE _ _ _ _ (nomatch ·) ?_)
  (repeat simp only[push_cast,go_sem_proc,↓ite_only,M_block])
  ((with_reducible refine hX _ _ _ (fun j hj => nomatch hj) ?_); simp only[push_cast,go_sem_proc,↓ite_only,M_block,Tryz.results42])
  exact ⟨by rw [hno], .refl _⟩
 ·refine hR _ _ (l.length - (k + 1)) (by omega) ⟨k + 1, by omega, rfl, rfl, (by simp only[zT,Nat.reduceBEq];rfl), ‹_›, ‹_›, all_snoc (by omega) hall (by simp [plainB, plainN]; omega)⟩
 ·have hke : k = l.length := by omega
  subst hke
  rw [List.take_length] at hall
  (with_reducible refine hE _ _ _ _ (nomatch ·) ?_)
  (repeat simp only[push_cast,go_sem_proc,↓ite_only,M_block,t0])
  repeat' ((with_reducible(first|refine condM_same ?_ ?_|refine condM_nsame ?_ ?_|refine oneM_same ?_ ?_|refine oneM_nsame ?_ ?_|refine oneP_same ?_ ?_|refine oneP_nsame ?_ ?_|refine condM_dec_ ?_ ?_|refine condM_not_ ?_ ?_|refine oneM_dec_ ?_ ?_|refine oneM_not_ ?_ ?_|refine oneP_dec_ ?_ ?_|refine oneP_not_ ?_ ?_|refine condM_bool ?_ ?_|refine oneM_bool ?_ ?_|refine oneP_bool ?_ ?_)<;>intro c) <;> first | (exfalso; first | contradiction | omega) | (try (repeat simp(disch:=first|omega|decide)only[push_cast,go_sem_proc,↓ite_only,M_block,t0, c])))
  ·have hl0 : 0 < l.length := List.length_pos_iff.2 c
   have hne : l.isEmpty = false := by cases l with | nil => simp at hl0 | cons a b => rfl
   refine ⟨by omega, callM_of (blank_ok _) ?_⟩
   rintro v h2 ⟨rfl, hx2⟩
   cases hb : blankB (nth l 0) with
   | true =>
    (repeat simp only[push_cast,go_sem_proc,↓ite_only,M_block])
    ((with_reducible refine hX _ _ _ (fun j hj => nomatch hj) ?_); simp only[push_cast,go_sem_proc,↓ite_only,M_block,Tryz.results42])
    exact ⟨by simp [contentL, hall, hne, hb], hx2⟩
   | false =>
    have h1 : ((l.length : Int) - 1).toNat = l.length - 1 := by omega
    (repeat(first|(simp(disch:=omega)only[push_cast,go_sem_proc,↓ite_only,M_block,t0])|(with_reducible refine⟨by omega,?_⟩)))
    refine callM_of (blank_ok _) ?_
    rintro v h3 ⟨rfl, hx3⟩
    rw [h1]
    cases hb2 : blankB (nth l (l.length - 1)) <;>
    ·(repeat simp only[push_cast,go_sem_proc,↓ite_only,M_block])
     ((with_reducible refine hX _ _ _ (fun j hj => nomatch hj) ?_); simp only[push_cast,go_sem_proc,↓ite_only,M_block,Tryz.results42])
     exact ⟨by simp [contentL, hall, hne, hb, hb2], hx2.trans hx3⟩
  ·((with_reducible refine hX _ _ _ (fun j hj => nomatch hj) ?_); simp only[push_cast,go_sem_proc,↓ite_only,M_block,Tryz.results42])
   have he : l = [] := by assumption
   exact ⟨by rw [he]; rfl, .refl _⟩
def fault1L (n : Int) : Int := match decide (n = 1) with | true => 1 | false => 3
theorem fault1_ok (n : Int) : ACall Tryz.prog w0 39 [I n] h (fun v h' => v = I (fault1L n) ∧ Ext h h') := by
 refine ACall.known fun hKn => ?_
 obtain ⟨hN, hB⟩ := hKn
 refine ACall.run noCount mixed Tryz.func39 rfl (by kernel_rfl) (Nat.le_of_ble_eq_true rfl) fun X hX => ?_
 (repeat simp only[push_cast,go_sem_proc,↓ite_only,M_block])
 repeat' ((with_reducible(first|refine condM_same ?_ ?_|refine condM_nsame ?_ ?_|refine oneM_same ?_ ?_|refine oneM_nsame ?_ ?_|refine oneP_same ?_ ?_|refine oneP_nsame ?_ ?_|refine condM_dec_ ?_ ?_|refine condM_not_ ?_ ?_|refine oneM_dec_ ?_ ?_|refine oneM_not_ ?_ ?_|refine oneP_dec_ ?_ ?_|refine oneP_not_ ?_ ?_|refine condM_bool ?_ ?_|refine oneM_bool ?_ ?_|refine oneP_bool ?_ ?_)<;>intro c) <;> first | (exfalso; first | contradiction | omega) | (try (repeat simp only[push_cast,go_sem_proc,↓ite_only,M_block,c])))
 all_goals
  ((with_reducible refine hX _ _ _ (fun j hj => nomatch hj) ?_); simp only[push_cast,go_sem_proc,↓ite_only,M_block,Tryz.results39])
  refine ⟨?_, .refl _⟩
  simp [fault1L, c]
def figB (c : UInt8) : Bool := decide (48 ≤ c.toNat) && decide (c.toNat ≤ 57)
def Versioned (l : List UInt8) : Prop := l.length = 8 ∧ l.take 5 = [72, 84, 84, 80, 47] ∧ (nth l 6).toNat = 46 ∧ 48 ≤ (nth l 5).toNat ∧ (nth l 5).toNat ≤ 57 ∧ 48 ≤ (nth l 7).toNat ∧ (nth l 7).toNat ≤ 57
instance (l : List UInt8) : Decidable (Versioned l) := by unfold Versioned; infer_instance
def versionL (l : List UInt8) : Nat × Nat × Bool :=
 match decide (Versioned l) with
 | true => ((nth l 5).toNat - 48, (nth l 7).toNat - 48, true)
 | false => (0, 0, false)
theorem version_bad {l : List UInt8} (h : ¬Versioned l) : versionL l = (0, 0, false) := by
 unfold versionL; rw [decide_eq_false h]
theorem version_good {l : List UInt8} (h : Versioned l) : versionL l = ((nth l 5).toNat - 48, (nth l 7).toNat - 48, true) := by
 unfold versionL; rw [decide_eq_true h]
set_option maxHeartbeats 1000000 in
theorem version_ok (l : List UInt8) : ACall Tryz.prog w0 29 [S l] h (fun v h' => v = .tuple #[I (versionL l).1, I (versionL l).2.1, .bool (versionL l).2.2] ∧ Ext h h') := by
  refine ACall.known fun hKn => ?_
  obtain ⟨hN, hB⟩ := hKn
  refine ACall.run noCount mixed Tryz.func29 rfl (by kernel_rfl) (Nat.le_of_ble_eq_true rfl) fun X hX => ?_
  (repeat simp only[push_cast,go_sem_proc,↓ite_only,M_block])
  repeat' ((with_reducible(first|refine condM_same ?_ ?_|refine condM_nsame ?_ ?_|refine oneM_same ?_ ?_|refine oneM_nsame ?_ ?_|refine oneP_same ?_ ?_|refine oneP_nsame ?_ ?_|refine condM_dec_ ?_ ?_|refine condM_not_ ?_ ?_|refine oneM_dec_ ?_ ?_|refine oneM_not_ ?_ ?_|refine oneP_dec_ ?_ ?_|refine oneP_not_ ?_ ?_|refine condM_bool ?_ ?_|refine oneM_bool ?_ ?_|refine oneP_bool ?_ ?_)<;>intro c) <;> first | (exfalso; first | contradiction | omega) | (try (repeat(first|(simp(disch:=first|omega|decide)only[push_cast,go_sem_proc,↓ite_only,M_block,c])|(with_reducible refine⟨by omega,?_⟩)|(with_reducible refine M_draw (id:=3) p29_3 ?_ ?_;focus kernel_rfl)))))
  all_goals
    ((with_reducible refine hX _ _ _ (fun j hj => nomatch hj) ?_); simp only[push_cast,go_sem_proc,↓ite_only,M_block,Tryz.results29])
    first
    | (rw [version_bad (fun hg => by obtain ⟨h1, h2, h3, h4, h5, h6, h7⟩ := hg; first | omega | contradiction)]
       exact ⟨rfl, .refl _⟩)
    | (have hg : Versioned l := ⟨by omega, by assumption, by omega, by omega, by omega, by omega, by omega⟩
       have e1 : (((nth l 5).toNat : Int) - 48) % 256 = (((nth l 5).toNat - 48 : Nat) : Int) := by have := hg.2.2.2; omega
       have e2 : (((nth l 7).toNat : Int) - 48) % 256 = (((nth l 7).toNat - 48 : Nat) : Int) := by have := hg.2.2.2; omega
       rw [version_good hg, e1, e2]
       exact ⟨rfl, .refl _⟩)
def noSp (c : UInt8) : Bool := decide (c.toNat ≠ 32)
def partsL (l : List UInt8) : Str3 :=
 let a := l.takeWhile noSp
 let b := (l.drop (a.length + 1)).takeWhile noSp
 match decide (a.length + 1 + b.length < l.length) with
 | true => (a, b, l.drop (a.length + 1 + b.length + 1), true)
 | false => ([], [], [], false)
set_option maxHeartbeats 2000000 in
theorem parts_ok (l : List UInt8) (hl : l.length < 1099511627776) : ACall Tryz.prog w0 40 [S l] h (fun v h' => v = .tuple #[S (partsL l).1, S (partsL l).2.1, S (partsL l).2.2.1, .bool (partsL l).2.2.2] ∧ Ext h h') := by
 refine ACall.known fun hKn => ?_
 obtain ⟨hN, hB⟩ := hKn
 refine ACall.run noCount mixed Tryz.func40 rfl (by kernel_rfl) (Nat.le_of_ble_eq_true rfl) fun X hX => ?_
 (repeat simp only[push_cast,go_sem_proc,↓ite_only])
 refine M_cut (fun tm h' => h' = h ∧ tget tm 0 = S l ∧ tget tm 6 = I (l.takeWhile noSp).length) (fun R hR hE => ?_) ?_
 ·(repeat simp only[push_cast,go_sem_proc,↓ite_only,M_block])
  refine M_loop (fun tm h1 n => ∃ k : Nat, k ≤ l.length ∧ n = l.length - k ∧ h1 = h ∧ tget tm 6 = I k ∧ tget tm 0 = S l ∧ (l.take k).all noSp = true) l.length
   ⟨0, by omega, by omega, rfl, (by simp only[zT,Nat.reduceBEq];rfl), (by simp only[zT,Nat.reduceBEq]), rfl⟩ ?_
  rintro tm1 h1 n R ⟨k, hk, rfl, rfl, t6, t0, hall⟩ hR2 hE
  (repeat simp only[push_cast,go_sem_proc,↓ite_only,M_block,t6, t0])
  repeat' ((with_reducible(first|refine condM_same ?_ ?_|refine condM_nsame ?_ ?_|refine oneM_same ?_ ?_|refine oneM_nsame ?_ ?_|refine oneP_same ?_ ?_|refine oneP_nsame ?_ ?_|refine condM_dec_ ?_ ?_|refine condM_not_ ?_ ?_|refine oneM_dec_ ?_ ?_|refine oneM_not_ ?_ ?_|refine oneP_dec_ ?_ ?_|refine oneP_not_ ?_ ?_|refine condM_bool ?_ ?_|refine oneM_bool ?_ ?_|refine oneP_bool ?_ ?_)<;>intro c) <;> first | (exfalso; first | contradiction | omega) | (try (repeat(first|(simp(disch:=omega)only[push_cast,go_sem_proc,↓ite_only,M_block,t6, t0, c])|(with_reducible refine⟨by omega,?_⟩)))))
  ·exact hR2 _ _ (l.length - (k + 1)) (by omega) ⟨k + 1, by omega, rfl, rfl, (by simp only[zT,Nat.reduceBEq];rfl), ‹_›, all_snoc (by omega) hall (by simp [noSp]; omega)⟩
  ·have e := tw_eq l k hk hall (.inr (by simp [noSp]; omega))
   (with_reducible refine hE _ _ _ _ (nomatch ·) ?_)
   (repeat simp only[push_cast,go_sem_proc,↓ite_only,M_block])
   refine hR _ _ ⟨rfl, ‹_›, ?_⟩
   simp only [tget_cons, Nat.reduceBEq, tsel_true, tsel_false, t6, e, List.length_take, Nat.min_eq_left hk]
  ·have e := tw_eq l k hk hall (.inl (by omega))
   (with_reducible refine hE _ _ _ _ (nomatch ·) ?_)
   (repeat simp only[push_cast,go_sem_proc,↓ite_only,M_block])
   refine hR _ _ ⟨rfl, ‹_›, ?_⟩
   simp only [tget_cons, Nat.reduceBEq, tsel_true, tsel_false, t6, e, List.length_take, Nat.min_eq_left hk]
 ·rintro tm h' ⟨rfl, t0, t6⟩
  have hal : (l.takeWhile noSp).length ≤ l.length := (List.takeWhile_prefix _).length_le
  generalize hA : (l.takeWhile noSp).length = i at t6 hal
  (repeat simp(disch:=omega)only[push_cast,go_sem_proc,↓ite_only,t6, t0])
  have hm : (l.drop (i + 1)).length = l.length - (i + 1) := List.length_drop
  refine M_cut (fun tm h1 => h1 = h' ∧ tget tm 0 = S l ∧ tget tm 6 = I i ∧ tget tm 7 = I (i + 1 + ((l.drop (i + 1)).takeWhile noSp).length : Nat)) (fun R hR hE => ?_) ?_
  ·(repeat simp only[push_cast,go_sem_proc,↓ite_only,M_block])
   refine M_loop (fun tm h1 n => ∃ k : Nat, k ≤ (l.drop (i + 1)).length ∧ n = l.length - k ∧ h1 = h' ∧ tget tm 7 = I (i + 1 + k : Nat) ∧ tget tm 6 = I i ∧ tget tm 0 = S l ∧ ((l.drop (i + 1)).take k).all noSp = true) l.length
    ⟨0, by omega, by omega, rfl, (by simp only[zT,Nat.reduceBEq];rfl), ‹_›, ‹_›, rfl⟩ ?_
   rintro tm1 h1 n R ⟨k, hk, rfl, rfl, t7, t6, t0, hall⟩ hR2 hE
   have hnd : nth l (i + 1 + k) = nth (l.drop (i + 1)) k := (nth_drop l (i + 1) k).symm
   have htn : ((i : Int) + 1 + k).toNat = i + 1 + k := by omega
   (repeat simp only[push_cast,go_sem_proc,↓ite_only,M_block,t7, t6, t0, htn, hnd])
   repeat' ((with_reducible(first|refine condM_same ?_ ?_|refine condM_nsame ?_ ?_|refine oneM_same ?_ ?_|refine oneM_nsame ?_ ?_|refine oneP_same ?_ ?_|refine oneP_nsame ?_ ?_|refine condM_dec_ ?_ ?_|refine condM_not_ ?_ ?_|refine oneM_dec_ ?_ ?_|refine oneM_not_ ?_ ?_|refine oneP_dec_ ?_ ?_|refine oneP_not_ ?_ ?_|refine condM_bool ?_ ?_|refine oneM_bool ?_ ?_|refine oneP_bool ?_ ?_)<;>intro c) <;> first | (exfalso; first | contradiction | omega) | (try (repeat(first|(simp(disch:=omega)only[push_cast,go_sem_proc,↓ite_only,M_block,t7, t6, t0, htn, hnd, c])|(with_reducible refine⟨by omega,?_⟩)))))
   ·exact hR2 _ _ (l.length - (k + 1)) (by omega) ⟨k + 1, by omega, rfl, rfl, (by simp only[zT,Nat.reduceBEq];rfl), ‹_›, ‹_›, all_snoc (by omega) hall (by simp [noSp]; omega)⟩
   ·have e := tw_eq _ k hk hall (.inr (by simp [noSp]; omega))
    (with_reducible refine hE _ _ _ _ (nomatch ·) ?_)
    (repeat simp only[push_cast,go_sem_proc,↓ite_only,M_block])
    refine hR _ _ ⟨rfl, ‹_›, ‹_›, ?_⟩
    simp only [tget_cons, Nat.reduceBEq, tsel_true, tsel_false, t7, e, List.length_take, Nat.min_eq_left hk]
   ·have e := tw_eq _ k hk hall (.inl (by omega))
    (with_reducible refine hE _ _ _ _ (nomatch ·) ?_)
    (repeat simp only[push_cast,go_sem_proc,↓ite_only,M_block])
    refine hR _ _ ⟨rfl, ‹_›, ‹_›, ?_⟩
    simp only [tget_cons, Nat.reduceBEq, tsel_true, tsel_false, t7, e, List.length_take, Nat.min_eq_left hk]
  ·rintro tm2 h2 ⟨rfl, t0, t6, t7⟩
   have hbl : ((l.drop (i + 1)).takeWhile noSp).length ≤ (l.drop (i + 1)).length := (List.takeWhile_prefix _).length_le
   have hdef : partsL l = match decide (i + 1 + ((l.drop (i + 1)).takeWhile noSp).length < l.length) with
    | true => (l.takeWhile noSp, (l.drop (i + 1)).takeWhile noSp, l.drop (i + 1 + ((l.drop (i + 1)).takeWhile noSp).length + 1), true)
    | false => ([], [], [], false) := by rw [← hA]; rfl
   have htA : l.take i = l.takeWhile noSp := by
    rw [← hA]
    exact (List.prefix_iff_eq_take.1 (List.takeWhile_prefix _)).symm
   have htB : (l.drop (i + 1)).take (((l.drop (i + 1)).takeWhile noSp).length) = (l.drop (i + 1)).takeWhile noSp := (List.prefix_iff_eq_take.1 (List.takeWhile_prefix _)).symm
   generalize hBB : ((l.drop (i + 1)).takeWhile noSp).length = j at *
   have ht1 : ((i : Int) + 1).toNat = i + 1 := by omega
   have ht2 : ((i : Int) + 1 + j).toNat = i + 1 + j := by omega
   have ht3 : ((i : Int) + 1 + j + 1).toNat = i + 1 + j + 1 := by omega
   have htC : (l.take (i + 1 + j)).drop (i + 1) = (l.drop (i + 1)).takeWhile noSp := by
    rw [List.drop_take, Nat.add_sub_cancel_left]
    exact htB
   (repeat simp only[push_cast,go_sem_proc,↓ite_only,M_block,t7, t6, t0, ht1, ht2, ht3, htA, htC, List.take_length])
   repeat' ((with_reducible(first|refine condM_same ?_ ?_|refine condM_nsame ?_ ?_|refine oneM_same ?_ ?_|refine oneM_nsame ?_ ?_|refine oneP_same ?_ ?_|refine oneP_nsame ?_ ?_|refine condM_dec_ ?_ ?_|refine condM_not_ ?_ ?_|refine oneM_dec_ ?_ ?_|refine oneM_not_ ?_ ?_|refine oneP_dec_ ?_ ?_|refine oneP_not_ ?_ ?_|refine condM_bool ?_ ?_|refine oneM_bool ?_ ?_|refine oneP_bool ?_ ?_)<;>intro c) <;> first | (exfalso; first | contradiction | omega) | (try (repeat(first|(simp(disch:=omega)only[push_cast,go_sem_proc,↓ite_only,M_block,t7, t6, t0, ht1, ht2, ht3, htA, htC, List.take_length, c])|(with_reducible refine⟨by omega,?_⟩)|(with_reducible refine M_draw (id:=9) p40_9 ?_ ?_;focus kernel_rfl)))))
   ·rw [decide_eq_false (by omega)] at hdef
    ((with_reducible refine hX _ _ _ (fun j hj => nomatch hj) ?_); simp only[push_cast,go_sem_proc,↓ite_only,M_block,Tryz.results40])
    rw [hdef]
    exact ⟨rfl, .refl _⟩
   ·rw [decide_eq_true (by omega)] at hdef
    ((with_reducible refine hX _ _ _ (fun j hj => nomatch hj) ?_); simp only[push_cast,go_sem_proc,↓ite_only,M_block,Tryz.results40])
    rw [hdef]
    exact ⟨rfl, .refl _⟩
def decN (l : List UInt8) : Nat := l.foldl (fun n c => 10 * n + (c.toNat - 48)) 0
def numberL (l : List UInt8) : Nat × Bool :=
 match l.all figB && decide (l.length ≤ 10) with
 | true => (decN l, !l.isEmpty)
 | false => (0, false)
theorem decN_snoc (l : List UInt8) (k : Nat) (hk : k < l.length) : decN (l.take (k + 1)) = 10 * decN (l.take k) + ((nth l k).toNat - 48) := by
 rw [take_snoc l k hk]
 simp [decN]
theorem decN_lt : ∀ (k : Nat) (l : List UInt8), k ≤ l.length → (l.take k).all figB = true → decN (l.take k) < 10 ^ k
 | 0, l, _, _ => by simp [decN]
 | k + 1, l, hk, ha => by
  rw [take_snoc l k hk, List.all_append, Bool.and_eq_true] at ha
  have h1 := decN_lt k l (by omega) ha.1
  have h2 : figB (nth l k) = true := by simpa using ha.2
  have h3 : (nth l k).toNat ≤ 57 := by simp [figB] at h2; omega
  rw [decN_snoc l k hk, Nat.pow_succ]
  omega
theorem number_bad {l : List UInt8} (h : ¬(l.all figB = true ∧ l.length ≤ 10)) : numberL l = (0, false) := by
 have : (l.all figB && decide (l.length ≤ 10)) = false := by rw [Bool.eq_false_iff]; intro hc; exact h (by simpa using hc)
 unfold numberL
 rw [this]
theorem number_good {l : List UInt8} (h : l.all figB = true) (h2 : l.length ≤ 10) : numberL l = (decN l, !l.isEmpty) := by
 unfold numberL
 rw [h, decide_eq_true h2]
 rfl
set_option maxHeartbeats 2000000 in
theorem number_ok (l : List UInt8) (hl : l.length < 1099511627776) : ACall Tryz.prog w0 41 [S l] h (fun v h' => v = .tuple #[.int .i64 (numberL l).1, .bool (numberL l).2] ∧ Ext h h') := by
 refine ACall.known fun hKn => ?_
 obtain ⟨hN, hB⟩ := hKn
 refine ACall.run noCount mixed Tryz.func41 rfl (by kernel_rfl) (Nat.le_of_ble_eq_true rfl) fun X hX => ?_
 (repeat simp only[push_cast,go_sem_proc,↓ite_only,M_block])
 refine M_loop (fun tm h1 n => ∃ k : Nat, k ≤ l.length ∧ k ≤ 10 ∧ n = l.length - k ∧ h1 = h ∧ tget tm 8 = I k ∧ tget tm 7 = I l.length ∧ tget tm 0 = S l ∧ tget tm 4 = I (decN (l.take k)) ∧ (l.take k).all figB = true) l.length
  ⟨0, by omega, by omega, by omega, rfl, (by simp only[zT,Nat.reduceBEq];rfl), (by simp only[zT,Nat.reduceBEq]), (by simp only[zT,Nat.reduceBEq]), (by simp only[zT,Nat.reduceBEq];rfl), rfl⟩ ?_
 rintro tm1 h1 n R ⟨k, hk, hk10, rfl, rfl, t8, t7, t0, t4, hall⟩ hR hE
 have hlt := decN_lt k l hk hall
 have hp : (10 : Nat) ^ k ≤ 10 ^ 10 := Nat.pow_le_pow_right (by decide) hk10
 have hlt' : decN (l.take k) < 10000000000 := by omega
 generalize hD : decN (l.take k) = D at t4 hlt hlt'
 (repeat simp only[push_cast,go_sem_proc,↓ite_only,M_block,t8, t7, t0, t4])
 repeat' ((with_reducible(first|refine condM_same ?_ ?_|refine condM_nsame ?_ ?_|refine oneM_same ?_ ?_|refine oneM_nsame ?_ ?_|refine oneP_same ?_ ?_|refine oneP_nsame ?_ ?_|refine condM_dec_ ?_ ?_|refine condM_not_ ?_ ?_|refine oneM_dec_ ?_ ?_|refine oneM_not_ ?_ ?_|refine oneP_dec_ ?_ ?_|refine oneP_not_ ?_ ?_|refine condM_bool ?_ ?_|refine oneM_bool ?_ ?_|refine oneP_bool ?_ ?_)<;>intro c) <;> first | (exfalso; first | contradiction | omega) | (try (repeat(first|(simp(disch:=omega)only[push_cast,go_sem_proc,↓ite_only,M_block,t8, t7, t0, t4, c])|(with_reducible refine⟨by omega,?_⟩)))))
 ·have hb := number_bad (l := l) (fun hg => by rw [all_no (k := k) (by omega) (by simp [figB]; omega)] at hg; exact Bool.noConfusion hg.1)
  (with_reducible refine hE _ _ _ _ (nomatch ·) ?_)
  (repeat simp only[push_cast,go_sem_proc,↓ite_only,M_block])
  ((with_reducible refine hX _ _ _ (fun j hj => nomatch hj) ?_); simp only[push_cast,go_sem_proc,↓ite_only,M_block,Tryz.results41])
  rw [hb]
  exact ⟨rfl, .refl _⟩
 ·have hb := number_bad (l := l) (fun hg => by omega)
  (with_reducible refine hE _ _ _ _ (nomatch ·) ?_)
  (repeat simp only[push_cast,go_sem_proc,↓ite_only,M_block])
  ((with_reducible refine hX _ _ _ (fun j hj => nomatch hj) ?_); simp only[push_cast,go_sem_proc,↓ite_only,M_block,Tryz.results41])
  rw [hb]
  exact ⟨rfl, .refl _⟩
 ·refine hR _ _ (l.length - (k + 1)) (by omega) ⟨k + 1, by omega, by omega, by omega, rfl, (by simp only[zT,Nat.reduceBEq];rfl), ‹_›, ‹_›, ?_, all_snoc (by omega) hall (by simp [figB]; omega)⟩
  simp only [tget_cons, Nat.reduceBEq, tsel_true, tsel_false]
  rw [decN_snoc l k (by omega), hD]
  refine congrArg (Value.int .i64) ?_
  have := (nth l k).toNat_lt
  omega
 ·have hb := number_bad (l := l) (fun hg => by rw [all_no (k := k) (by omega) (by simp [figB]; omega)] at hg; exact Bool.noConfusion hg.1)
  (with_reducible refine hE _ _ _ _ (nomatch ·) ?_)
  (repeat simp only[push_cast,go_sem_proc,↓ite_only,M_block])
  ((with_reducible refine hX _ _ _ (fun j hj => nomatch hj) ?_); simp only[push_cast,go_sem_proc,↓ite_only,M_block,Tryz.results41])
  rw [hb]
  exact ⟨rfl, .refl _⟩
 ·have hke : k = l.length := by omega
  subst hke
  rw [List.take_length] at hall hD
  have hb := number_good (l := l) hall hk10
  (with_reducible refine hE _ _ _ _ (nomatch ·) ?_)
  (repeat simp only[push_cast,go_sem_proc,↓ite_only,M_block,t4, t0])
  ((with_reducible refine hX _ _ _ (fun j hj => nomatch hj) ?_); simp only[push_cast,go_sem_proc,↓ite_only,M_block,Tryz.results41])
  rw [hb, hD]
  exact ⟨by cases l <;> rfl, .refl _⟩
end Go.Proofs.YtbjaapiliegegaaGreatDoor.Sy
end
section
namespace Go.Proofs.YtbjaapiliegegaaGreatDoor.Sy
open Go
set_option maxRecDepth 100000
variable {w0 : World} {h : Heap}
abbrev Str := List UInt8
abbrev Fld := List UInt8 × List UInt8
def fcells : List Fld → List Value
 | [] => []
 | f :: l => S f.1 :: S f.2 :: fcells l
def Strs (lo : Nat) (h : Heap) (v : Value) (ss : List Str) : Prop := Row lo h 9 1 v ss.length (ss.map S)
def Flds (lo : Nat) (h : Heap) (v : Value) (fs : List Fld) : Prop := Row lo h 60 2 v fs.length (fcells fs)
def snth (l : List Str) (k : Nat) : Str := l.getD k []
def fnth (l : List Fld) (k : Nat) : Fld := l.getD k ([], [])
theorem snth_get {l : List Str} {k : Nat} (h : k < l.length) : l[k]? = some (snth l k) := by
 unfold snth
 rw [List.getD_eq_getElem?_getD, List.getElem?_eq_getElem h]
 rfl
theorem fnth_get {l : List Fld} {k : Nat} (h : k < l.length) : l[k]? = some (fnth l k) := by
 unfold fnth
 rw [List.getD_eq_getElem?_getD, List.getElem?_eq_getElem h]
 rfl
theorem fcells_app : ∀ (a b : List Fld), fcells (a ++ b) = fcells a ++ fcells b
 | [], _ => rfl
 | f :: a, b => by simp [fcells, fcells_app a b]
theorem fcells_len : ∀ (a : List Fld), (fcells a).length = a.length * 2
 | [] => rfl
 | f :: a => by simp [fcells, fcells_len a]; omega
theorem fcells_get : ∀ (l : List Fld) (k : Nat) (r : List Value), k < l.length → ((fcells l ++ r).drop (k * 2)).take 2 = [S (fnth l k).1, S (fnth l k).2]
 | [], _, _, h => by simp at h
 | f :: l, 0, r, _ => rfl
 | f :: l, k + 1, r, h => by
  have e : (k + 1) * 2 = k * 2 + 2 := by omega
  rw [e]
  exact fcells_get l k r (by simpa using h)
theorem Row.at {lo e z n k : Nat} {v : Value} {cs : List Value} (r : Row lo h e z v n cs) (hk : k < n) : ∃ b cp rest, v = .slice (some ⟨b, 0, none⟩) n cp ∧ lo ≤ b ∧ b < h.n ∧ h.at b = some (.cells (cs ++ rest) e 0 0) := by
 rcases r with ⟨_, rfl, _⟩ | ⟨b, cp, rest, h1, h2, h3, h4, _⟩
 ·omega
 ·exact ⟨b, cp, rest, h1, h2, h3, h4⟩
theorem str_get {ss : List Str} {k : Nat} (rest : List Value) (hk : k < ss.length) : (ss.map S ++ rest)[k]? = some (S (snth ss k)) := by
 rw [List.getElem?_append_left (by rw [List.length_map]; exact hk), List.getElem?_map, snth_get hk]
 rfl
theorem fld_load {b k lo hi : Nat} {e : TypeId} {fs : List Fld} {rest : List Value} (hat : h.at b = some (.cells (fcells fs ++ rest) e lo hi)) (hk : k < fs.length) : loadN h b (k * 2) 2 = some [S (fnth fs k).1, S (fnth fs k).2] := by
 rw [loadN_eq, hat, loadC_some, only_pos (by rw [List.length_append, fcells_len]; omega), fcells_get fs k rest hk]
theorem app_str {lo c b : Nat} {v : Value} {ss : List Str} {x : Str} {N : Nat} (r : Strs lo h v ss) (hN : N ≤ lo) (hlo : lo ≤ h.n) (hat : h.at b = some (.cells [S x] 9 0 0)) (hbig : ss.length + 1 ≤ 2 ^ 32) :
  ∃ v' h', aappend N Tryz.prog h #[88, 88] v (.slice (some ⟨b, 0, none⟩) 1 1) c = some (v', h') ∧ Strs lo h' v' (ss ++ [x]) ∧ h.n ≤ h'.n ∧ (∀ b, b < h.n → Off b v → h'.at b = h.at b) ∧ (∀ b, ¬Off b v' → ¬Off b v ∨ h.n ≤ b) := by
 obtain ⟨v', h', e, r', h1, h2, h3⟩ := aappend_row (c := c) Tryz.underlying88 s_9 b_9 z_9 rfl (by decide) (by decide) hN hlo r (x := .slice (some ⟨b, 0, none⟩) 1 1) (m := 1) (new := [S x])
  (by simp only [tailOf, lenOf, firstN, loadN_eq, hat, loadC_some]; rw [only_pos (by simp)]; rfl) rfl (by intro v hv; simp at hv; subst hv; rfl) hbig
 refine ⟨v', h', e, ?_, h1, h2, h3⟩
 unfold Strs
 rw [List.length_append, List.map_append]
 exact r'
theorem app_fld {lo c b : Nat} {v : Value} {fs : List Fld} {x : Fld} {N : Nat} (r : Flds lo h v fs) (hN : N ≤ lo) (hlo : lo ≤ h.n) (hat : h.at b = some (.cells [S x.1, S x.2] 60 0 0)) (hbig : fs.length + 1 ≤ 2 ^ 32) :
  ∃ v' h', aappend N Tryz.prog h #[29, 29] v (.slice (some ⟨b, 0, none⟩) 1 1) c = some (v', h') ∧ Flds lo h' v' (fs ++ [x]) ∧ h.n ≤ h'.n ∧ (∀ b, b < h.n → Off b v → h'.at b = h.at b) ∧ (∀ b, ¬Off b v' → ¬Off b v ∨ h.n ≤ b) := by
 obtain ⟨v', h', e, r', h1, h2, h3⟩ := aappend_row (c := c) Tryz.underlying29 s_60 b_60 z_60 rfl (by decide) (by decide) hN hlo r (x := .slice (some ⟨b, 0, none⟩) 1 1) (m := 1) (new := [S x.1, S x.2])
  (by simp only [tailOf, lenOf, firstN, loadN_eq, hat, loadC_some]; rw [only_pos (by simp)]; rfl) rfl (by intro v hv; simp at hv; rcases hv with rfl | rfl <;> rfl) hbig
 refine ⟨v', h', e, ?_, h1, h2, h3⟩
 unfold Flds
 rw [List.length_append, fcells_app]
 exact r'
end Go.Proofs.YtbjaapiliegegaaGreatDoor.Sy
end
