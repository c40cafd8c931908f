/- Of the proof of FnNoBody: SfA SfB SfC. -/
import Derived.Test.YtbjaapiliegegaaGreatDoorSeE
import Derived.Test.YtbjaapiliegegaaGreatDoorNb10
set_option linter.unusedVariables false
set_option linter.unusedSimpArgs false
section
namespace Go.Proofs.YtbjaapiliegegaaGreatDoor.Sy
open Go
set_option maxRecDepth 100000
variable {w0 : World} {h : Heap}
def lowX (n : Nat) : Int := ((BitVec.ofInt IntKind.u8.bits (n : Int) ||| BitVec.ofInt IntKind.u8.bits 32).toNat : Int) % 256
theorem slower_ok (c : UInt8) : ACall Tryz.prog w0 128 [B c] h (fun v h' => v = .int .u8 (lowX c.toNat) ∧ h' = h) := by
 refine ACall.known fun hKn => ?_
 obtain ⟨hN, hB⟩ := hKn
 refine ACall.run noCount mixed Tryz.func128 rfl (by kernel_rfl) (Nat.le_of_ble_eq_true rfl) fun X hX => ?_
 (repeat simp only[push_cast,go_sem_proc,↓ite_only,M_block])
 ((with_reducible refine hX _ _ _ (fun j hj => nomatch hj) ?_); simp only[push_cast,go_sem_proc,↓ite_only,M_block,Tryz.results128])
 rfl
def UintOut (s : Str) (v : Value) : Prop := ∃ (x : Int) (e : Value), v = .tuple #[.int .u64 x, e] ∧ (e = .nilIface ∨ ∃ t y, e = .iface t y) ∧ (s.all figB = false → e ≠ .nilIface) ∧ (e = .nilIface → 0 ≤ x ∧ x < 9223372036854775808 ∧ s.all figB = true ∧ x = decN s) ∧ (s.all figB = true → s.length ≤ 10 → e = .nilIface)
set_option maxHeartbeats 8000000 in
theorem uint95_ok (s : Str) (h0 : s ≠ []) (hl : s.length < 1000000000) :
  ACall Tryz.prog w0 95 [S s, I 10, I 63] h (fun v h' => UintOut s v ∧ Ext h h') := by
 refine ACall.known fun hKn => ?_
 obtain ⟨hN, hB⟩ := hKn
 refine ACall.run noCount mixed Tryz.func95 rfl (by kernel_rfl) (Nat.le_of_ble_eq_true rfl) fun X hX => ?_
 have hl0 : 0 < s.length := List.length_pos_iff.2 h0
 (repeat(first|(simp(disch:=omega)only[push_cast,go_sem_proc,↓ite_only,M_block,h0])|(with_reducible refine⟨by omega,?_⟩)))
 intro c
 generalize hrm : room s.length c = rm
 have hrm1 : s.length ≤ rm := by rw [← hrm]; exact room_ge _ _
 generalize h1e : h.new _ = h1
 have hat1 : h1.at h.n = some (.cells (byteVals s ++ List.replicate (rm - s.length) (.int .u8 0)) 5 rm (rm + 1)) := by rw [← h1e]; exact at_new_eq _ _
 have hx1 : Ext h h1 := by rw [← h1e]; exact (Ext.refl _).new _
 have hX' : ∀ (tm : Tm) (x : Int) (e : Value), tget tm 6 = .int .u64 x → tget tm 7 = e → UintOut s (.tuple #[.int .u64 x, e]) → X .ret tm [] h1 := by
  intro tm x e t6 t7 hu
  ((with_reducible refine hX _ _ _ (fun j hj => nomatch hj) ?_); simp only[push_cast,go_sem_proc,↓ite_only,M_block,Tryz.results95,t6, t7])
  exact ⟨hu, hx1⟩
 have m10a : (10 : Int) % 256 = 10 := by decide
 have m10b : (10 : Int) % 18446744073709551616 = 10 := by decide
 have hbad : s.all figB = false → ∀ x t y, UintOut s (.tuple #[.int .u64 x, .iface t y]) := fun hf x t y => ⟨x, _, rfl, .inr ⟨t, y, rfl⟩, fun _ => by simp, fun e => by simp at e, fun e => by rw [hf] at e; cases e⟩
 (repeat(first|(simp only[push_cast,go_sem_proc,↓ite_only,M_block])|(with_reducible refine⟨by omega,?_⟩)))
 refine M_loop (fun tm h' n => ∃ (k m : Nat), k ≤ s.length ∧ n = s.length - k ∧ h' = h1 ∧ tget tm 1 = I 10 ∧ tget tm 8 = .bool false ∧ tget tm 10 = .int .u64 1844674407370955162 ∧ tget tm 11 = .int .u64 9223372036854775807 ∧ tget tm 12 = .bool false ∧ tget tm 13 = .int .u64 m ∧ tget tm 99 = .slice (some ⟨h.n, 0, none⟩) s.length rm ∧ tget tm 100 = I s.length ∧ tget tm 101 = I k ∧ tget tm 9 = S s ∧
   m ≤ 9223372036854775807 ∧ (s.take k).all figB = true ∧ m = decN (s.take k)) s.length
  ⟨0, 0, by omega, by omega, rfl, (by simp only[zT,Nat.reduceBEq]), (by simp only[zT,Nat.reduceBEq]), (by simp only[zT,Nat.reduceBEq]), (by simp only[zT,Nat.reduceBEq];rfl), (by simp only[zT,Nat.reduceBEq]), (by simp only[zT,Nat.reduceBEq];rfl), (by simp only[zT,Nat.reduceBEq]), (by simp only[zT,Nat.reduceBEq]), (by simp only[zT,Nat.reduceBEq];rfl), (by simp only[zT,Nat.reduceBEq]), by omega, rfl, rfl⟩ ?_
 rintro tm1 h2 n R ⟨k, m, hk, rfl, rfl, t1, t8, t10, t11, t12, t13, t99, t100, t101, t9, hm, hall, hdec⟩ hR hE
 rcases Nat.lt_or_ge k s.length with hlt | hge
 ·have hp : decide ((k : Int) < (s.length : Int)) = true := decide_eq_true (by omega)
  have hg := byteVals_app_get s (List.replicate (rm - s.length) (.int .u8 0)) k hlt
  have hclt := (nth s k).toNat_lt
  generalize hc : nth s k = ch at hg hclt
  have h95 : decide ((ch.toNat : Int) = 95) = decide (ch.toNat = 95) := by congr 1; exact propext ⟨fun e => by omega, fun e => by omega⟩
  by_cases hfig : figB ch = true
  ·have hf2 : 48 ≤ ch.toNat ∧ ch.toNat ≤ 57 := by simpa [figB] using hfig
   have hn95 : decide ((ch.toNat : Int) = 95) = false := decide_eq_false (by omega)
   have hge48 : decide ((48 : Int) ≤ (ch.toNat : Int)) = true := decide_eq_true (by omega)
   have hle57 : decide ((ch.toNat : Int) ≤ 57) = true := decide_eq_true (by omega)
   have hd : ((ch.toNat : Int) - 48) % 256 = (ch.toNat : Int) - 48 := by omega
   have hd2 : ((ch.toNat : Int) - 48) % 18446744073709551616 = (ch.toNat : Int) - 48 := by omega
   have hd10 : decide ((10 : Int) ≤ (ch.toNat : Int) - 48) = false := decide_eq_false (by omega)
   have hsn := decN_snoc s k hlt
   rw [hc, ← hdec] at hsn
   have hall2 : (s.take (k + 1)).all figB = true := all_snoc hlt hall (by rw [hc]; exact hfig)
   have hbig : s.all figB = true → s.length ≤ 10 → 10 * m + (ch.toNat - 48) < 10000000000 := by
    intro h1 h2
    have h3 := decN_lt (k + 1) s (by omega) hall2
    rw [hsn] at h3
    have : 10 ^ (k + 1) ≤ 10 ^ 10 := Nat.pow_le_pow_right (by omega) (by omega)
    omega
   have herr : (9223372036854775807 < 10 * m + (ch.toNat - 48)) → ∀ x t y, UintOut s (.tuple #[.int .u64 x, .iface t y]) := fun hb x t y =>
    ⟨x, _, rfl, .inr ⟨t, y, rfl⟩, fun _ => by simp, fun e => by simp at e, fun e1 e2 => by have := hbig e1 e2; omega⟩
   by_cases hcut : 1844674407370955162 ≤ m
   ·have hc1 : decide ((1844674407370955162 : Int) ≤ (m : Int)) = true := decide_eq_true (by omega)
    (repeat(first|(simp only[push_cast,go_sem_proc,↓ite_only,M_block,t1, t8, t10, t11, t12, t13, t99, t100, t101, hp, hat1, hg, hn95, hge48, hle57, hd, hd10, hc1, m10a, m10b])|(with_reducible refine⟨by omega,?_⟩)))
    (with_reducible refine hE _ _ _ _ (nomatch ·) ?_)
    (repeat simp only[push_cast,go_sem_proc,↓ite_only,M_block])
    exact hX' _ _ _ (by simp only[zT,Nat.reduceBEq];rfl) (by simp only[zT,Nat.reduceBEq];rfl) (herr (by omega) _ _ _)
   ·have hc1 : decide ((1844674407370955162 : Int) ≤ (m : Int)) = false := decide_eq_false (by omega)
    have hm10 : (m : Int) * 10 % 18446744073709551616 = (m : Int) * 10 := by omega
    by_cases hr : 10 * m + (ch.toNat - 48) ≤ 9223372036854775807
    ·have hn1 : ((m : Int) * 10 + ((ch.toNat : Int) - 48)) % 18446744073709551616 = (m : Int) * 10 + ((ch.toNat : Int) - 48) := by omega
     have hq1 : decide ((m : Int) * 10 + ((ch.toNat : Int) - 48) < (m : Int) * 10) = false := decide_eq_false (by omega)
     have hq2 : decide ((9223372036854775807 : Int) < (m : Int) * 10 + ((ch.toNat : Int) - 48)) = false := decide_eq_false (by omega)
     (repeat(first|(simp(disch:=omega)only[push_cast,go_sem_proc,↓ite_only,M_block,t1, t8, t10, t11, t12, t13, t99, t100, t101, hp, hat1, hg, hn95, hge48, hle57, hd, hd2, hd10, hc1, hm10, hn1, hq1, hq2, m10a, m10b])|(with_reducible refine⟨by omega,?_⟩)))
     have hcast : ((10 * m + (ch.toNat - 48) : Nat) : Int) = (m : Int) * 10 + ((ch.toNat : Int) - 48) := by omega
     exact hR _ _ (s.length - (k + 1)) (by omega) ⟨k + 1, 10 * m + (ch.toNat - 48), by omega, rfl, rfl, ‹_›, ‹_›, ‹_›, ‹_›, ‹_›, by rw [hcast]; exact (by simp only[zT,Nat.reduceBEq]), ‹_›, ‹_›, (by simp only[zT,Nat.reduceBEq];rfl), ‹_›, hr, hall2, hsn.symm⟩
    ·by_cases hw : 10 * m + (ch.toNat - 48) < 18446744073709551616
     ·have hn1 : ((m : Int) * 10 + ((ch.toNat : Int) - 48)) % 18446744073709551616 = (m : Int) * 10 + ((ch.toNat : Int) - 48) := by omega
      have hq1 : decide ((m : Int) * 10 + ((ch.toNat : Int) - 48) < (m : Int) * 10) = false := decide_eq_false (by omega)
      have hq2 : decide ((9223372036854775807 : Int) < (m : Int) * 10 + ((ch.toNat : Int) - 48)) = true := decide_eq_true (by omega)
      (repeat(first|(simp only[push_cast,go_sem_proc,↓ite_only,M_block,t1, t8, t10, t11, t12, t13, t99, t100, t101, hp, hat1, hg, hn95, hge48, hle57, hd, hd2, hd10, hc1, hm10, hn1, hq1, hq2, m10a, m10b])|(with_reducible refine⟨by omega,?_⟩)))
      (with_reducible refine hE _ _ _ _ (nomatch ·) ?_)
      (repeat simp only[push_cast,go_sem_proc,↓ite_only,M_block])
      exact hX' _ _ _ (by simp only[zT,Nat.reduceBEq];rfl) (by simp only[zT,Nat.reduceBEq];rfl) (herr (by omega) _ _ _)
     ·have hn1 : ((m : Int) * 10 + ((ch.toNat : Int) - 48)) % 18446744073709551616 = (m : Int) * 10 + ((ch.toNat : Int) - 48) - 18446744073709551616 := by omega
      have hq1 : decide ((m : Int) * 10 + ((ch.toNat : Int) - 48) - 18446744073709551616 < (m : Int) * 10) = true := decide_eq_true (by omega)
      (repeat(first|(simp only[push_cast,go_sem_proc,↓ite_only,M_block,t1, t8, t10, t11, t12, t13, t99, t100, t101, hp, hat1, hg, hn95, hge48, hle57, hd, hd2, hd10, hc1, hm10, hn1, hq1, m10a, m10b])|(with_reducible refine⟨by omega,?_⟩)))
      (with_reducible refine hE _ _ _ _ (nomatch ·) ?_)
      (repeat simp only[push_cast,go_sem_proc,↓ite_only,M_block])
      exact hX' _ _ _ (by simp only[zT,Nat.reduceBEq];rfl) (by simp only[zT,Nat.reduceBEq];rfl) (herr (by omega) _ _ _)
  ·
   have hnf : s.all figB = false := all_no hlt (by rw [hc]; simpa using hfig)
   have hfail : ∀ tm, (∃ t y, tget tm 7 = .iface t y) → tget tm 6 = .int .u64 0 → X .ret tm [] h2 := by
    rintro tm ⟨t, y, t7⟩ t6
    exact hX' tm _ _ t6 t7 (hbad hnf _ _ _)
   have hy : 0 ≤ lowX ch.toNat ∧ lowX ch.toNat < 256 := by unfold lowX; omega
   have hnn : (decide ((48 : Int) ≤ (ch.toNat : Int)) = false ∧ decide ((48 : Int) ≤ (ch.toNat : Int)) = false) ∨ (decide ((48 : Int) ≤ (ch.toNat : Int)) = true ∧ decide ((ch.toNat : Int) ≤ 57) = false) := by
    by_cases h1 : 48 ≤ ch.toNat
    ·right
     exact ⟨decide_eq_true (by omega), decide_eq_false (fun e => hfig (by simp [figB]; omega))⟩
    ·left; exact ⟨decide_eq_false (by omega), decide_eq_false (by omega)⟩
   obtain ⟨x95, hx95⟩ : ∃ x, decide ((ch.toNat : Int) = 95) = x := ⟨_, rfl⟩
   generalize hyv : lowX ch.toNat = y at hy
   have hlow : ∀ {h' : Heap}, ACall Tryz.prog w0 128 [B ch] h' (fun v h'' => v = .int .u8 y ∧ h'' = h') := fun {h'} => by
    rw [← hyv]; exact slower_ok ch
   rcases hnn with ⟨q1, q2⟩ | ⟨q1, q2⟩ <;> cases x95 <;>
   ·(repeat(first|(simp only[push_cast,go_sem_proc,↓ite_only,M_block,t1, t8, t10, t11, t12, t13, t99, t100, t101, hp, hat1, hg, hx95, q1, q2])|(with_reducible refine⟨by omega,?_⟩)))
    refine callM_of hlow ?_
    rintro v h3 ⟨rfl, rfl⟩
    by_cases h97 : 97 ≤ y
    ·have hq97 : decide ((97 : Int) ≤ y) = true := decide_eq_true h97
     (repeat simp only[push_cast,go_sem_proc,↓ite_only,M_block,hq97])
     refine callM_of hlow ?_
     rintro v h4 ⟨rfl, rfl⟩
     by_cases h122 : y ≤ 122
     ·have hq122 : decide (y ≤ (122 : Int)) = true := decide_eq_true h122
      (repeat simp only[push_cast,go_sem_proc,↓ite_only,M_block,hq122])
      refine callM_of hlow ?_
      rintro v h5 ⟨rfl, rfl⟩
      have hw1 : (y - 97) % 256 = y - 97 := by omega
      have hw2 : (y - 97 + 10) % 256 = y - 97 + 10 := by omega
      have hq10 : decide ((10 : Int) ≤ y - 97 + 10) = true := decide_eq_true (by omega)
      (repeat simp only[push_cast,go_sem_proc,↓ite_only,M_block,t1, hw1, hw2, hq10, m10a])
      (with_reducible refine hE _ _ _ _ (nomatch ·) ?_)
      (repeat simp only[push_cast,go_sem_proc,↓ite_only,M_block])
      exact hfail _ ⟨_, _, (by simp only[zT,Nat.reduceBEq];rfl)⟩ (by simp only[zT,Nat.reduceBEq])
     ·have hq122 : decide (y ≤ (122 : Int)) = false := decide_eq_false h122
      (repeat simp only[push_cast,go_sem_proc,↓ite_only,M_block,hq122])
      (with_reducible refine hE _ _ _ _ (nomatch ·) ?_)
      (repeat simp only[push_cast,go_sem_proc,↓ite_only,M_block])
      exact hfail _ ⟨_, _, (by simp only[zT,Nat.reduceBEq];rfl)⟩ (by simp only[zT,Nat.reduceBEq])
    ·have hq97 : decide ((97 : Int) ≤ y) = false := decide_eq_false h97
     (repeat simp only[push_cast,go_sem_proc,↓ite_only,M_block,hq97])
     (with_reducible refine hE _ _ _ _ (nomatch ·) ?_)
     (repeat simp only[push_cast,go_sem_proc,↓ite_only,M_block])
     exact hfail _ ⟨_, _, (by simp only[zT,Nat.reduceBEq];rfl)⟩ (by simp only[zT,Nat.reduceBEq])
 ·have hk' : k = s.length := by omega
  subst hk'
  rw [List.take_length] at hall hdec
  have hp : decide ((s.length : Int) < (s.length : Int)) = false := decide_eq_false (by omega)
  (repeat simp only[push_cast,go_sem_proc,↓ite_only,M_block,t100, t101, hp])
  (with_reducible refine hE _ _ _ _ (nomatch ·) ?_)
  (repeat simp only[push_cast,go_sem_proc,↓ite_only,M_block,t12, t13])
  exact hX' _ _ _ (by simp only[zT,Nat.reduceBEq]) (by simp only[zT,Nat.reduceBEq]) ⟨m, _, rfl, .inl rfl, (fun e => by rw [hall] at e; cases e), fun _ => ⟨by omega, by omega, hall, by rw [hdec]⟩, fun _ _ => rfl⟩
end Go.Proofs.YtbjaapiliegegaaGreatDoor.Sy
end
section
namespace Go.Proofs.YtbjaapiliegegaaGreatDoor.Sy
open Go
set_option maxRecDepth 100000
variable {w0 : World} {h : Heap}
def spB (c : UInt8) : Bool := decide (c.toNat = 32) || decide (c.toNat = 9) || decide (c.toNat = 10) || decide (c.toNat = 13)
def trimP (p : UInt8 → Bool) (l : Str) : Str := ((l.dropWhile p).reverse.dropWhile p).reverse
theorem trimOWS_byte (c : UInt8) : ACall Tryz.prog w0 236 [B c] h (fun v h' => v = .bool (blankB c) ∧ h' = h) := by
 refine ACall.known fun hKn => ?_
 obtain ⟨hN, hB⟩ := hKn
 refine ACall.run noCount mixed Tryz.func236 rfl (by kernel_rfl) (Nat.le_of_ble_eq_true rfl) fun X hX => ?_
 by_cases h32 : c.toNat = 32
 ·have q : ((c.toNat : Int)) = 32 := by omega
  (repeat simp only[push_cast,go_sem_proc,↓ite_only,M_block,q])
  ((with_reducible refine hX _ _ _ (fun j hj => nomatch hj) ?_); simp only[push_cast,go_sem_proc,↓ite_only,M_block,Tryz.results236])
  unfold blankB blankN; simp [h32]
 have q32 : decide ((c.toNat : Int) = 32) = false := decide_eq_false (by omega)
 by_cases h9 : c.toNat = 9
 ·have q : ((c.toNat : Int)) = 9 := by omega
  have q32' : decide ((9 : Int) = 32) = false := by decide
  (repeat simp only[push_cast,go_sem_proc,↓ite_only,M_block,q])
  ((with_reducible refine hX _ _ _ (fun j hj => nomatch hj) ?_); simp only[push_cast,go_sem_proc,↓ite_only,M_block,Tryz.results236])
  unfold blankB blankN; simp [h9]
 have q9 : decide ((c.toNat : Int) = 9) = false := decide_eq_false (by omega)
 (repeat simp only[push_cast,go_sem_proc,↓ite_only,M_block,q32, q9])
 ((with_reducible refine hX _ _ _ (fun j hj => nomatch hj) ?_); simp only[push_cast,go_sem_proc,↓ite_only,M_block,Tryz.results236])
 unfold blankB blankN; simp [h32, h9]
set_option maxHeartbeats 4000000 in
theorem trimOWS_ok (s : Str) (hl : s.length < 1099511627776) : ACall Tryz.prog w0 219 [S s] h (fun v h' => v = S (trimP blankB s) ∧ h' = h) := by
 refine ACall.known fun hKn => ?_
 obtain ⟨hN, hB⟩ := hKn
 refine ACall.run noCount mixed Tryz.func219 rfl (by kernel_rfl) (Nat.le_of_ble_eq_true rfl) fun X hX => ?_
 (repeat simp only[push_cast,go_sem_proc,↓ite_only])
 refine M_cut (fun tm h1 => h1 = h ∧ tget tm 0 = S (s.dropWhile blankB)) (fun R2 hR2 hE2 => ?_) ?_
 ·(repeat simp only[push_cast,go_sem_proc,↓ite_only,M_block])
  refine M_loop (fun tm h1 n => ∃ x : Str, n = x.length ∧ h1 = h ∧ tget tm 0 = S x ∧ x.length ≤ s.length ∧ x.dropWhile blankB = s.dropWhile blankB) s.length ⟨s, rfl, rfl, (by simp only[zT,Nat.reduceBEq]), Nat.le_refl _, rfl⟩ ?_
  rintro tm1 h1 n R ⟨x, rfl, rfl, t0, hx, hdw⟩ hR hE
  rcases Nat.eq_zero_or_pos x.length with h0 | h0
  ·have hp : decide ((0 : Int) < (x.length : Int)) = false := decide_eq_false (by omega)
   have hxn := List.eq_nil_of_length_eq_zero h0
   (repeat simp only[push_cast,go_sem_proc,↓ite_only,M_block,t0, hp])
   (with_reducible refine hE _ _ _ _ (nomatch ·) ?_)
   (repeat simp only[push_cast,go_sem_proc,↓ite_only,M_block])
   exact hR2 _ _ ⟨rfl, by rw [← hdw, hxn]; rw [hxn] at t0; assumption⟩
  ·have hp : decide ((0 : Int) < (x.length : Int)) = true := decide_eq_true (by omega)
   have hd1 : (x.take x.length).drop 1 = x.drop 1 := by rw [List.take_length]
   (repeat(first|(simp only[push_cast,go_sem_proc,↓ite_only,M_block,t0, hp])|(with_reducible refine⟨by omega,?_⟩)))
   refine callM_of (trimOWS_byte _) ?_
   rintro v h2 ⟨rfl, rfl⟩
   cases hb : blankB (nth x 0) with
   | true =>
    (repeat(first|(simp only[push_cast,go_sem_proc,↓ite_only,M_block,t0, hd1])|(with_reducible refine⟨by omega,?_⟩)))
    exact hR _ _ (x.drop 1).length (by rw [List.length_drop]; omega) ⟨x.drop 1, rfl, rfl, (by simp only[zT,Nat.reduceBEq]), by rw [List.length_drop]; omega, by rw [← dw_go h0 hb, hdw]⟩
   | false =>
    (repeat simp only[push_cast,go_sem_proc,↓ite_only,M_block])
    (with_reducible refine hE _ _ _ _ (nomatch ·) ?_)
    (repeat simp only[push_cast,go_sem_proc,↓ite_only,M_block])
    refine hR2 _ _ ⟨rfl, ?_⟩
    rw [← hdw, dw_stop (.inr hb)]
    assumption
 ·rintro tm1 h1 ⟨rfl, t0⟩
  have hx0 : (s.dropWhile blankB).length ≤ s.length := (List.dropWhile_suffix _).length_le
  generalize hx : s.dropWhile blankB = x0 at t0 hx0
  (repeat simp only[push_cast,go_sem_proc,↓ite_only,M_block])
  refine M_loop (fun tm h2 n => ∃ x : Str, n = x.length ∧ h2 = h1 ∧ tget tm 0 = S x ∧ x.length ≤ s.length ∧ (x.reverse.dropWhile blankB).reverse = (x0.reverse.dropWhile blankB).reverse) x0.length ⟨x0, rfl, rfl, ‹_›, hx0, rfl⟩ ?_
  rintro tm2 h2 n R ⟨x, rfl, rfl, t0, hxl, hdw⟩ hR hE
  rcases Nat.eq_zero_or_pos x.length with h0 | h0
  ·have hp : decide ((0 : Int) < (x.length : Int)) = false := decide_eq_false (by omega)
   have hxn := List.eq_nil_of_length_eq_zero h0
   (repeat simp only[push_cast,go_sem_proc,↓ite_only,M_block,t0, hp])
   (with_reducible refine hE _ _ _ _ (nomatch ·) ?_)
   (repeat simp only[push_cast,go_sem_proc,↓ite_only,M_block,t0])
   ((with_reducible refine hX _ _ _ (fun j hj => nomatch hj) ?_); simp only[push_cast,go_sem_proc,↓ite_only,M_block,Tryz.results219])
   unfold trimP
   rw [hx, ← hdw, hxn]
   rfl
  ·have hp : decide ((0 : Int) < (x.length : Int)) = true := decide_eq_true (by omega)
   have hlm : ((x.length : Int) - 1).toNat = x.length - 1 := by omega
   (repeat(first|(simp(disch:=omega)only[push_cast,go_sem_proc,↓ite_only,M_block,t0, hp, hlm])|(with_reducible refine⟨by omega,?_⟩)))
   refine callM_of (trimOWS_byte _) ?_
   rintro v h3 ⟨rfl, rfl⟩
   have hrl : 0 < x.reverse.length := by rw [List.length_reverse]; exact h0
   cases hb : blankB (nth x (x.length - 1)) with
   | true =>
    (repeat(first|(simp(disch:=omega)only[push_cast,go_sem_proc,↓ite_only,M_block,t0, hlm])|(with_reducible refine⟨by omega,?_⟩)))
    refine hR _ _ (x.take (x.length - 1)).length (by rw [List.length_take]; omega) ⟨x.take (x.length - 1), rfl, rfl, (by simp only[zT,Nat.reduceBEq]), by rw [List.length_take]; omega, ?_⟩
    rw [← hdw, dw_go hrl (by rw [nth_rev h0]; exact hb), List.drop_reverse]
   | false =>
    (repeat simp only[push_cast,go_sem_proc,↓ite_only,M_block])
    (with_reducible refine hE _ _ _ _ (nomatch ·) ?_)
    (repeat simp only[push_cast,go_sem_proc,↓ite_only,M_block,t0])
    ((with_reducible refine hX _ _ _ (fun j hj => nomatch hj) ?_); simp only[push_cast,go_sem_proc,↓ite_only,M_block,Tryz.results219])
    unfold trimP
    rw [hx, ← hdw, dw_stop (x := x.reverse) (.inr (by rw [nth_rev h0]; exact hb)), List.reverse_reverse]
theorem trimString_byte (c : UInt8) : ACall Tryz.prog w0 201 [B c] h (fun v h' => v = .bool (spB c) ∧ h' = h) := by
 refine ACall.known fun hKn => ?_
 obtain ⟨hN, hB⟩ := hKn
 refine ACall.run noCount mixed Tryz.func201 rfl (by kernel_rfl) (Nat.le_of_ble_eq_true rfl) fun X hX => ?_
 by_cases h32 : c.toNat = 32
 ·have q : ((c.toNat : Int)) = 32 := by omega
  (repeat simp only[push_cast,go_sem_proc,↓ite_only,M_block,q])
  ((with_reducible refine hX _ _ _ (fun j hj => nomatch hj) ?_); simp only[push_cast,go_sem_proc,↓ite_only,M_block,Tryz.results201])
  unfold spB; simp [h32]
 have q32 : decide ((c.toNat : Int) = 32) = false := decide_eq_false (by omega)
 by_cases h9 : c.toNat = 9
 ·have q : ((c.toNat : Int)) = 9 := by omega
  have q32' : decide ((9 : Int) = 32) = false := by decide
  (repeat simp only[push_cast,go_sem_proc,↓ite_only,M_block,q])
  ((with_reducible refine hX _ _ _ (fun j hj => nomatch hj) ?_); simp only[push_cast,go_sem_proc,↓ite_only,M_block,Tryz.results201])
  unfold spB; simp [h9]
 have q9 : decide ((c.toNat : Int) = 9) = false := decide_eq_false (by omega)
 by_cases h10 : c.toNat = 10
 ·have q : ((c.toNat : Int)) = 10 := by omega
  (repeat simp only[push_cast,go_sem_proc,↓ite_only,M_block,q])
  ((with_reducible refine hX _ _ _ (fun j hj => nomatch hj) ?_); simp only[push_cast,go_sem_proc,↓ite_only,M_block,Tryz.results201])
  unfold spB; simp [h10]
 have q10 : decide ((c.toNat : Int) = 10) = false := decide_eq_false (by omega)
 by_cases h13 : c.toNat = 13
 ·have q : ((c.toNat : Int)) = 13 := by omega
  (repeat simp only[push_cast,go_sem_proc,↓ite_only,M_block,q])
  ((with_reducible refine hX _ _ _ (fun j hj => nomatch hj) ?_); simp only[push_cast,go_sem_proc,↓ite_only,M_block,Tryz.results201])
  unfold spB; simp [h13]
 have q13 : decide ((c.toNat : Int) = 13) = false := decide_eq_false (by omega)
 (repeat simp only[push_cast,go_sem_proc,↓ite_only,M_block,q32, q9, q10, q13])
 ((with_reducible refine hX _ _ _ (fun j hj => nomatch hj) ?_); simp only[push_cast,go_sem_proc,↓ite_only,M_block,Tryz.results201])
 unfold spB; simp [h32, h9, h10, h13]
set_option maxHeartbeats 4000000 in
theorem trimString_ok (s : Str) (hl : s.length < 1099511627776) : ACall Tryz.prog w0 152 [S s] h (fun v h' => v = S (trimP spB s) ∧ h' = h) := by
 refine ACall.known fun hKn => ?_
 obtain ⟨hN, hB⟩ := hKn
 refine ACall.run noCount mixed Tryz.func152 rfl (by kernel_rfl) (Nat.le_of_ble_eq_true rfl) fun X hX => ?_
 (repeat simp only[push_cast,go_sem_proc,↓ite_only])
 refine M_cut (fun tm h1 => h1 = h ∧ tget tm 0 = S (s.dropWhile spB)) (fun R2 hR2 hE2 => ?_) ?_
 ·(repeat simp only[push_cast,go_sem_proc,↓ite_only,M_block])
  refine M_loop (fun tm h1 n => ∃ x : Str, n = x.length ∧ h1 = h ∧ tget tm 0 = S x ∧ x.length ≤ s.length ∧ x.dropWhile spB = s.dropWhile spB) s.length ⟨s, rfl, rfl, (by simp only[zT,Nat.reduceBEq]), Nat.le_refl _, rfl⟩ ?_
  rintro tm1 h1 n R ⟨x, rfl, rfl, t0, hx, hdw⟩ hR hE
  rcases Nat.eq_zero_or_pos x.length with h0 | h0
  ·have hp : decide ((0 : Int) < (x.length : Int)) = false := decide_eq_false (by omega)
   have hxn := List.eq_nil_of_length_eq_zero h0
   (repeat simp only[push_cast,go_sem_proc,↓ite_only,M_block,t0, hp])
   (with_reducible refine hE _ _ _ _ (nomatch ·) ?_)
   (repeat simp only[push_cast,go_sem_proc,↓ite_only,M_block])
   exact hR2 _ _ ⟨rfl, by rw [← hdw, hxn]; rw [hxn] at t0; assumption⟩
  ·have hp : decide ((0 : Int) < (x.length : Int)) = true := decide_eq_true (by omega)
   have hd1 : (x.take x.length).drop 1 = x.drop 1 := by rw [List.take_length]
   (repeat(first|(simp only[push_cast,go_sem_proc,↓ite_only,M_block,t0, hp])|(with_reducible refine⟨by omega,?_⟩)))
   refine callM_of (trimString_byte _) ?_
   rintro v h2 ⟨rfl, rfl⟩
   cases hb : spB (nth x 0) with
   | true =>
    (repeat(first|(simp only[push_cast,go_sem_proc,↓ite_only,M_block,t0, hd1])|(with_reducible refine⟨by omega,?_⟩)))
    exact hR _ _ (x.drop 1).length (by rw [List.length_drop]; omega) ⟨x.drop 1, rfl, rfl, (by simp only[zT,Nat.reduceBEq]), by rw [List.length_drop]; omega, by rw [← dw_go h0 hb, hdw]⟩
   | false =>
    (repeat simp only[push_cast,go_sem_proc,↓ite_only,M_block])
    (with_reducible refine hE _ _ _ _ (nomatch ·) ?_)
    (repeat simp only[push_cast,go_sem_proc,↓ite_only,M_block])
    refine hR2 _ _ ⟨rfl, ?_⟩
    rw [← hdw, dw_stop (.inr hb)]
    assumption
 ·rintro tm1 h1 ⟨rfl, t0⟩
  have hx0 : (s.dropWhile spB).length ≤ s.length := (List.dropWhile_suffix _).length_le
  generalize hx : s.dropWhile spB = x0 at t0 hx0
  (repeat simp only[push_cast,go_sem_proc,↓ite_only,M_block])
  refine M_loop (fun tm h2 n => ∃ x : Str, n = x.length ∧ h2 = h1 ∧ tget tm 0 = S x ∧ x.length ≤ s.length ∧ (x.reverse.dropWhile spB).reverse = (x0.reverse.dropWhile spB).reverse) x0.length ⟨x0, rfl, rfl, ‹_›, hx0, rfl⟩ ?_
  rintro tm2 h2 n R ⟨x, rfl, rfl, t0, hxl, hdw⟩ hR hE
  rcases Nat.eq_zero_or_pos x.length with h0 | h0
  ·have hp : decide ((0 : Int) < (x.length : Int)) = false := decide_eq_false (by omega)
   have hxn := List.eq_nil_of_length_eq_zero h0
   (repeat simp only[push_cast,go_sem_proc,↓ite_only,M_block,t0, hp])
   (with_reducible refine hE _ _ _ _ (nomatch ·) ?_)
   (repeat simp only[push_cast,go_sem_proc,↓ite_only,M_block,t0])
   ((with_reducible refine hX _ _ _ (fun j hj => nomatch hj) ?_); simp only[push_cast,go_sem_proc,↓ite_only,M_block,Tryz.results152])
   unfold trimP
   rw [hx, ← hdw, hxn]
   rfl
  ·have hp : decide ((0 : Int) < (x.length : Int)) = true := decide_eq_true (by omega)
   have hlm : ((x.length : Int) - 1).toNat = x.length - 1 := by omega
   (repeat(first|(simp(disch:=omega)only[push_cast,go_sem_proc,↓ite_only,M_block,t0, hp, hlm])|(with_reducible refine⟨by omega,?_⟩)))
   refine callM_of (trimString_byte _) ?_
   rintro v h3 ⟨rfl, rfl⟩
   have hrl : 0 < x.reverse.length := by rw [List.length_reverse]; exact h0
   cases hb : spB (nth x (x.length - 1)) with
   | true =>
    (repeat(first|(simp(disch:=omega)only[push_cast,go_sem_proc,↓ite_only,M_block,t0, hlm])|(with_reducible refine⟨by omega,?_⟩)))
    refine hR _ _ (x.take (x.length - 1)).length (by rw [List.length_take]; omega) ⟨x.take (x.length - 1), rfl, rfl, (by simp only[zT,Nat.reduceBEq]), by rw [List.length_take]; omega, ?_⟩
    rw [← hdw, dw_go hrl (by rw [nth_rev h0]; exact hb), List.drop_reverse]
   | false =>
    (repeat simp only[push_cast,go_sem_proc,↓ite_only,M_block])
    (with_reducible refine hE _ _ _ _ (nomatch ·) ?_)
    (repeat simp only[push_cast,go_sem_proc,↓ite_only,M_block,t0])
    ((with_reducible refine hX _ _ _ (fun j hj => nomatch hj) ?_); simp only[push_cast,go_sem_proc,↓ite_only,M_block,Tryz.results152])
    unfold trimP
    rw [hx, ← hdw, dw_stop (x := x.reverse) (.inr (by rw [nth_rev h0]; exact hb)), List.reverse_reverse]
theorem trimP_blank (l : Str) : trimP blankB l = trimB l := rfl
end Go.Proofs.YtbjaapiliegegaaGreatDoor.Sy
end
section
namespace Go.Proofs.YtbjaapiliegegaaGreatDoor.Sy
open Go
set_option maxRecDepth 100000
variable {w0 : World} {h : Heap}
@[push_cast] def p218_8 : Plan := [(0, []), (1, []), (3, []), (4, []), (5, []), (2, []), (6, []), (7, [])]
theorem get_nth {l : Str} {i : Nat} (hi : i < l.length) : (⟨l.toArray⟩ : ByteArray).get! i = nth l i := by
 unfold ByteArray.get! nth
 simp [List.getD_eq_getElem?_getD, hi]
theorem dec_ascii {s : ByteArray} {i : Nat} (h : (s.get! i).toNat < 128) : Utf8.decode s i = ((s.get! i).toNat, 1) := by
 unfold Utf8.decode
 simp only [Nat.add_zero]
 rw [if_pos h]
theorem dec_big {s : ByteArray} {i : Nat} (h : 128 ≤ (s.get! i).toNat) : 128 ≤ (Utf8.decode s i).1 := by
 unfold Utf8.decode
 simp only [Nat.add_zero]
 rw [if_neg (by omega)]
 have hr : 128 ≤ Utf8.runeError := by decide
 split
 ·split
  ·simp only []; omega
  ·exact hr
 ·split
  ·split
   ·rename_i h2; simp only [ge_iff_le, Bool.and_eq_true, decide_eq_true_eq] at h2 ⊢; omega
   ·exact hr
  ·split
   ·split
    ·rename_i h2; simp only [ge_iff_le, Bool.and_eq_true, decide_eq_true_eq] at h2 ⊢; omega
    ·exact hr
   ·exact hr
theorem next_s {N r pos c : Nat} {l : Str} (hat : h.at r = some (.siter ⟨l.toArray⟩ pos)) (hN : N ≤ r) : anext N h (ptr r 0) true c =
  if pos < l.length then some (.tuple #[.bool true, I pos, .int .i32 (Utf8.decode ⟨l.toArray⟩ pos).1], h.put r (.siter ⟨l.toArray⟩ (pos + (Utf8.decode ⟨l.toArray⟩ pos).2))) else some (.tuple #[.bool false], h) := by
 unfold anext
 simp only [hat]
 rw [if_pos hN]
 rfl
theorem lowASCII_ok235 (c : UInt8) : ACall Tryz.prog w0 235 [B c] h (fun v h' => v = B (lowB' c) ∧ h' = h) := by
 refine ACall.known fun hKn => ?_
 obtain ⟨hN, hB⟩ := hKn
 refine ACall.run noCount mixed Tryz.func235 rfl (by kernel_rfl) (Nat.le_of_ble_eq_true rfl) fun X hX => ?_
 have hl : c.toNat < 256 := c.toNat_lt
 by_cases h1 : 65 ≤ c.toNat
 ·have q1 : decide ((65 : Int) ≤ (c.toNat : Int)) = true := decide_eq_true (by omega)
  by_cases h2 : c.toNat ≤ 90
  ·have q2 : decide ((c.toNat : Int) ≤ 90) = true := decide_eq_true (by omega)
   have q3 : ((c.toNat : Int) + 32) % 256 = (c.toNat : Int) + 32 := by omega
   have q4 : lowB' c = c + 32 := by unfold lowB'; simp [UInt8.le_iff_toNat_le]; omega
   (repeat simp only[push_cast,go_sem_proc,↓ite_only,M_block,q1, q2, q3])
   ((with_reducible refine hX _ _ _ (fun j hj => nomatch hj) ?_); simp only[push_cast,go_sem_proc,↓ite_only,M_block,Tryz.results235])
   have q5 : (c + 32).toNat = c.toNat + 32 := by
    rw [UInt8.toNat_add]
    have : (32 : UInt8).toNat = 32 := rfl
    omega
   rw [q4]
   show Value.int .u8 ((c.toNat : Int) + 32) = Value.int .u8 ((c + 32).toNat : Int)
   rw [q5]
   congr 1
  ·have q2 : decide ((c.toNat : Int) ≤ 90) = false := decide_eq_false (by omega)
   have q4 : lowB' c = c := by unfold lowB'; simp [UInt8.le_iff_toNat_le]; omega
   (repeat simp only[push_cast,go_sem_proc,↓ite_only,M_block,q1, q2])
   ((with_reducible refine hX _ _ _ (fun j hj => nomatch hj) ?_); simp only[push_cast,go_sem_proc,↓ite_only,M_block,Tryz.results235])
   rw [q4]
 ·have q1 : decide ((65 : Int) ≤ (c.toNat : Int)) = false := decide_eq_false (by omega)
  have q4 : lowB' c = c := by unfold lowB'; simp [UInt8.le_iff_toNat_le]; omega
  (repeat simp only[push_cast,go_sem_proc,↓ite_only,M_block,q1])
  ((with_reducible refine hX _ _ _ (fun j hj => nomatch hj) ?_); simp only[push_cast,go_sem_proc,↓ite_only,M_block,Tryz.results235])
  rw [q4]
theorem lowASCII_ok200 (c : UInt8) : ACall Tryz.prog w0 200 [B c] h (fun v h' => v = B (lowB' c) ∧ h' = h) := by
 refine ACall.known fun hKn => ?_
 obtain ⟨hN, hB⟩ := hKn
 refine ACall.run noCount mixed Tryz.func200 rfl (by kernel_rfl) (Nat.le_of_ble_eq_true rfl) fun X hX => ?_
 have hl : c.toNat < 256 := c.toNat_lt
 by_cases h1 : 65 ≤ c.toNat
 ·have q1 : decide ((65 : Int) ≤ (c.toNat : Int)) = true := decide_eq_true (by omega)
  by_cases h2 : c.toNat ≤ 90
  ·have q2 : decide ((c.toNat : Int) ≤ 90) = true := decide_eq_true (by omega)
   have q3 : ((c.toNat : Int) + 32) % 256 = (c.toNat : Int) + 32 := by omega
   have q4 : lowB' c = c + 32 := by unfold lowB'; simp [UInt8.le_iff_toNat_le]; omega
   (repeat simp only[push_cast,go_sem_proc,↓ite_only,M_block,q1, q2, q3])
   ((with_reducible refine hX _ _ _ (fun j hj => nomatch hj) ?_); simp only[push_cast,go_sem_proc,↓ite_only,M_block,Tryz.results200])
   have q5 : (c + 32).toNat = c.toNat + 32 := by
    rw [UInt8.toNat_add]
    have : (32 : UInt8).toNat = 32 := rfl
    omega
   rw [q4]
   show Value.int .u8 ((c.toNat : Int) + 32) = Value.int .u8 ((c + 32).toNat : Int)
   rw [q5]
   congr 1
  ·have q2 : decide ((c.toNat : Int) ≤ 90) = false := decide_eq_false (by omega)
   have q4 : lowB' c = c := by unfold lowB'; simp [UInt8.le_iff_toNat_le]; omega
   (repeat simp only[push_cast,go_sem_proc,↓ite_only,M_block,q1, q2])
   ((with_reducible refine hX _ _ _ (fun j hj => nomatch hj) ?_); simp only[push_cast,go_sem_proc,↓ite_only,M_block,Tryz.results200])
   rw [q4]
 ·have q1 : decide ((65 : Int) ≤ (c.toNat : Int)) = false := decide_eq_false (by omega)
  have q4 : lowB' c = c := by unfold lowB'; simp [UInt8.le_iff_toNat_le]; omega
  (repeat simp only[push_cast,go_sem_proc,↓ite_only,M_block,q1])
  ((with_reducible refine hX _ _ _ (fun j hj => nomatch hj) ?_); simp only[push_cast,go_sem_proc,↓ite_only,M_block,Tryz.results200])
  rw [q4]
def foldEq (s t : Str) : Bool := sameL (s.map lowB') (t.map lowB')
theorem fold_len {s t : Str} (h : s.length ≠ t.length) : foldEq s t = false := sameL_false (fun e => h (by simpa using congrArg List.length e))
theorem fold_at {s t : Str} {k : Nat} (hk : k < s.length) (hl : s.length = t.length) (h : lowB' (nth s k) ≠ lowB' (nth t k)) : foldEq s t = false := by
 refine sameL_false (fun e => h ?_)
 have := congrArg (fun l => l[k]?) e
 simp only [List.getElem?_map, nth_get hk, nth_get (by omega : k < t.length)] at this
 exact Option.some.inj this
theorem fold_all {s t : Str} (hl : s.length = t.length) (h : ∀ k, k < s.length → lowB' (nth s k) = lowB' (nth t k)) : foldEq s t = true := by
 refine sameL_true (List.ext_getElem? fun i => ?_)
 simp only [List.getElem?_map]
 rcases Nat.lt_or_ge i s.length with hi | hi
 ·rw [nth_get hi, nth_get (by omega : i < t.length)]
  exact congrArg some (h i hi)
 ·rw [List.getElem?_eq_none (by omega), List.getElem?_eq_none (by omega)]
set_option maxHeartbeats 4000000 in
theorem tokenEqual_ok (s t : Str) (hl : s.length < 1000000000) (ht : t.all (fun c => decide (c.toNat < 128)) = true) :
  ACall Tryz.prog w0 218 [S s, S t] h (fun v h' => v = .bool (foldEq s t) ∧ Ext h h') := by
 refine ACall.known fun hKn => ?_
 obtain ⟨hN, hB⟩ := hKn
 refine ACall.run noCount mixed Tryz.func218 rfl (by kernel_rfl) (Nat.le_of_ble_eq_true rfl) fun X hX => ?_
 by_cases hlen : s.length = t.length
 rotate_left
 ·have q : decide ((s.length : Int) = (t.length : Int)) = false := decide_eq_false (by omega)
  (repeat simp only[push_cast,go_sem_proc,↓ite_only,M_block,q])
  ((with_reducible refine hX _ _ _ (fun j hj => nomatch hj) ?_); simp only[push_cast,go_sem_proc,↓ite_only,M_block,Tryz.results218])
  exact ⟨by rw [fold_len hlen], .refl _⟩
 ·have q : decide ((s.length : Int) = (t.length : Int)) = true := decide_eq_true (by omega)
  (repeat simp only[push_cast,go_sem_proc,↓ite_only,M_block,q])
  refine M_loop (fun tm h1 n => ∃ k : Nat, k ≤ s.length ∧ n = s.length - k ∧ tget tm 1 = S t ∧ tget tm 13 = ptr h.n 0 ∧ Ext h h1 ∧ h1.at h.n = some (.siter ⟨s.toArray⟩ k) ∧ (∀ j, j < k → lowB' (nth s j) = lowB' (nth t j))) s.length
   ⟨0, by omega, by omega, (by simp only[zT,Nat.reduceBEq]), (by simp only[zT,Nat.reduceBEq]), (Ext.refl _).new _, at_new_eq _ _, fun j hj => by omega⟩ ?_
  rintro tm1 h1 n R ⟨k, hk, rfl, t1, t13, hx, hat, hall⟩ hR hE
  have hnx := fun c => next_s (N := w0.heap.size) (c := c) hat hN
  rcases Nat.lt_or_ge k s.length with hlt | hge
  ·have hnx2 : ∀ c, anext w0.heap.size h1 (ptr h.n 0) true c = some (.tuple #[.bool true, I k, .int .i32 (Utf8.decode ⟨s.toArray⟩ k).1], h1.put h.n (.siter ⟨s.toArray⟩ (k + (Utf8.decode ⟨s.toArray⟩ k).2))) := fun c => by rw [hnx c, if_pos hlt]
   have hgn := get_nth hlt
   by_cases hasc : (nth s k).toNat < 128
   ·have hdec : Utf8.decode ⟨s.toArray⟩ k = ((nth s k).toNat, 1) := by rw [dec_ascii (by rw [hgn]; exact hasc), hgn]
    rw [hdec] at hnx2
    have q128 : decide ((128 : Int) ≤ ((nth s k).toNat : Int)) = false := decide_eq_false (by omega)
    have hm : ((nth s k).toNat : Int) % 256 = (nth s k).toNat := by omega
    have hkt : k < t.length := by omega
    (repeat(first|(simp only[push_cast,go_sem_proc,↓ite_only,M_block,t13, hnx2, q128, hm, t1])|(with_reducible refine⟨by omega,?_⟩)|(with_reducible refine M_draw (id:=8) p218_8 ?_ ?_;focus kernel_rfl)))
    refine callP_of (lowASCII_ok235 _) ?_
    rintro v h2 ⟨rfl, rfl⟩
    (repeat simp only[push_cast,go_sem_proc,↓ite_only,M_block,t1])
    refine callP_of (lowASCII_ok235 _) ?_
    rintro v h3 ⟨rfl, rfl⟩
    have hx2 : Ext h (h1.put h.n (.siter ⟨s.toArray⟩ (k + 1))) := hx.put (Nat.le_refl _) _
    by_cases he : lowB' (nth s k) = lowB' (nth t k)
    ·have heq : decide (((lowB' (nth s k)).toNat : Int) = ((lowB' (nth t k)).toNat : Int)) = true := decide_eq_true (by rw [he])
     (repeat simp only[push_cast,go_sem_proc,↓ite_only,M_block,heq, t1])
     exact hR _ _ (s.length - (k + 1)) (by omega) ⟨k + 1, by omega, rfl, ‹_›, ‹_›, hx2, at_put_eq _ _ _, fun j hj => by
      rcases Nat.lt_or_ge j k with h | h
      ·exact hall j h
      ·rw [show j = k by omega]; exact he⟩
    ·have heq : decide (((lowB' (nth s k)).toNat : Int) = ((lowB' (nth t k)).toNat : Int)) = false := decide_eq_false (fun e => he (UInt8.toNat_inj.1 (by omega)))
     (repeat simp only[push_cast,go_sem_proc,↓ite_only,M_block,heq])
     (with_reducible refine hE _ _ _ _ (nomatch ·) ?_)
     (repeat simp only[push_cast,go_sem_proc,↓ite_only,M_block])
     ((with_reducible refine hX _ _ _ (fun j hj => nomatch hj) ?_); simp only[push_cast,go_sem_proc,↓ite_only,M_block,Tryz.results218])
     exact ⟨by rw [fold_at hlt hlen he], hx2⟩
   ·have hbig := dec_big (s := ⟨s.toArray⟩) (i := k) (by rw [hgn]; omega)
    generalize hdc : Utf8.decode ⟨s.toArray⟩ k = dc at hnx2 hbig
    have q128 : decide ((128 : Int) ≤ (dc.1 : Int)) = true := decide_eq_true (by omega)
    have hx2 : Ext h (h1.put h.n (.siter ⟨s.toArray⟩ (k + dc.2))) := hx.put (Nat.le_refl _) _
    have hne : lowB' (nth s k) ≠ lowB' (nth t k) := by
     have ht2 := List.all_eq_true.1 ht (nth t k) (List.mem_of_getElem? (nth_get (by omega)))
     have ht3 : (nth t k).toNat < 128 := of_decide_eq_true ht2
     have h1 : lowB' (nth s k) = nth s k := by unfold lowB'; rw [if_neg (by omega)]
     have h2 : (lowB' (nth t k)).toNat < 128 := by
      unfold lowB'
      split
      ·rw [UInt8.toNat_add]
       have : (32 : UInt8).toNat = 32 := rfl
       omega
      ·exact ht3
     intro e
     rw [h1] at e
     rw [← e] at h2
     omega
    (repeat simp only[push_cast,go_sem_proc,↓ite_only,M_block,t13, hnx2, q128])
    (with_reducible refine hE _ _ _ _ (nomatch ·) ?_)
    (repeat simp only[push_cast,go_sem_proc,↓ite_only,M_block])
    ((with_reducible refine hX _ _ _ (fun j hj => nomatch hj) ?_); simp only[push_cast,go_sem_proc,↓ite_only,M_block,Tryz.results218])
    exact ⟨by rw [fold_at hlt hlen hne], hx2⟩
  ·have hnx2 : ∀ c, anext w0.heap.size h1 (ptr h.n 0) true c = some (.tuple #[.bool false], h1) := fun c => by rw [hnx c, if_neg (by omega)]
   (repeat simp only[push_cast,go_sem_proc,↓ite_only,M_block,t13, hnx2])
   (with_reducible refine hE _ _ _ _ (nomatch ·) ?_)
   (repeat simp only[push_cast,go_sem_proc,↓ite_only,M_block])
   ((with_reducible refine hX _ _ _ (fun j hj => nomatch hj) ?_); simp only[push_cast,go_sem_proc,↓ite_only,M_block,Tryz.results218])
   exact ⟨by rw [fold_all hlen (fun j hj => hall j (by omega))], hx⟩
end Go.Proofs.YtbjaapiliegegaaGreatDoor.Sy
end
