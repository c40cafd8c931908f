/- Of the proof of FnNoBody: ScC ScD. -/
import Derived.Test.YtbjaapiliegegaaGreatDoorNb18
set_option linter.unusedVariables false
set_option linter.unusedSimpArgs false
section
namespace Go.Proofs.YtbjaapiliegegaaGreatDoor.Sy
open Go
set_option maxRecDepth 100000
variable {w0 : World} {h : Heap}
@[push_cast] def p38_8 : Plan := [(0, []), (1, []), (2, []), (3, []), (4, []), (5, []), (6, []), (7, []), (8, []), (9, []), (10, []), (11, []), (12, [])]
def Data (h : Heap) (v : Value) (l : List UInt8) : Prop :=
 (l = [] ∧ ∃ a cp, v = .slice a 0 cp) ∨ ∃ b pre post cp lo hi, v = .slice (some ⟨b, pre.length, none⟩) l.length cp ∧ l.length ≤ cp ∧ h.at b = some (.cells (pre ++ (byteVals l ++ post)) 5 lo hi)
theorem Data.len {v : Value} {l : List UInt8} (d : Data h v l) : ∃ a cp, v = .slice a l.length cp := by
 rcases d with ⟨rfl, a, cp, rfl⟩ | ⟨b, pre, post, cp, lo, hi, rfl, _, _⟩
 ·exact ⟨_, _, rfl⟩
 ·exact ⟨_, _, rfl⟩
theorem Data.at {v : Value} {l : List UInt8} (d : Data h v l) (h0 : 0 < l.length) : ∃ b pre post cp lo hi, v = .slice (some ⟨b, pre.length, none⟩) l.length cp ∧ l.length ≤ cp ∧ h.at b = some (.cells (pre ++ (byteVals l ++ post)) 5 lo hi) := by
 rcases d with ⟨rfl, _⟩ | d
 ·simp at h0
 ·exact d
def InB (b : Nat) : Value → Prop
 | .slice (some ⟨c, _, _⟩) _ _ => c = b
 | _ => False
theorem Data.keep {h h' : Heap} {v : Value} {l : List UInt8} (d : Data h v l) (hk : ∀ b, (∃ o, h.at b = some o) → InB b v → h'.at b = h.at b) : Data h' v l := by
 rcases d with d | ⟨b, pre, post, cp, lo, hi, rfl, hcp, hat⟩
 ·exact .inl d
 ·exact .inr ⟨b, pre, post, cp, lo, hi, rfl, hcp, (hk b ⟨_, hat⟩ rfl).trans hat⟩
theorem loadN_sub {b p n : Nat} {pre post : List Value} {m : List UInt8} {e : TypeId} {lo hi : Nat} (hat : h.at b = some (.cells (pre ++ (byteVals m ++ post)) e lo hi)) (hn : p + n ≤ m.length) : loadN h b (pre.length + p) n = some (byteVals ((m.drop p).take n)) := by
 have e1 : pre ++ (byteVals m ++ post) = (pre ++ byteVals (m.take p)) ++ (byteVals ((m.drop p).take n) ++ (byteVals ((m.drop p).drop n) ++ post)) := by
  have : byteVals m = byteVals (m.take p) ++ (byteVals ((m.drop p).take n) ++ byteVals ((m.drop p).drop n)) := by
   unfold byteVals
   rw [← List.map_append, ← List.map_append, List.take_append_drop, List.take_append_drop]
  rw [this]
  simp only [List.append_assoc]
 have e2 : pre.length + p = (pre ++ byteVals (m.take p)).length := by rw [List.length_append, byteVals_length, List.length_take, Nat.min_eq_left (by omega)]
 rw [e1] at hat
 rw [e2]
 exact loadN_mid hat (by rw [List.length_take, List.length_drop, Nat.min_eq_left (by omega)])
def noLF (c : UInt8) : Bool := decide (c.toNat ≠ 10)
def lineJ (m : List UInt8) (j : Nat) : Str × Nat × Nat :=
 match decide (j < m.length), decide (0 < j ∧ (nth m (j - 1)).toNat = 13), (m.take (j - 1)).contains 13 with
 | false, _, _ => ([], 1, 0)
 | true, false, _ => ([], 2, 0)
 | true, true, true => ([], 2, j + 1)
 | true, true, false => (m.take (j - 1), 0, j + 1)
def lineL (m : List UInt8) : Str × Nat × Nat := lineJ m (m.takeWhile noLF).length
set_option maxHeartbeats 4000000 in
theorem line_ok (l : List UInt8) (d : Value) (r p : Nat) (hr : w0.heap.size ≤ r) (hl : l.length < 1099511627776) (hp : p ≤ l.length)
  (hat : h.at r = some (.cells [d, I p] 64 0 0)) (hd : Data h d l) (hdr : ¬InB r d) :
  ACall Tryz.prog w0 38 [ptr r 0] h (fun v h' => v = .tuple #[S (lineL (l.drop p)).1, I (lineL (l.drop p)).2.1] ∧
   ExtBut r h h' ∧ h'.at r = some (.cells [d, I (p + (lineL (l.drop p)).2.2 : Nat)] 64 0 0)) := by
 obtain ⟨a, cp, hdv⟩ := hd.len
 subst hdv
 refine ACall.known fun hKn => ?_
 obtain ⟨hN, hB⟩ := hKn
 refine ACall.run noCount mixed Tryz.func38 rfl (by kernel_rfl) (Nat.le_of_ble_eq_true rfl) fun X hX => ?_
 (repeat simp(disch:=omega)only[push_cast,go_sem_proc,↓ite_only,M_block,hat])
 refine M_loop (fun tm h1 n => ∃ i : Nat, p ≤ i ∧ i ≤ l.length ∧ n = l.length - i ∧ h1 = h ∧ tget tm 4 = I i ∧ tget tm 0 = ptr r 0 ∧ ((l.drop p).take (i - p)).all noLF = true) (l.length - p)
  ⟨p, by omega, by omega, by omega, rfl, (by simp only[zT,Nat.reduceBEq]), (by simp only[zT,Nat.reduceBEq]), by rw [Nat.sub_self]; rfl⟩ ?_
 rintro tm1 h1 n R ⟨i, hpi, hi, rfl, rfl, t4, t0, hall⟩ hR hE
 have hm : (l.drop p).length = l.length - p := List.length_drop
 have hnd : p + (i - p) = i := by omega
 have hi1 : ((i : Int) - 1).toNat = i - 1 := by omega
 rcases Nat.lt_or_ge i l.length with hlt | hge
 ·obtain ⟨b, pre, post, cp', lo, hi', hv, hcp, hatb⟩ := hd.at (by omega)
  cases hv
  have hbr : ¬b = r := hdr
  have hbr' : ¬r = b := fun e => hdr e.symm
  have hne : (cp = p) = False := eq_false (by omega)
  have hni : nth (l.drop p) (i - p) = nth l i := by rw [nth_drop, hnd]
  have hld := loadN_sub (n := i - 1 - p) hatb (by omega : p + (i - 1 - p) ≤ l.length)
  have hid : i - p - 1 = i - 1 - p := by omega
  have hj : (nth l i).toNat = 10 → ((l.drop p).takeWhile noLF).length = i - p := fun hc => by
   rw [tw_eq (p := noLF) (l.drop p) (i - p) (by omega) hall (.inr (by rw [hni]; simp [noLF, hc])), List.length_take, Nat.min_eq_left (by omega)]
  have hn1 : nth (l.drop p) (i - p - 1) = nth l (p + (i - p - 1)) := nth_drop _ _ _
  have hn2 : ¬i = p → p + (i - p - 1) = i - 1 := by omega
  (repeat simp(disch:=omega)only[push_cast,go_sem_proc,↓ite_only,M_block,t4, t0, hat, hatb, mid_get, hi1, hne, hld, bytesOf_vals])
  repeat' ((with_reducible(first|refine condM_same ?_ ?_|refine condM_nsame ?_ ?_|refine oneM_same ?_ ?_|refine oneM_nsame ?_ ?_|refine oneP_same ?_ ?_|refine oneP_nsame ?_ ?_|refine condM_dec_ ?_ ?_|refine condM_not_ ?_ ?_|refine oneM_dec_ ?_ ?_|refine oneM_not_ ?_ ?_|refine oneP_dec_ ?_ ?_|refine oneP_not_ ?_ ?_|refine condM_bool ?_ ?_|refine oneM_bool ?_ ?_|refine oneP_bool ?_ ?_)<;>intro c) <;> first | (exfalso; first | contradiction | omega) | (try (repeat(first|(simp(disch:=first|omega|(simp only[zN];omega))only[push_cast,go_sem_proc,↓ite_only,M_block,t4, t0, hat, hatb, mid_get, hi1, hne, hld, bytesOf_vals, c])|(with_reducible refine⟨by omega,?_⟩)|(with_reducible refine M_draw (id:=8) p38_8 ?_ ?_;focus kernel_rfl)))))
  ·have hL : lineL (l.drop p) = ([], 2, 0) := by
    unfold lineL
    rw [hj (by omega)]
    unfold lineJ
    rw [decide_eq_true (by omega), decide_eq_false (by rw [hn1, hn2 (by omega)]; omega)]
   rw [hL] at hX
   (with_reducible refine hE _ _ _ _ (nomatch ·) ?_)
   (repeat simp only[push_cast,go_sem_proc,↓ite_only,M_block])
   ((with_reducible refine hX _ _ _ (fun j hj => nomatch hj) ?_); simp only[push_cast,go_sem_proc,↓ite_only,M_block,Tryz.results38])
   exact ⟨⟨Nat.le_refl _, fun _ _ _ => rfl⟩, hat⟩
  ·have hL : lineL (l.drop p) = match ((l.drop p).take (i - 1 - p)).contains 13 with
     | true => ([], 2, i - p + 1)
     | false => ((l.drop p).take (i - 1 - p), 0, i - p + 1) := by
    unfold lineL
    rw [hj (by omega)]
    unfold lineJ
    rw [decide_eq_true (by omega), decide_eq_true (by rw [hn1, hn2 (by omega)]; omega), hid]
    cases ((l.drop p).take (i - 1 - p)).contains 13 <;> rfl
   have hsl : ((l.drop p).take (i - 1 - p)).length ≤ l.length := by rw [List.length_take, hm]; omega
   have hpe : ((p + (i - p + 1) : Nat) : Int) = (i : Int) + 1 := by omega
   generalize hs : (l.drop p).take (i - 1 - p) = s at *
   refine M_loop (fun tm h2 n => ∃ k : Nat, k ≤ s.length ∧ n = s.length - k ∧ h2 = h1.put r (.cells [.slice (some ⟨b, pre.length, none⟩) l.length cp, I (i + 1)] 64 0 0) ∧ tget tm 65 = I k ∧ tget tm 64 = I s.length ∧ tget tm 5 = S s ∧ (s.take k).contains 13 = false) s.length
    ⟨0, by omega, by omega, rfl, (by simp only[zT,Nat.reduceBEq];rfl), (by simp only[zT,Nat.reduceBEq]), (by simp only[zT,Nat.reduceBEq]), rfl⟩ ?_
   rintro tm2 h2 n R2 ⟨k, hk, rfl, rfl, t65, t64, t5, hno⟩ hR2 hE2
   have hF : ExtBut r h1 (h1.put r (.cells [.slice (some ⟨b, pre.length, none⟩) l.length cp, I (i + 1)] 64 0 0)) := ExtBut.put ⟨Nat.le_refl _, fun _ _ _ => rfl⟩ _
   have hq : (i : Int) + 1 = p + (i - p + 1) := by omega
   (repeat simp only[push_cast,go_sem_proc,↓ite_only,M_block,t65, t64, t5])
   repeat' ((with_reducible(first|refine condM_same ?_ ?_|refine condM_nsame ?_ ?_|refine oneM_same ?_ ?_|refine oneM_nsame ?_ ?_|refine oneP_same ?_ ?_|refine oneP_nsame ?_ ?_|refine condM_dec_ ?_ ?_|refine condM_not_ ?_ ?_|refine oneM_dec_ ?_ ?_|refine oneM_not_ ?_ ?_|refine oneP_dec_ ?_ ?_|refine oneP_not_ ?_ ?_|refine condM_bool ?_ ?_|refine oneM_bool ?_ ?_|refine oneP_bool ?_ ?_)<;>intro c) <;> first | (exfalso; first | contradiction | omega) | (try (repeat(first|(simp(disch:=omega)only[push_cast,go_sem_proc,↓ite_only,M_block,t65, t64, t5, c])|(with_reducible refine⟨by omega,?_⟩)))))
   ·have hyes : s.contains 13 = true := by
     rw [List.contains_iff_mem]
     have h13 := byte_eq (b := 13) c
     rw [← h13]
     exact List.mem_of_getElem? (nth_get (by omega))
    rw [hyes] at hL
    rw [hL] at hX
    (with_reducible refine hE2 _ _ _ _ (nomatch ·) ?_)
    (repeat simp only[push_cast,go_sem_proc,↓ite_only,M_block])
    (with_reducible refine hE _ _ _ _ (nomatch ·) ?_)
    (repeat simp only[push_cast,go_sem_proc,↓ite_only,M_block])
    ((with_reducible refine hX _ _ _ (fun j hj => nomatch hj) ?_); simp(disch:=omega)only[push_cast,go_sem_proc,↓ite_only,M_block,Tryz.results38])
    exact ⟨hF, by rw [hq]⟩
   ·refine hR2 _ _ (s.length - (k + 1)) (by omega) ⟨k + 1, by omega, rfl, rfl, (by simp only[zT,Nat.reduceBEq];rfl), ‹_›, ‹_›, ?_⟩
    rw [take_snoc s k (by omega), List.contains_append, hno]
    have h13 := byte_ne (b := 13) c
    simp [Ne.symm h13]
   ·have hke : k = s.length := by omega
    subst hke
    rw [List.take_length] at hno
    rw [hno] at hL
    rw [hL] at hX
    (with_reducible refine hE2 _ _ _ _ (nomatch ·) ?_)
    (repeat simp only[push_cast,go_sem_proc,↓ite_only,M_block,t5])
    (with_reducible refine hE _ _ _ _ (nomatch ·) ?_)
    (repeat simp only[push_cast,go_sem_proc,↓ite_only,M_block,t5])
    ((with_reducible refine hX _ _ _ (fun j hj => nomatch hj) ?_); simp(disch:=omega)only[push_cast,go_sem_proc,↓ite_only,M_block,Tryz.results38])
    exact ⟨hF, by rw [hq]⟩
  ·have hL : lineL (l.drop p) = ([], 2, 0) := by
    unfold lineL
    rw [hj (by omega)]
    unfold lineJ
    rw [decide_eq_true (by omega), decide_eq_false (by omega)]
   rw [hL] at hX
   (with_reducible refine hE _ _ _ _ (nomatch ·) ?_)
   (repeat simp only[push_cast,go_sem_proc,↓ite_only,M_block])
   ((with_reducible refine hX _ _ _ (fun j hj => nomatch hj) ?_); simp only[push_cast,go_sem_proc,↓ite_only,M_block,Tryz.results38])
   exact ⟨⟨Nat.le_refl _, fun _ _ _ => rfl⟩, hat⟩
  ·refine hR _ _ (l.length - (i + 1)) (by omega) ⟨i + 1, by omega, by omega, rfl, rfl, (by simp only[zT,Nat.reduceBEq];rfl), ‹_›, ?_⟩
   rw [show i + 1 - p = (i - p) + 1 by omega]
   exact all_snoc (by omega) hall (by rw [hni]; simp [noLF]; omega)
 ·have hL : lineL (l.drop p) = ([], 1, 0) := by
   unfold lineL
   rw [tw_eq (p := noLF) (l.drop p) (i - p) (by omega) hall (.inl (by omega))]
   unfold lineJ
   rw [decide_eq_false (by rw [List.length_take]; omega)]
  rw [hL] at hX
  (repeat simp(disch:=omega)only[push_cast,go_sem_proc,↓ite_only,M_block,t4, t0, hat])
  repeat' ((with_reducible(first|refine condM_same ?_ ?_|refine condM_nsame ?_ ?_|refine oneM_same ?_ ?_|refine oneM_nsame ?_ ?_|refine oneP_same ?_ ?_|refine oneP_nsame ?_ ?_|refine condM_dec_ ?_ ?_|refine condM_not_ ?_ ?_|refine oneM_dec_ ?_ ?_|refine oneM_not_ ?_ ?_|refine oneP_dec_ ?_ ?_|refine oneP_not_ ?_ ?_|refine condM_bool ?_ ?_|refine oneM_bool ?_ ?_|refine oneP_bool ?_ ?_)<;>intro c) <;> first | (exfalso; first | contradiction | omega) | (try (repeat simp only[push_cast,go_sem_proc,↓ite_only,M_block,t4, t0, hat, c])))
  (with_reducible refine hE _ _ _ _ (nomatch ·) ?_)
  (repeat simp only[push_cast,go_sem_proc,↓ite_only,M_block])
  ((with_reducible refine hX _ _ _ (fun j hj => nomatch hj) ?_); simp only[push_cast,go_sem_proc,↓ite_only,M_block,Tryz.results38])
  exact ⟨⟨Nat.le_refl _, fun _ _ _ => rfl⟩, hat⟩
end Go.Proofs.YtbjaapiliegegaaGreatDoor.Sy
end
section
namespace Go.Proofs.YtbjaapiliegegaaGreatDoor.Sy
open Go
set_option maxRecDepth 100000
variable {w0 : World} {h : Heap}
def trimR (l : List UInt8) : List UInt8 := (l.reverse.dropWhile blankB).reverse
def trimB (l : List UInt8) : List UInt8 := trimR (l.dropWhile blankB)
theorem dw_go {p : UInt8 → Bool} : ∀ {x : List UInt8}, 0 < x.length → p (nth x 0) = true → x.dropWhile p = (x.drop 1).dropWhile p
 | [], h, _ => by simp at h
 | c :: x, _, h => by
  have : p c = true := h
  simp [List.dropWhile_cons, this]
theorem dw_stop {p : UInt8 → Bool} : ∀ {x : List UInt8}, (x = [] ∨ p (nth x 0) = false) → x.dropWhile p = x
 | [], _ => rfl
 | c :: x, h => by
  rcases h with h | h
  ·cases h
  ·have : p c = false := h
   simp [List.dropWhile_cons, this]
theorem nth_rev {x : List UInt8} (h0 : 0 < x.length) : nth x.reverse 0 = nth x (x.length - 1) := by
 unfold nth
 rw [List.getD_eq_getElem?_getD, List.getD_eq_getElem?_getD, List.getElem?_reverse (by omega), Nat.sub_zero]
theorem tr_go {x : List UInt8} (h0 : 0 < x.length) (h : blankB (nth x (x.length - 1)) = true) : trimR x = trimR (x.take (x.length - 1)) := by
 unfold trimR
 rw [dw_go (by rw [List.length_reverse]; exact h0) (by rw [nth_rev h0]; exact h), List.drop_reverse]
theorem tr_stop {x : List UInt8} (h : x = [] ∨ blankB (nth x (x.length - 1)) = false) : trimR x = x := by
 unfold trimR
 rw [dw_stop ?_, List.reverse_reverse]
 rcases h with rfl | h
 ·left; rfl
 ·rcases Nat.eq_zero_or_pos x.length with h0 | h0
  ·left; rw [List.eq_nil_of_length_eq_zero h0]; rfl
  ·right; rw [nth_rev h0]; exact h
def noCol (c : UInt8) : Bool := decide (c.toNat ≠ 58)
def fieldJ (s : List UInt8) (i : Nat) : Fld × Nat :=
 match decide (i < s.length), (s.take i).any blankB, tokL (s.take i), contentL (trimB (s.drop (i + 1))) with
 | false, _, _, _ => (([], []), 1)
 | true, true, _, _ => (([], []), 3)
 | true, false, false, _ => (([], []), 1)
 | true, false, true, false => (([], []), 3)
 | true, false, true, true => ((s.take i, trimB (s.drop (i + 1))), 0)
def fieldL (s : List UInt8) (first : Bool) : Fld × Nat :=
 match blankB (nth s 0), first with
 | true, true => (([], []), 1)
 | true, false => (([], []), 3)
 | false, _ => fieldJ s (s.takeWhile noCol).length
set_option maxHeartbeats 4000000 in
theorem sfield_ok (s : List UInt8) (first : Bool) (hs0 : 0 < s.length) (hl : s.length < 1099511627776) :
  ACall Tryz.prog w0 72 [S s, .bool first] h (fun v h' => v = .tuple #[.agg #[S (fieldL s first).1.1, S (fieldL s first).1.2], I (fieldL s first).2] ∧ Ext h h') := by
 refine ACall.known fun hKn => ?_
 obtain ⟨hN, hB⟩ := hKn
 refine ACall.run noCount mixed Tryz.func72 rfl (by kernel_rfl) (Nat.le_of_ble_eq_true rfl) fun X hX => ?_
 (repeat(first|(simp only[push_cast,go_sem_proc,↓ite_only,M_block])|(with_reducible refine⟨by omega,?_⟩)))
 refine callM_of (blank_ok _) ?_
 rintro v h1 ⟨rfl, hx1⟩
 have hat1 : h1.at h.n = some (.cells [S [], S []] 60 0 0) := (hx1.2 h.n (Nat.lt_succ_self _)).trans (at_new_eq _ _)
 have hn1 : h.n < h1.n := hx1.1
 have hxx : Ext h h1 := ((Ext.refl h).new _).trans hx1
 cases hb : blankB (nth s 0) with
 | true =>
  cases first <;>
  ·(repeat(first|(simp(disch:=decide)only[push_cast,go_sem_proc,↓ite_only,M_block,hat1])|(with_reducible refine⟨by omega,?_⟩)))
   ((with_reducible refine hX _ _ _ (fun j hj => nomatch hj) ?_); simp only[push_cast,go_sem_proc,↓ite_only,M_block,Tryz.results72])
   simp only [fieldL, hb]
   refine ⟨rfl, hxx.put (Nat.le_refl _) _⟩
 | false =>
  have hL : fieldL s first = fieldJ s (s.takeWhile noCol).length := by unfold fieldL; rw [hb]
  rw [hL] at hX
  have hX' : ∀ (tm : Tm) (h2 : Heap) (r : Fld × Nat), fieldJ s (s.takeWhile noCol).length = r → Ext h h2 → h2.at h.n = some (.cells [S r.1.1, S r.1.2] 60 0 0) → tget tm 4 = ptr h.n 0 → tget tm 5 = I r.2 → X .ret tm [] h2 := by
   intro tm h2 r e1 e2 e3 e4 e5
   ((with_reducible refine hX _ _ _ (fun j hj => nomatch hj) ?_); simp only[push_cast,go_sem_proc,↓ite_only,M_block,Tryz.results72,e3, e4, e5, e1])
   exact e2
  clear hX
  (repeat simp only[push_cast,go_sem_proc,↓ite_only,M_block])
  refine M_loop (fun tm h2 n => ∃ i : Nat, i ≤ s.length ∧ n = s.length - i ∧ h2 = h1 ∧ tget tm 17 = I i ∧ tget tm 16 = I s.length ∧ tget tm 0 = S s ∧ tget tm 4 = ptr h.n 0 ∧ (s.take i).all noCol = true) s.length
   ⟨0, by omega, by omega, rfl, (by simp only[zT,Nat.reduceBEq];rfl), (by simp only[zT,Nat.reduceBEq]), (by simp only[zT,Nat.reduceBEq]), (by simp only[zT,Nat.reduceBEq]), rfl⟩ ?_
  rintro tm1 h2 n R ⟨i, hi, rfl, rfl, t17, t16, t0, t4, hall⟩ hR hE
  (repeat simp only[push_cast,go_sem_proc,↓ite_only,t17, t16, t0])
  (with_reducible(first|refine condM_same ?_ ?_|refine condM_nsame ?_ ?_|refine oneM_same ?_ ?_|refine oneM_nsame ?_ ?_|refine oneP_same ?_ ?_|refine oneP_nsame ?_ ?_|refine condM_dec_ ?_ ?_|refine condM_not_ ?_ ?_|refine oneM_dec_ ?_ ?_|refine oneM_not_ ?_ ?_|refine oneP_dec_ ?_ ?_|refine oneP_not_ ?_ ?_|refine condM_bool ?_ ?_|refine oneM_bool ?_ ?_|refine oneP_bool ?_ ?_)<;>intro c)
  ·have hlt : i < s.length := by omega
   (repeat simp only[push_cast,go_sem_proc,↓ite_only])
   simp only [M_block]
   (repeat(first|(simp only[push_cast,go_sem_proc,↓ite_only,t17, t16, t0])|(with_reducible refine⟨by omega,?_⟩)))
   (with_reducible(first|refine condM_same ?_ ?_|refine condM_nsame ?_ ?_|refine oneM_same ?_ ?_|refine oneM_nsame ?_ ?_|refine oneP_same ?_ ?_|refine oneP_nsame ?_ ?_|refine condM_dec_ ?_ ?_|refine condM_not_ ?_ ?_|refine oneM_dec_ ?_ ?_|refine oneM_not_ ?_ ?_|refine oneP_dec_ ?_ ?_|refine oneP_not_ ?_ ?_|refine condM_bool ?_ ?_|refine oneM_bool ?_ ?_|refine oneP_bool ?_ ?_)<;>intro c2)
   ·(repeat simp(disch:=omega)only[push_cast,go_sem_proc,↓ite_only,M_block,t17])
    refine hR _ _ (s.length - (i + 1)) (by omega) ⟨i + 1, by omega, rfl, rfl, (by simp only[zT,Nat.reduceBEq];rfl), ‹_›, ‹_›, ‹_›, all_snoc hlt hall (by simp [noCol]; omega)⟩
   ·have hJ : fieldJ s (s.takeWhile noCol).length = fieldJ s i := by
     rw [tw_eq (p := noCol) s i hi hall (.inr (by simp [noCol]; omega)), List.length_take, Nat.min_eq_left hi]
    rw [hJ] at hX'
    have hti : (s.take i).length = i := by rw [List.length_take, Nat.min_eq_left hi]
    (repeat simp only[push_cast,go_sem_proc,↓ite_only])
    refine M_cut (fun tm h3 => Ext h2 h3 ∧ tget tm 0 = S s ∧ tget tm 4 = ptr h.n 0 ∧ tget tm 6 = I i ∧ (s.take i).any blankB = false) (fun R2 hR2 hE2 => ?_) ?_
    ·(repeat simp only[push_cast,go_sem_proc,↓ite_only,M_block])
     refine M_loop (fun tm h3 n => ∃ k : Nat, k ≤ i ∧ n = i - k ∧ Ext h2 h3 ∧ tget tm 25 = I k ∧ tget tm 24 = I i ∧ tget tm 0 = S s ∧ tget tm 4 = ptr h.n 0 ∧ tget tm 6 = I i ∧ ((s.take i).take k).any blankB = false) i
      ⟨0, by omega, by omega, .refl _, (by simp only[zT,Nat.reduceBEq];rfl), (by simp only[zT,Nat.reduceBEq]), ‹_›, ‹_›, (by simp only[zT,Nat.reduceBEq]), rfl⟩ ?_
     rintro tm3 h3 n R3 ⟨k, hk, rfl, hx3, t25, t24, t0, t4, t6, hno⟩ hR3 hE3
     (repeat simp only[push_cast,go_sem_proc,↓ite_only,M_block,t25, t24, t0])
     repeat' ((with_reducible(first|refine condM_same ?_ ?_|refine condM_nsame ?_ ?_|refine oneM_same ?_ ?_|refine oneM_nsame ?_ ?_|refine oneP_same ?_ ?_|refine oneP_nsame ?_ ?_|refine condM_dec_ ?_ ?_|refine condM_not_ ?_ ?_|refine oneM_dec_ ?_ ?_|refine oneM_not_ ?_ ?_|refine oneP_dec_ ?_ ?_|refine oneP_not_ ?_ ?_|refine condM_bool ?_ ?_|refine oneM_bool ?_ ?_|refine oneP_bool ?_ ?_)<;>intro c) <;> first | (exfalso; first | contradiction | omega) | (try (repeat(first|(simp only[push_cast,go_sem_proc,↓ite_only,M_block,t25, t24, t0, c])|(with_reducible refine⟨by omega,?_⟩)))))
     ·refine callM_of (blank_ok _) ?_
      rintro v h4 ⟨rfl, hx4⟩
      have hnk : nth (s.take i) k = nth s k := by
       unfold nth
       rw [List.getD_eq_getElem?_getD, List.getD_eq_getElem?_getD, List.getElem?_take_of_lt (by omega)]
      cases hb4 : blankB (nth s k) with
      | true =>
       have hany : (s.take i).any blankB = true := by
        rw [List.any_eq_true]
        exact ⟨nth s k, by rw [← hnk]; exact List.mem_of_getElem? (nth_get (by omega)), hb4⟩
       have hJ2 : fieldJ s i = (([], []), 3) := by
        unfold fieldJ
        rw [decide_eq_true hlt, hany]
       have hat4 := (((hx3.trans hx4).2 h.n hn1).trans hat1)
       (repeat(first|(simp(disch:=decide)only[push_cast,go_sem_proc,↓ite_only,M_block,t4, hat4])|(with_reducible refine⟨by omega,?_⟩)))
       (with_reducible refine hE3 _ _ _ _ (nomatch ·) ?_)
       (repeat simp only[push_cast,go_sem_proc,↓ite_only,M_block])
       (with_reducible refine hE2 _ _ _ _ (nomatch ·) ?_)
       (repeat simp only[push_cast,go_sem_proc,↓ite_only,M_block])
       (with_reducible refine hE _ _ _ _ (nomatch ·) ?_)
       (repeat simp only[push_cast,go_sem_proc,↓ite_only,M_block])
       refine hX' _ _ _ hJ2 ((hxx.trans (hx3.trans hx4)).put (Nat.le_refl _) _) (at_put_eq _ _ _) ‹_› (by simp only[zT,Nat.reduceBEq];rfl)
      | false =>
       (repeat simp(disch:=omega)only[push_cast,go_sem_proc,↓ite_only,M_block,t25])
       refine hR3 _ _ (i - (k + 1)) (by omega) ⟨k + 1, by omega, rfl, hx3.trans hx4, (by simp only[zT,Nat.reduceBEq];rfl), ‹_›, ‹_›, ‹_›, ‹_›, ?_⟩
       rw [take_snoc _ k (by omega), List.any_append, hno, hnk]
       simp [hb4]
     ·have hke : k = i := by omega
      subst hke
      rw [List.take_take, Nat.min_self] at hno
      (with_reducible refine hE3 _ _ _ _ (nomatch ·) ?_)
      (repeat simp only[push_cast,go_sem_proc,↓ite_only,M_block])
      exact hR2 _ _ ⟨hx3, ‹_›, ‹_›, ‹_›, hno⟩
    ·rintro tm3 h3 ⟨hx3, t0, t4, t6, hany⟩
     have hit : ((i : Int) + 1).toNat = i + 1 := by omega
     have hds : (s.take s.length).drop (i + 1) = s.drop (i + 1) := by rw [List.take_length]
     (repeat(first|(simp only[push_cast,go_sem_proc,↓ite_only,t0, t6])|(with_reducible refine⟨by omega,?_⟩)))
     refine callM_of (token_ok _ (by rw [hti]; omega)) ?_
     rintro v h4 ⟨rfl, hx4⟩
     have hx5 := hx3.trans hx4
     have hat4 := (hx5.2 h.n hn1).trans hat1
     cases ht : tokL (s.take i) with
     | false =>
      have hJ2 : fieldJ s i = (([], []), 1) := by
       unfold fieldJ
       rw [decide_eq_true hlt, hany, ht]
      (repeat(first|(simp(disch:=decide)only[push_cast,go_sem_proc,↓ite_only,M_block,t4, hat4])|(with_reducible refine⟨by omega,?_⟩)))
      (with_reducible refine hE _ _ _ _ (nomatch ·) ?_)
      (repeat simp only[push_cast,go_sem_proc,↓ite_only,M_block])
      refine hX' _ _ _ hJ2 ((hxx.trans hx5).put (Nat.le_refl _) _) (at_put_eq _ _ _) ‹_› (by simp only[zT,Nat.reduceBEq];rfl)
     | true =>
      have hvl : (s.drop (i + 1)).length = s.length - (i + 1) := List.length_drop
      (repeat(first|(simp(disch:=omega)only[push_cast,go_sem_proc,↓ite_only,t0, t6, hit, hds])|(with_reducible refine⟨by omega,?_⟩)))
      refine M_cut (fun tm h6 => Ext h2 h6 ∧ tget tm 0 = S s ∧ tget tm 4 = ptr h.n 0 ∧ tget tm 6 = I i ∧ tget tm 8 = S ((s.drop (i + 1)).dropWhile blankB)) (fun R2 hR2 hE2 => ?_) ?_
      ·(repeat simp only[push_cast,go_sem_proc,↓ite_only,M_block])
       refine M_loop (fun tm h6 n => ∃ x : Str, x.length ≤ s.length ∧ n = x.length ∧ Ext h2 h6 ∧ tget tm 8 = S x ∧ tget tm 0 = S s ∧ tget tm 4 = ptr h.n 0 ∧ tget tm 6 = I i ∧ x.dropWhile blankB = (s.drop (i + 1)).dropWhile blankB) (s.drop (i + 1)).length
        ⟨s.drop (i + 1), by omega, rfl, hx5, (by simp only[zT,Nat.reduceBEq]), ‹_›, ‹_›, ‹_›, rfl⟩ ?_
       rintro tm4 h6 n R3 ⟨x, hxl, rfl, hx6, t8, t0, t4, t6, hdw⟩ hR3 hE3
       have hdx : (x.take x.length).drop 1 = x.drop 1 := by rw [List.take_length]
       (repeat simp only[push_cast,go_sem_proc,↓ite_only,t8, t0])
       rcases Nat.eq_zero_or_pos x.length with hz | hpos
       ·have hxe : x = [] := List.eq_nil_of_length_eq_zero hz
        subst hxe
        (repeat simp(disch:=decide)only[push_cast,go_sem_proc,↓ite_only,M_block,t8])
        (with_reducible refine hE3 _ _ _ _ (nomatch ·) ?_)
        (repeat simp only[push_cast,go_sem_proc,↓ite_only,M_block])
        refine hR2 _ _ ⟨hx6, ‹_›, ‹_›, ‹_›, ?_⟩
        simp only [tget_cons, Nat.reduceBEq, tsel_true, tsel_false, t8, ← hdw]
        rfl
       ·have hne : ¬x = [] := fun e => by rw [e] at hpos; simp at hpos
        (repeat(first|(simp(disch:=omega)only[push_cast,go_sem_proc,↓ite_only,M_block,t8])|(with_reducible refine⟨by omega,?_⟩)))
        refine callM_of (blank_ok _) ?_
        rintro v h7 ⟨rfl, hx7⟩
        cases hbx : blankB (nth x 0) with
        | true =>
         (repeat(first|(simp only[push_cast,go_sem_proc,↓ite_only,M_block,t8, hdx])|(with_reducible refine⟨by omega,?_⟩)))
         refine hR3 _ _ (x.length - 1) (by omega) ⟨x.drop 1, by rw [List.length_drop]; omega, by rw [List.length_drop], hx6.trans hx7, (by simp only[zT,Nat.reduceBEq]), ‹_›, ‹_›, ‹_›, ?_⟩
         rw [← dw_go hpos hbx, hdw]
        | false =>
         (repeat simp only[push_cast,go_sem_proc,↓ite_only,M_block])
         (with_reducible refine hE3 _ _ _ _ (nomatch ·) ?_)
         (repeat simp only[push_cast,go_sem_proc,↓ite_only,M_block])
         refine hR2 _ _ ⟨hx6.trans hx7, ‹_›, ‹_›, ‹_›, ?_⟩
         simp only [tget_cons, Nat.reduceBEq, tsel_true, tsel_false, t8, ← hdw]
         rw [dw_stop (.inr hbx)]
      ·rintro tm4 h6 ⟨hx6, t0, t4, t6, t8⟩
       have hx0l : ((s.drop (i + 1)).dropWhile blankB).length ≤ s.length := Nat.le_trans (List.dropWhile_suffix _).length_le (by omega)
       have hTB : trimB (s.drop (i + 1)) = trimR ((s.drop (i + 1)).dropWhile blankB) := rfl
       generalize hx0 : (s.drop (i + 1)).dropWhile blankB = x0 at t8 hx0l hTB
       (repeat simp only[push_cast,go_sem_proc,↓ite_only])
       refine M_cut (fun tm h8 => Ext h2 h8 ∧ tget tm 0 = S s ∧ tget tm 4 = ptr h.n 0 ∧ tget tm 6 = I i ∧ tget tm 8 = S (trimR x0)) (fun R2 hR2 hE2 => ?_) ?_
       ·(repeat simp only[push_cast,go_sem_proc,↓ite_only,M_block])
        refine M_loop (fun tm h6 n => ∃ x : Str, x.length ≤ s.length ∧ n = x.length ∧ Ext h2 h6 ∧ tget tm 8 = S x ∧ tget tm 0 = S s ∧ tget tm 4 = ptr h.n 0 ∧ tget tm 6 = I i ∧ trimR x = trimR x0) x0.length
         ⟨x0, by omega, rfl, hx6, ‹_›, ‹_›, ‹_›, ‹_›, rfl⟩ ?_
        rintro tm4 h6 n R3 ⟨x, hxl, rfl, hx6, t8, t0, t4, t6, hdw⟩ hR3 hE3
        (repeat simp only[push_cast,go_sem_proc,↓ite_only,t8, t0])
        rcases Nat.eq_zero_or_pos x.length with hz | hpos
        ·have hxe : x = [] := List.eq_nil_of_length_eq_zero hz
         subst hxe
         (repeat simp(disch:=decide)only[push_cast,go_sem_proc,↓ite_only,M_block,t8])
         (with_reducible refine hE3 _ _ _ _ (nomatch ·) ?_)
         (repeat simp only[push_cast,go_sem_proc,↓ite_only,M_block])
         refine hR2 _ _ ⟨hx6, ‹_›, ‹_›, ‹_›, ?_⟩
         simp only [tget_cons, Nat.reduceBEq, tsel_true, tsel_false, t8, ← hdw]
         rfl
        ·have hne : ¬x = [] := fun e => by rw [e] at hpos; simp at hpos
         have hlm : ((x.length : Int) - 1).toNat = x.length - 1 := by omega
         (repeat(first|(simp(disch:=omega)only[push_cast,go_sem_proc,↓ite_only,M_block,t8, hlm])|(with_reducible refine⟨by omega,?_⟩)))
         refine callM_of (blank_ok _) ?_
         rintro v h7 ⟨rfl, hx7⟩
         cases hbx : blankB (nth x (x.length - 1)) with
         | true =>
          (repeat(first|(simp(disch:=omega)only[push_cast,go_sem_proc,↓ite_only,M_block,t8, hlm])|(with_reducible refine⟨by omega,?_⟩)))
          refine hR3 _ _ (x.length - 1) (by omega) ⟨x.take (x.length - 1), by rw [List.length_take]; omega, by rw [List.length_take, Nat.min_eq_left (by omega)], hx6.trans hx7, (by simp only[zT,Nat.reduceBEq]), ‹_›, ‹_›, ‹_›, ?_⟩
          rw [← tr_go hpos hbx, hdw]
         | false =>
          (repeat simp only[push_cast,go_sem_proc,↓ite_only,M_block])
          (with_reducible refine hE3 _ _ _ _ (nomatch ·) ?_)
          (repeat simp only[push_cast,go_sem_proc,↓ite_only,M_block])
          refine hR2 _ _ ⟨hx6.trans hx7, ‹_›, ‹_›, ‹_›, ?_⟩
          simp only [tget_cons, Nat.reduceBEq, tsel_true, tsel_false, t8, ← hdw]
          rw [tr_stop (.inr hbx)]
       ·rintro tm5 h8 ⟨hx8, t0, t4, t6, t8⟩
        have htl : (trimR x0).length ≤ s.length := by
         unfold trimR
         rw [List.length_reverse]
         refine Nat.le_trans (List.dropWhile_suffix _).length_le ?_
         rw [List.length_reverse]
         omega
        rw [← hTB] at t8 htl
        (repeat simp only[push_cast,go_sem_proc,↓ite_only,t8])
        refine callM_of (content_ok _ (by omega)) ?_
        rintro v h9 ⟨rfl, hx9⟩
        have hxy := hx8.trans hx9
        have hat9 := (hxy.2 h.n hn1).trans hat1
        cases hct : contentL (trimB (s.drop (i + 1))) with
        | false =>
         have hJ2 : fieldJ s i = (([], []), 3) := by
          unfold fieldJ
          rw [decide_eq_true hlt, hany, ht, hct]
         (repeat(first|(simp(disch:=decide)only[push_cast,go_sem_proc,↓ite_only,M_block,t4, hat9])|(with_reducible refine⟨by omega,?_⟩)))
         (with_reducible refine hE _ _ _ _ (nomatch ·) ?_)
         (repeat simp only[push_cast,go_sem_proc,↓ite_only,M_block])
         refine hX' _ _ _ hJ2 ((hxx.trans hxy).put (Nat.le_refl _) _) (at_put_eq _ _ _) ‹_› (by simp only[zT,Nat.reduceBEq];rfl)
        | true =>
         have hJ2 : fieldJ s i = ((s.take i, trimB (s.drop (i + 1))), 0) := by
          unfold fieldJ
          rw [decide_eq_true hlt, hany, ht, hct]
         (repeat(first|(simp(disch:=decide)only[push_cast,go_sem_proc,↓ite_only,M_block,t0, t4, t6, t8, hat9])|(with_reducible refine⟨by omega,?_⟩)))
         (with_reducible refine hE _ _ _ _ (nomatch ·) ?_)
         (repeat simp only[push_cast,go_sem_proc,↓ite_only,M_block])
         refine hX' _ _ _ hJ2 ((hxx.trans hxy).put (Nat.le_refl _) _) (at_put_eq _ _ _) ‹_› (by simp only[zT,Nat.reduceBEq];rfl)
  ·have hJ : fieldJ s (s.takeWhile noCol).length = (([], []), 1) := by
    rw [tw_eq (p := noCol) s i hi hall (.inl (by omega)), List.length_take, Nat.min_eq_left hi]
    unfold fieldJ
    rw [decide_eq_false (by omega)]
   (repeat simp only[push_cast,go_sem_proc,↓ite_only,M_block])
   (with_reducible refine hE _ _ _ _ (nomatch ·) ?_)
   (repeat(first|(simp(disch:=decide)only[push_cast,go_sem_proc,↓ite_only,M_block,t4, hat1])|(with_reducible refine⟨by omega,?_⟩)))
   refine hX' _ _ _ hJ (hxx.put (Nat.le_refl _) _) (at_put_eq _ _ _) ‹_› (by simp only[zT,Nat.reduceBEq];rfl)
end Go.Proofs.YtbjaapiliegegaaGreatDoor.Sy
end
