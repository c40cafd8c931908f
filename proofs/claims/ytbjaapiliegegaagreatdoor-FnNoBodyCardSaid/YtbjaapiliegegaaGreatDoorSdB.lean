/- Of the proof of FnNoBody: SdB. -/
import Derived.Test.YtbjaapiliegegaaGreatDoorNb24
set_option linter.unusedVariables false
set_option linter.unusedSimpArgs false
namespace Go.Proofs.YtbjaapiliegegaaGreatDoor.Sy
open Go
set_option maxRecDepth 100000
variable {w0 : World} {h : Heap}
@[push_cast] def p191_1 : Plan := [(0, []), (1, []), (2, []), (3, []), (4, []), (5, []), (6, []), (7, []), (8, []), (9, [])]
@[push_cast] def p142_5 : Plan := [(0, []), (1, []), (2, []), (3, []), (4, []), (5, []), (6, []), (7, []), (8, []), (9, []), (10, []), (11, []), (12, []), (13, []), (14, []), (15, []), (16, []), (17, []), (18, []), (19, []), (20, []), (21, []), (22, []), (23, []), (24, []), (25, []), (26, []), (27, []), (28, []), (29, []), (30, []), (31, []), (32, []), (33, []), (34, [])]
@[push_cast] def p142_8 : Plan := [(0, []), (1, []), (2, []), (3, []), (4, []), (5, []), (6, []), (7, []), (8, []), (9, []), (10, []), (11, []), (12, []), (13, []), (14, []), (15, [])]
@[push_cast] def p142_10 : Plan := [(0, []), (1, []), (2, []), (3, []), (4, []), (5, []), (6, []), (7, []), (8, []), (9, [])]
@[push_cast] def p142_16 : Plan := [(0, []), (1, []), (2, []), (3, []), (4, []), (5, []), (6, []), (7, []), (8, []), (9, []), (10, []), (11, []), (12, []), (13, []), (14, []), (15, []), (16, []), (17, [])]
def difB (d : UInt8) (c : UInt8) : Bool := c != d
def idxL (l : Str) (d : UInt8) : Nat := (l.takeWhile (difB d)).length
theorem idx_le (l : Str) (d : UInt8) : idxL l d ≤ l.length := (List.takeWhile_prefix _).length_le
def idxV (l : Str) (d : UInt8) : Int := match decide (idxL l d < l.length) with | true => idxL l d | false => -1
theorem idxV_hit {l : Str} {d : UInt8} (h : idxL l d < l.length) : idxV l d = idxL l d := by unfold idxV; rw [decide_eq_true h]
theorem idxV_miss {l : Str} {d : UInt8} (h : ¬idxL l d < l.length) : idxV l d = -1 := by unfold idxV; rw [decide_eq_false h]
theorem idx_at {l : Str} {d : UInt8} {k : Nat} (hk : k < l.length) (ha : (l.take k).all (difB d) = true) (hc : nth l k = d) : idxL l d = k := by
 unfold idxL
 rw [tw_eq (p := difB d) l k (by omega) ha (.inr (by simp [difB, hc])), List.length_take, Nat.min_eq_left (by omega)]
theorem idx_none {l : Str} {d : UInt8} (ha : l.all (difB d) = true) : idxL l d = l.length := by
 unfold idxL
 rw [tw_eq (p := difB d) l l.length (Nat.le_refl _) (by rwa [List.take_length]) (.inl rfl), List.take_length]
set_option maxHeartbeats 1000000 in
theorem indexByte_ok216 {v : Value} {l : Str} (d : UInt8) (hd : Data h v l) (hl : l.length < 1099511627776) :
  ACall Tryz.prog w0 216 [v, B d] h (fun u h' => u = I (idxV l d) ∧ h' = h) := by
 obtain ⟨a, cp, rfl⟩ := hd.len
 refine ACall.known fun hKn => ?_
 obtain ⟨hN, hB⟩ := hKn
 refine ACall.run noCount mixed Tryz.func216 rfl (by kernel_rfl) (Nat.le_of_ble_eq_true rfl) fun X hX => ?_
 (repeat simp only[push_cast,go_sem_proc,↓ite_only,M_block])
 refine M_loop (fun tm h1 n => ∃ k : Nat, k ≤ l.length ∧ n = l.length - k ∧ h1 = h ∧ tget tm 7 = .slice a l.length cp ∧ tget tm 8 = I l.length ∧ tget tm 9 = I k ∧ tget tm 1 = B d ∧ (l.take k).all (difB d) = true) l.length
  ⟨0, by omega, by omega, rfl, (by simp only[zT,Nat.reduceBEq]), (by simp only[zT,Nat.reduceBEq]), (by simp only[zT,Nat.reduceBEq];rfl), (by simp only[zT,Nat.reduceBEq]), rfl⟩ ?_
 rintro tm1 h1 n R ⟨k, hk, rfl, rfl, t7, t8, t9, t1, hall⟩ hR hE
 rcases Nat.lt_or_ge k l.length with hlt | hge
 ·obtain ⟨b, pre, post, cp', lo, hi, hv, hcp, hatb⟩ := hd.at (by omega)
  cases hv
  (repeat simp only[push_cast,go_sem_proc,↓ite_only,M_block,t7, t8, t9, t1, hatb, mid_get])
  repeat' ((with_reducible(first|refine condM_same ?_ ?_|refine condM_nsame ?_ ?_|refine oneM_same ?_ ?_|refine oneM_nsame ?_ ?_|refine oneP_same ?_ ?_|refine oneP_nsame ?_ ?_|refine condM_dec_ ?_ ?_|refine condM_not_ ?_ ?_|refine oneM_dec_ ?_ ?_|refine oneM_not_ ?_ ?_|refine oneP_dec_ ?_ ?_|refine oneP_not_ ?_ ?_|refine condM_bool ?_ ?_|refine oneM_bool ?_ ?_|refine oneP_bool ?_ ?_)<;>intro c) <;> first | (exfalso; first | contradiction | omega) | (try (repeat(first|(simp(disch:=omega)only[push_cast,go_sem_proc,↓ite_only,M_block,t7, t8, t9, t1, hatb, mid_get, c])|(with_reducible refine⟨by omega,?_⟩)))))
  ·have hc := byte_eq c
   have hi := idx_at hlt hall hc
   (with_reducible refine hE _ _ _ _ (nomatch ·) ?_)
   (repeat simp only[push_cast,go_sem_proc,↓ite_only,M_block])
   ((with_reducible refine hX _ _ _ (fun j hj => nomatch hj) ?_); simp only[push_cast,go_sem_proc,↓ite_only,M_block,Tryz.results216])
   rw [idxV_hit (by omega), hi]
  ·have hc := byte_ne c
   refine hR _ _ (l.length - (k + 1)) (by omega) ⟨k + 1, by omega, rfl, rfl, ‹_›, ‹_›, (by simp only[zT,Nat.reduceBEq];rfl), ‹_›, all_snoc hlt hall (by simp [difB, hc])⟩
 ·have hk' : k = l.length := by omega
  subst hk'
  rw [List.take_length] at hall
  (repeat simp only[push_cast,go_sem_proc,↓ite_only,M_block,t7, t8, t9, t1])
  repeat' ((with_reducible(first|refine condM_same ?_ ?_|refine condM_nsame ?_ ?_|refine oneM_same ?_ ?_|refine oneM_nsame ?_ ?_|refine oneP_same ?_ ?_|refine oneP_nsame ?_ ?_|refine condM_dec_ ?_ ?_|refine condM_not_ ?_ ?_|refine oneM_dec_ ?_ ?_|refine oneM_not_ ?_ ?_|refine oneP_dec_ ?_ ?_|refine oneP_not_ ?_ ?_|refine condM_bool ?_ ?_|refine oneM_bool ?_ ?_|refine oneP_bool ?_ ?_)<;>intro c) <;> first | (exfalso; first | contradiction | omega) | (try (repeat simp only[push_cast,go_sem_proc,↓ite_only,M_block,t7, t8, t9, t1, c])))
  (with_reducible refine hE _ _ _ _ (nomatch ·) ?_)
  (repeat simp only[push_cast,go_sem_proc,↓ite_only,M_block])
  ((with_reducible refine hX _ _ _ (fun j hj => nomatch hj) ?_); simp only[push_cast,go_sem_proc,↓ite_only,M_block,Tryz.results216])
  rw [idxV_miss (by rw [idx_none hall]; omega)]
set_option maxHeartbeats 1000000 in
theorem indexByte_ok197 {v : Value} {l : Str} (d : UInt8) (hd : Data h v l) (hl : l.length < 1099511627776) :
  ACall Tryz.prog w0 197 [v, B d] h (fun u h' => u = I (idxV l d) ∧ h' = h) := by
 obtain ⟨a, cp, rfl⟩ := hd.len
 refine ACall.known fun hKn => ?_
 obtain ⟨hN, hB⟩ := hKn
 refine ACall.run noCount mixed Tryz.func197 rfl (by kernel_rfl) (Nat.le_of_ble_eq_true rfl) fun X hX => ?_
 (repeat simp only[push_cast,go_sem_proc,↓ite_only,M_block])
 refine M_loop (fun tm h1 n => ∃ k : Nat, k ≤ l.length ∧ n = l.length - k ∧ h1 = h ∧ tget tm 7 = .slice a l.length cp ∧ tget tm 8 = I l.length ∧ tget tm 9 = I k ∧ tget tm 1 = B d ∧ (l.take k).all (difB d) = true) l.length
  ⟨0, by omega, by omega, rfl, (by simp only[zT,Nat.reduceBEq]), (by simp only[zT,Nat.reduceBEq]), (by simp only[zT,Nat.reduceBEq];rfl), (by simp only[zT,Nat.reduceBEq]), rfl⟩ ?_
 rintro tm1 h1 n R ⟨k, hk, rfl, rfl, t7, t8, t9, t1, hall⟩ hR hE
 rcases Nat.lt_or_ge k l.length with hlt | hge
 ·obtain ⟨b, pre, post, cp', lo, hi, hv, hcp, hatb⟩ := hd.at (by omega)
  cases hv
  (repeat simp only[push_cast,go_sem_proc,↓ite_only,M_block,t7, t8, t9, t1, hatb, mid_get])
  repeat' ((with_reducible(first|refine condM_same ?_ ?_|refine condM_nsame ?_ ?_|refine oneM_same ?_ ?_|refine oneM_nsame ?_ ?_|refine oneP_same ?_ ?_|refine oneP_nsame ?_ ?_|refine condM_dec_ ?_ ?_|refine condM_not_ ?_ ?_|refine oneM_dec_ ?_ ?_|refine oneM_not_ ?_ ?_|refine oneP_dec_ ?_ ?_|refine oneP_not_ ?_ ?_|refine condM_bool ?_ ?_|refine oneM_bool ?_ ?_|refine oneP_bool ?_ ?_)<;>intro c) <;> first | (exfalso; first | contradiction | omega) | (try (repeat(first|(simp(disch:=omega)only[push_cast,go_sem_proc,↓ite_only,M_block,t7, t8, t9, t1, hatb, mid_get, c])|(with_reducible refine⟨by omega,?_⟩)))))
  ·have hc := byte_eq c
   have hi := idx_at hlt hall hc
   (with_reducible refine hE _ _ _ _ (nomatch ·) ?_)
   (repeat simp only[push_cast,go_sem_proc,↓ite_only,M_block])
   ((with_reducible refine hX _ _ _ (fun j hj => nomatch hj) ?_); simp only[push_cast,go_sem_proc,↓ite_only,M_block,Tryz.results197])
   rw [idxV_hit (by omega), hi]
  ·have hc := byte_ne c
   refine hR _ _ (l.length - (k + 1)) (by omega) ⟨k + 1, by omega, rfl, rfl, ‹_›, ‹_›, (by simp only[zT,Nat.reduceBEq];rfl), ‹_›, all_snoc hlt hall (by simp [difB, hc])⟩
 ·have hk' : k = l.length := by omega
  subst hk'
  rw [List.take_length] at hall
  (repeat simp only[push_cast,go_sem_proc,↓ite_only,M_block,t7, t8, t9, t1])
  repeat' ((with_reducible(first|refine condM_same ?_ ?_|refine condM_nsame ?_ ?_|refine oneM_same ?_ ?_|refine oneM_nsame ?_ ?_|refine oneP_same ?_ ?_|refine oneP_nsame ?_ ?_|refine condM_dec_ ?_ ?_|refine condM_not_ ?_ ?_|refine oneM_dec_ ?_ ?_|refine oneM_not_ ?_ ?_|refine oneP_dec_ ?_ ?_|refine oneP_not_ ?_ ?_|refine condM_bool ?_ ?_|refine oneM_bool ?_ ?_|refine oneP_bool ?_ ?_)<;>intro c) <;> first | (exfalso; first | contradiction | omega) | (try (repeat simp only[push_cast,go_sem_proc,↓ite_only,M_block,t7, t8, t9, t1, c])))
  (with_reducible refine hE _ _ _ _ (nomatch ·) ?_)
  (repeat simp only[push_cast,go_sem_proc,↓ite_only,M_block])
  ((with_reducible refine hX _ _ _ (fun j hj => nomatch hj) ?_); simp only[push_cast,go_sem_proc,↓ite_only,M_block,Tryz.results197])
  rw [idxV_miss (by rw [idx_none hall]; omega)]
theorem readErr_ok {g : Bio} {buf : Str} {r w : Nat} {er : Bool} {lb lrs : Int} {sv : Value} {src : Str} (G : g.Ok w0.heap.size) (b : BRl h g buf r w er lb lrs sv src) :
  ACall Tryz.prog w0 193 [ptr g.R 0] h (fun v h' => v = errOf er ∧ Keep g.X h h' ∧ h'.at g.bb = h.at g.bb ∧ BRl h' g buf r w false lb lrs sv src) := by
 refine ACall.known fun hKn => ?_
 obtain ⟨hN, hB⟩ := hKn
 refine ACall.run noCount mixed Tryz.func193 rfl (by kernel_rfl) (Nat.le_of_ble_eq_true rfl) fun X hX => ?_
 obtain ⟨nR, nb, ns, d1, d2, d3, d4, d5, d6⟩ := G
 have d1' := Ne.symm d1
 have d2' := Ne.symm d2
 have d3' := Ne.symm d3
 obtain ⟨rd, bf, bl, hrw, hww, sa, sd, sl, lR, lB, lS, lD⟩ := b
 (repeat(first|(simp(disch:=first|omega|(simp only[zN];omega))only[push_cast,go_sem_proc,↓ite_only,M_block,rd, single_errOf])|(with_reducible refine⟨by omega,?_⟩)))
 ((with_reducible refine hX _ _ _ (fun j hj => nomatch hj) ?_); simp(disch:=omega)only[push_cast,go_sem_proc,↓ite_only,M_block,Tryz.results193])
 exact ⟨(by repeat (first | exact Keep.refl _ _ | assumption | refine Keep.put ?_ (by first | (left; simp; done) | (right; omega)) _ | refine Keep.new ?_ _)), (by first|assumption|(simp(disch:=first|assumption|omega)only[at_put_eq,at_put_ne,at_new_eq,at_new_ne,zN,ne_eq,not_false_eq_true];first|done|assumption|rfl)), (by first|assumption|(simp(disch:=first|assumption|omega)only[at_put_eq,at_put_ne,at_new_eq,at_new_ne,zN,ne_eq,not_false_eq_true];first|done|assumption|rfl)), bl, hrw, hww, (by first|assumption|(simp(disch:=first|assumption|omega)only[at_put_eq,at_put_ne,at_new_eq,at_new_ne,zN,ne_eq,not_false_eq_true];first|done|assumption|rfl)), sd.keep (by first|assumption|(simp(disch:=first|assumption|omega)only[at_put_eq,at_put_ne,at_new_eq,at_new_ne,zN,ne_eq,not_false_eq_true];first|done|assumption|rfl)), sl, lR, lB, lS, lD⟩
theorem buffered_ok {g : Bio} {buf : Str} {r w : Nat} {er : Bool} {lb lrs : Int} {sv : Value} {src : Str} (b : BRl h g buf r w er lb lrs sv src) :
  ACall Tryz.prog w0 191 [ptr g.R 0] h (fun v h' => v = I ((w - r : Nat) : Int) ∧ h' = h) := by
 refine ACall.known fun hKn => ?_
 obtain ⟨hN, hB⟩ := hKn
 refine ACall.run noCount mixed Tryz.func191 rfl (by kernel_rfl) (Nat.le_of_ble_eq_true rfl) fun X hX => ?_
 obtain ⟨rd, bf, bl, hrw, hww, sa, sd, sl, lR, lB, lS, lD⟩ := b
 have hwr : ((w - r : Nat) : Int) = (w : Int) - (r : Int) := by omega
 (repeat(first|(simp(disch:=omega)only[push_cast,go_sem_proc,↓ite_only,M_block,rd])|(with_reducible refine M_draw (id:=1) p191_1 ?_ ?_;focus kernel_rfl)))
 ((with_reducible refine hX _ _ _ (fun j hj => nomatch hj) ?_); simp(disch:=omega)only[push_cast,go_sem_proc,↓ite_only,M_block,Tryz.results191])
theorem restL_len {buf src : Str} {r w : Nat} (hb : buf.length = 4096) (h1 : r ≤ w) (h2 : w ≤ 4096) : (restL buf r w src).length = w - r + src.length := by
 unfold restL
 rw [List.length_append, List.length_take, List.length_drop, hb]
 omega
theorem restL_fill {buf buf' src : Str} {r w m : Nat} (hm : m = w - r + min src.length (4096 - (w - r))) (e : buf'.take m = (buf.drop r).take (w - r) ++ src.take (4096 - (w - r))) : restL buf' 0 m (src.drop (4096 - (w - r))) = restL buf r w src := by
 unfold restL
 rw [List.drop_zero, Nat.sub_zero, e, List.append_assoc, List.take_append_drop]
theorem BRl.cut {g : Bio} {buf : Str} {r w : Nat} {er : Bool} {lb lrs : Int} {sv : Value} {src : Str} (b : BRl h g buf r w er lb lrs sv src) {o n : Nat} (hn : o + n ≤ 4096) : Data h (.slice (if 4096 = o then some ⟨g.bb, 0, none⟩ else some ⟨g.bb, o, none⟩) n (4096 - o)) ((buf.drop o).take n) := by
 by_cases h0 : n = 0
 ·subst h0; exact .inl ⟨rfl, _, _, rfl⟩
 ·rw [if_neg (by omega)]
  exact b.sub hn (by omega)
set_option maxHeartbeats 4000000 in
theorem peek_ok {g : Bio} {buf : Str} {r w n : Nat} {lb lrs : Int} {sv : Value} {src : Str} (G : g.Ok w0.heap.size) (b : BRl h g buf r w false lb lrs sv src) (hn : n ≤ 4096) :
  ACall Tryz.prog w0 142 [ptr g.R 0, I n] h (fun v h' => Keep g.X h h' ∧ ∃ buf' r' w' sv' src', BRl h' g buf' r' w' false (-1) (-1) sv' src' ∧ restL buf' r' w' src' = restL buf r w src ∧
   (n ≤ w - r → buf' = buf ∧ r' = r ∧ w' = w ∧ src' = src ∧ h'.at g.bb = h.at g.bb) ∧ min n (restL buf r w src).length ≤ w' - r' ∧
   ∃ sl, v = .tuple #[sl, errOf (decide ((restL buf r w src).length < n))] ∧ Data h' sl ((restL buf r w src).take n)) := by
 refine ACall.known fun hKn => ?_
 obtain ⟨hN, hB⟩ := hKn
 refine ACall.run noCount mixed Tryz.func142 rfl (by kernel_rfl) (Nat.le_of_ble_eq_true rfl) fun X hX => ?_
 have G0 := G
 obtain ⟨nR, nb, ns, d1, d2, d3, d4, d5, d6⟩ := G
 have d1' := Ne.symm d1
 have d2' := Ne.symm d2
 have d3' := Ne.symm d3
 have b0 := b
 obtain ⟨rd, bf, bl, hrw, hww, sa, sd, sl, lR, lB, lS, lD⟩ := b
 have hn0 : decide ((n : Int) < 0) = false := decide_eq_false (by omega)
 (repeat(first|(simp(disch:=first|omega|(simp only[zN];omega))only[push_cast,go_sem_proc,↓ite_only,M_block,rd, hn0])|(with_reducible refine⟨by omega,?_⟩)))
 refine M_loop (fun tm h1 k => Keep g.X h h1 ∧ tget tm 0 = ptr g.R 0 ∧ tget tm 1 = I n ∧ ∃ buf1 r1 w1 er1 sv1 src1, k = src1.length + (match er1 with | true => 0 | false => 1) ∧ BRl h1 g buf1 r1 w1 er1 (-1) (-1) sv1 src1 ∧ restL buf1 r1 w1 src1 = restL buf r w src ∧
   (er1 = true → src1 = [] ∧ w1 - r1 < n) ∧ (n ≤ w - r → buf1 = buf ∧ r1 = r ∧ w1 = w ∧ src1 = src ∧ h1.at g.bb = h.at g.bb)) (src.length + 1)
  ⟨(by repeat (first | exact Keep.refl _ _ | assumption | refine Keep.put ?_ (by first | (left; simp; done) | (right; omega)) _ | refine Keep.new ?_ _)), (by simp only[zT,Nat.reduceBEq]), (by simp only[zT,Nat.reduceBEq]), buf, r, w, false, sv, src, rfl, ⟨(by first|assumption|(simp(disch:=first|assumption|omega)only[at_put_eq,at_put_ne,at_new_eq,at_new_ne,zN,ne_eq,not_false_eq_true];first|done|assumption|rfl)), (by first|assumption|(simp(disch:=first|assumption|omega)only[at_put_eq,at_put_ne,at_new_eq,at_new_ne,zN,ne_eq,not_false_eq_true];first|done|assumption|rfl)), bl, hrw, hww, (by first|assumption|(simp(disch:=first|assumption|omega)only[at_put_eq,at_put_ne,at_new_eq,at_new_ne,zN,ne_eq,not_false_eq_true];first|done|assumption|rfl)), sd.keep (by first|assumption|(simp(disch:=first|assumption|omega)only[at_put_eq,at_put_ne,at_new_eq,at_new_ne,zN,ne_eq,not_false_eq_true];first|done|assumption|rfl)), sl, lR, lB, lS, lD⟩, rfl, (fun e => by cases e), fun _ => ⟨rfl, rfl, rfl, rfl, (by first|assumption|(simp(disch:=first|assumption|omega)only[at_put_eq,at_put_ne,at_new_eq,at_new_ne,zN,ne_eq,not_false_eq_true];first|done|assumption|rfl))⟩⟩ ?_
 rintro tm1 h1 k R ⟨k1, t0, t1, buf1, r1, w1, er1, sv1, src1, rfl, b1, hrest, her, hsame⟩ hR hE
 have bl1 := b1.bl
 have rd1 := b1.rd
 have hrw1 := b1.rw
 have hww1 := b1.ww
 have hlen1 := restL_len (src := src1) b1.bl b1.rw b1.ww
 rw [hrest] at hlen1
 have hwt1 : ((w1 : Int) - (r1 : Int)).toNat = w1 - r1 := by omega
 by_cases hA : n ≤ w1 - r1
 ·
  have er0 : er1 = false := by cases er1 with | false => rfl | true => have := (her rfl).2; omega
  subst er0
  have hc1 : decide ((w1 : Int) - (r1 : Int) < (n : Int)) = false := decide_eq_false (by omega)
  (repeat(first|(simp(disch:=omega)only[push_cast,go_sem_proc,↓ite_only,M_block,t0, t1, rd1, hc1])|(with_reducible refine M_draw (id:=5) p142_5 ?_ ?_;focus kernel_rfl)))
  (with_reducible refine hE _ _ _ _ (nomatch ·) ?_)
  have hc2 : decide ((4096 : Int) < (n : Int)) = false := decide_eq_false (by omega)
  (repeat(first|(simp(disch:=omega)only[push_cast,go_sem_proc,↓ite_only,M_block,t0, t1, rd1, hc1, hc2])|(with_reducible refine⟨by omega,?_⟩)|(with_reducible refine M_draw (id:=10) p142_10 ?_ ?_;focus kernel_rfl)|(with_reducible refine M_draw (id:=16) p142_16 ?_ ?_;focus kernel_rfl)))
  have htn : ((r1 : Int) + (n : Int)).toNat - r1 = n := by omega
  ((with_reducible refine hX _ _ _ (fun j hj => nomatch hj) ?_); simp only[push_cast,go_sem_proc,↓ite_only,M_block,Tryz.results142,htn])
  have hnl : ¬(restL buf r w src).length < n := by omega
  refine ⟨(by repeat (first | exact Keep.refl _ _ | assumption | refine Keep.put ?_ (by first | (left; simp; done) | (right; omega)) _ | refine Keep.new ?_ _)), buf1, r1, w1, sv1, src1, b1, hrest, hsame, by omega, _, by rw [decide_eq_false hnl, errOf_f], ?_⟩
  have : (restL buf r w src).take n = (buf1.drop r1).take n := by
   rw [← hrest]
   unfold restL
   rw [List.take_append_of_le_length (by rw [List.length_take, List.length_drop, bl1]; omega), List.take_take, Nat.min_eq_left hA]
  rw [this]
  exact b1.cut (by omega)
 ·have hA' : w1 - r1 < n := by omega
  have hc1 : decide ((w1 : Int) - (r1 : Int) < (n : Int)) = true := decide_eq_true (by omega)
  have hc3 : decide ((w1 : Int) - (r1 : Int) < 4096) = true := decide_eq_true (by omega)
  cases er1 with
  | true =>
   obtain ⟨rfl, -⟩ := her rfl
   have hc2 : decide ((4096 : Int) < (n : Int)) = false := decide_eq_false (by omega)
   (repeat(first|(simp(disch:=omega)only[push_cast,go_sem_proc,↓ite_only,M_block,t0, t1, rd1, hc1, hc3, errOf_t])|(with_reducible refine M_draw (id:=5) p142_5 ?_ ?_;focus kernel_rfl)))
   (with_reducible refine hE _ _ _ _ (nomatch ·) ?_)
   (repeat(first|(simp(disch:=omega)only[push_cast,go_sem_proc,↓ite_only,M_block,t0, t1, rd1, hc1, hc2, errOf_t])|(with_reducible refine M_draw (id:=10) p142_10 ?_ ?_;focus kernel_rfl)))
   refine callM_of (readErr_ok G0 b1) ?_
   rintro v h2 ⟨rfl, k2, hbb, b2⟩
   have rd2 := b2.rd
   have htn : ((r1 : Int) + ((w1 : Int) - (r1 : Int))).toNat - r1 = w1 - r1 := by omega
   (repeat(first|(simp(disch:=omega)only[push_cast,go_sem_proc,↓ite_only,M_block,t0, t1, rd2, errOf_t])|(with_reducible refine⟨by omega,?_⟩)|(with_reducible refine M_draw (id:=16) p142_16 ?_ ?_;focus kernel_rfl)))
   ((with_reducible refine hX _ _ _ (fun j hj => nomatch hj) ?_); simp only[push_cast,go_sem_proc,↓ite_only,M_block,Tryz.results142,htn])
   have hnl : (restL buf r w src).length < n := by rw [hlen1]; simp; omega
   have hb12 : h2.at g.bb = h.at g.bb ∨ ¬ n ≤ w - r := by
    by_cases hq : n ≤ w - r
    ·exact .inl (hbb.trans (hsame hq).2.2.2.2)
    ·exact .inr hq
   refine ⟨k1.trans k2, buf1, r1, w1, sv1, [], b2, hrest, fun hq => ?_, by rw [hlen1]; simp; omega, _, by rw [decide_eq_true hnl, errOf_t], ?_⟩
   ·obtain ⟨e1, e2, e3, e4, e5⟩ := hsame hq
    exact ⟨e1, e2, e3, e4, hbb.trans e5⟩
   ·have : (restL buf r w src).take n = (buf1.drop r1).take (w1 - r1) := by
     rw [List.take_of_length_le (by omega), ← hrest]
     unfold restL
     rw [List.append_nil]
    rw [this]
    exact b2.cut (by omega)
  | false =>
   (repeat(first|(simp(disch:=omega)only[push_cast,go_sem_proc,↓ite_only,M_block,t0, t1, rd1, hc1, hc3, errOf_f])|(with_reducible refine M_draw (id:=5) p142_5 ?_ ?_;focus kernel_rfl)))
   refine callM_of (bfill_ok G0 b1 (by omega)) ?_
   rintro v h2 ⟨k2, buf2, sv2, b2, e2⟩
   (repeat simp only[push_cast,go_sem_proc,↓ite_only,M_block,t0, t1])
   have hnr : ¬ n ≤ w - r := fun hq => by obtain ⟨_, e2, e3, _⟩ := hsame hq; omega
   have hr2 := (restL_fill rfl e2).trans hrest
   cases hse : src1.isEmpty with
   | true =>
    have hs0 : src1 = [] := by simpa using hse
    subst hs0
    refine hR _ _ 0 (by simp) ⟨k1.trans k2, ‹_›, ‹_›, buf2, 0, _, true, sv2, [], by simp, by simpa using b2, by simpa using hr2, fun _ => ⟨rfl, by simp; omega⟩, fun hq => absurd hq hnr⟩
   | false =>
    have hs0 : 0 < src1.length := List.length_pos_iff.2 (by intro e; rw [e] at hse; simp at hse)
    rw [hse] at b2
    refine hR _ _ ((src1.drop (4096 - (w1 - r1))).length + 1) (by simp only [List.length_drop]; omega) ⟨k1.trans k2, ‹_›, ‹_›, buf2, 0, _, false, sv2, _, by rfl, b2, hr2, (nomatch ·), fun hq => absurd hq hnr⟩
end Go.Proofs.YtbjaapiliegegaaGreatDoor.Sy
