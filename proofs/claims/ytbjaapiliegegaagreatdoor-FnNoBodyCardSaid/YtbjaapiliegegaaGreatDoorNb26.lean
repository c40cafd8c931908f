/- Of the proof of FnNoBody: SdC SdD. -/
import Derived.Test.YtbjaapiliegegaaGreatDoorSdB
set_option linter.unusedVariables false
set_option linter.unusedSimpArgs false
section
namespace Go.Proofs.YtbjaapiliegegaaGreatDoor.Sy
open Go
set_option maxRecDepth 100000
variable {w0 : World} {h : Heap}
@[push_cast] def p190_2 : Plan := [(0, []), (1, []), (2, []), (3, []), (4, []), (5, []), (6, []), (7, []), (8, []), (9, []), (10, []), (11, []), (12, []), (13, []), (14, []), (15, []), (16, []), (17, [])]
@[push_cast] def p190_5 : Plan := [(0, []), (1, []), (2, []), (3, []), (4, []), (5, []), (6, []), (7, []), (8, []), (9, []), (10, []), (11, []), (12, []), (13, []), (14, []), (15, []), (16, [])]
@[push_cast] def p190_8 : Plan := [(0, []), (1, []), (2, []), (3, []), (4, []), (5, []), (6, []), (7, []), (8, []), (9, []), (10, []), (11, []), (12, []), (13, [])]
@[push_cast] def p190_11 : Plan := [(0, []), (2, []), (3, []), (4, []), (5, []), (6, []), (1, [5]), (7, [])]
@[push_cast] def p190_15 : Plan := [(0, []), (1, []), (2, []), (3, []), (4, []), (5, []), (6, []), (7, []), (8, []), (9, [])]
theorem idx_skip {a b : Str} {d : UInt8} (ha : a.all (difB d) = true) : idxL (a ++ b) d = a.length + idxL b d := by
 unfold idxL
 rw [List.takeWhile_append_of_pos (List.all_eq_true.1 ha), List.length_append]
theorem idx_in {a b : Str} {d : UInt8} (h : idxL a d < a.length) : idxL (a ++ b) d = idxL a d := by
 unfold idxL at h ⊢
 rw [List.takeWhile_append, if_neg (by omega)]
theorem idx_all {a : Str} {d : UInt8} (h : ¬idxL a d < a.length) : a.all (difB d) = true := by
 have h1 := idx_le a d
 have h2 : a.takeWhile (difB d) = a := (List.takeWhile_prefix _).eq_of_length (by unfold idxL at h h1; omega)
 rw [← h2]
 exact List.all_takeWhile
abbrev fullV : Value := .iface 273 (S [98, 117, 102, 105, 111, 58, 32, 98, 117, 102, 102, 101, 114, 32, 102, 117, 108, 108])
def errK (n : Nat) : Value := match n with | 0 => .nilIface | 1 => eofV | _ => fullV
theorem errK0 : errK 0 = .nilIface := rfl
theorem errK1 : errK 1 = eofV := rfl
theorem errK2 : errK 2 = fullV := rfl
def sliceL (rest : Str) : Str × Nat × Str :=
 match decide (idxL rest 10 < rest.length ∧ idxL rest 10 < 4096), decide (4096 ≤ rest.length) with
 | true, _ => (rest.take (idxL rest 10 + 1), 0, rest.drop (idxL rest 10 + 1))
 | false, true => (rest.take 4096, 2, rest.drop 4096)
 | false, false => (rest, 1, [])
def Lin (g : Bio) (buf : Str) (r : Nat) (v : Value) (l : Str) : Prop :=
 (l = [] ∧ ∃ a cp, v = .slice a 0 cp) ∨ ∃ o cp, v = .slice (some ⟨g.bb, o, none⟩) l.length cp ∧ l.length ≤ cp ∧ o + l.length ≤ r ∧ (buf.drop o).take l.length = l
theorem Lin.len {g : Bio} {buf : Str} {r : Nat} {v : Value} {l : Str} (d : Lin g buf r v l) : ∃ a cp, v = .slice a l.length cp := by
 rcases d with ⟨rfl, a, cp, rfl⟩ | ⟨o, cp, rfl, _⟩ <;> exact ⟨_, _, rfl⟩
theorem Lin.data {g : Bio} {buf : Str} {r w o : Nat} {er : Bool} {lb lrs : Int} {sv v : Value} {src l : Str} (b : BRl h g buf r w er lb lrs sv src) (d : Lin g buf r v l) : Data h v l := by
 rcases d with ⟨rfl, a, cp, rfl⟩ | ⟨o, cp, rfl, h1, h2, h3⟩
 ·exact .inl ⟨rfl, _, _, rfl⟩
 ·have := b.sub (o := o) (n := l.length) (by have := b.rw; have := b.ww; omega) h1
  rwa [h3] at this
theorem restL_take {buf src : Str} {r w m : Nat} (hb : buf.length = 4096) (h1 : r ≤ w) (h2 : w ≤ 4096) (hm : m ≤ w - r) : (restL buf r w src).take m = (buf.drop r).take m := by
 unfold restL
 rw [List.take_append_of_le_length (by rw [List.length_take, List.length_drop, hb]; omega), List.take_take, Nat.min_eq_left hm]
theorem restL_drop {buf src : Str} {r w m : Nat} (hb : buf.length = 4096) (h1 : r ≤ w) (h2 : w ≤ 4096) (hm : m ≤ w - r) : restL buf (r + m) w src = (restL buf r w src).drop m := by
 unfold restL
 rw [List.drop_append_of_le_length (by rw [List.length_take, List.length_drop, hb]; omega), List.drop_take, List.drop_drop, show w - (r + m) = w - r - m by omega]
theorem idx_ge {a : Str} {d : UInt8} {k : Nat} (hk : k ≤ a.length) (h : (a.take k).all (difB d) = true) : k ≤ idxL a d := by
 have := idx_skip (b := a.drop k) h
 rw [List.take_append_drop, List.length_take, Nat.min_eq_left hk] at this
 omega
theorem sliceL_hit {rest : Str} {i : Nat} (hi : idxL rest 10 = i) (h1 : i < rest.length) (h2 : i < 4096) : sliceL rest = (rest.take (i + 1), 0, rest.drop (i + 1)) := by
 unfold sliceL
 rw [hi, decide_eq_true ⟨h1, h2⟩]
theorem sliceL_full {rest : Str} (hi : 4096 ≤ idxL rest 10) (h1 : 4096 ≤ rest.length) : sliceL rest = (rest.take 4096, 2, rest.drop 4096) := by
 unfold sliceL
 rw [decide_eq_false (fun h => by omega), decide_eq_true h1]
theorem sliceL_end {rest : Str} (hi : ¬idxL rest 10 < rest.length) (h1 : rest.length < 4096) : sliceL rest = (rest, 1, []) := by
 unfold sliceL
 rw [decide_eq_false (fun h => hi h.1), decide_eq_false (by omega)]
set_option maxHeartbeats 8000000 in
theorem readSlice_ok {g : Bio} {buf : Str} {r w : Nat} {lb lrs : Int} {sv : Value} {src : Str} (G : g.Ok w0.heap.size) (b : BRl h g buf r w false lb lrs sv src) :
  ACall Tryz.prog w0 190 [ptr g.R 0, B 10] h (fun v h' => Keep g.X h h' ∧ ∃ buf' r' w' lb' lrs' sv' src' vl, BRl h' g buf' r' w' false lb' lrs' sv' src' ∧ restL buf' r' w' src' = (sliceL (restL buf r w src)).2.2 ∧
   v = .tuple #[vl, errK (sliceL (restL buf r w src)).2.1] ∧ Lin g buf' r' vl (sliceL (restL buf r w src)).1 ∧ ((sliceL (restL buf r w src)).2.1 = 2 → r' = 4096 ∧ w' = 4096 ∧ buf' = (sliceL (restL buf r w src)).1 ∧ vl = .slice (some ⟨g.bb, 0, none⟩) 4096 4096)) := by
 refine ACall.known fun hKn => ?_
 obtain ⟨hN, hB⟩ := hKn
 refine ACall.run noCount mixed Tryz.func190 rfl (by kernel_rfl) (Nat.le_of_ble_eq_true rfl) fun X hX => ?_
 have G0 := G
 obtain ⟨nR, nb, ns, d1, d2, d3, d4, d5, d6⟩ := G
 have d1' := Ne.symm d1
 have d2' := Ne.symm d2
 have d3' := Ne.symm d3
 generalize hrs : restL buf r w src = rest at hX ⊢
 (repeat simp only[push_cast,go_sem_proc,↓ite_only])
 refine M_cut (fun tm h1 => Keep g.X h h1 ∧ tget tm 0 = ptr g.R 0 ∧ ∃ buf1 r1 w1 sv1 src1 vl, BRl h1 g buf1 r1 w1 false lb lrs sv1 src1 ∧ restL buf1 r1 w1 src1 = (sliceL rest).2.2 ∧ tget tm 4 = vl ∧ tget tm 5 = errK (sliceL rest).2.1 ∧ Lin g buf1 r1 vl (sliceL rest).1 ∧
   ((sliceL rest).2.1 = 2 → r1 = 4096 ∧ w1 = 4096 ∧ buf1 = (sliceL rest).1 ∧ vl = .slice (some ⟨g.bb, 0, none⟩) 4096 4096)) (fun R2 hR2 hE2 => ?_) ?_
 ·(repeat simp only[push_cast,go_sem_proc,↓ite_only,M_block])
  refine M_loop (fun tm h1 k => Keep g.X h h1 ∧ tget tm 0 = ptr g.R 0 ∧ tget tm 1 = B 10 ∧ tget tm 5 = .nilIface ∧ ∃ buf1 r1 w1 er1 sv1 src1 s, tget tm 6 = I (s : Nat) ∧ k = src1.length + (match er1 with | true => 0 | false => 1) ∧ BRl h1 g buf1 r1 w1 er1 lb lrs sv1 src1 ∧ restL buf1 r1 w1 src1 = rest ∧
   (er1 = true → src1 = [] ∧ r1 = 0 ∧ w1 < 4096 ∧ s = w1) ∧ r1 + s ≤ w1 ∧ (rest.take s).all (difB 10) = true) (src.length + 1)
   ⟨.refl _ _, (by simp only[zT,Nat.reduceBEq]), (by simp only[zT,Nat.reduceBEq]), (by simp only[zT,Nat.reduceBEq]), buf, r, w, false, sv, src, 0, (by simp only[zT,Nat.reduceBEq];rfl), rfl, b, hrs, (nomatch ·), b.rw, rfl⟩ ?_
  rintro tm1 h1 k R ⟨k1, t0, t1, t5, buf1, r1, w1, er1, sv1, src1, s, t6, rfl, b1, hrest, her, hs, hall⟩ hR hE
  have bl1 := b1.bl
  have rd1 := b1.rd
  have hrw1 := b1.rw
  have hww1 := b1.ww
  have hlen1 := restL_len (src := src1) b1.bl b1.rw b1.ww
  rw [hrest] at hlen1
  have hts : ((r1 : Int) + (s : Int)).toNat = r1 + s := by omega
  have hbuf : (buf1.drop r1).take (w1 - r1) = rest.take s ++ (buf1.drop (r1 + s)).take (w1 - (r1 + s)) := by
   have e1 : (buf1.drop r1).take (w1 - r1) = rest.take (w1 - r1) := by
    rw [← hrest]; unfold restL
    rw [List.take_left' (by rw [List.length_take, List.length_drop, bl1]; omega)]
   have e2 : rest.take s = (buf1.drop r1).take s := by
    have : (rest.take (w1 - r1)).take s = rest.take s := by rw [List.take_take, Nat.min_eq_left (by omega)]
    rw [← this, ← e1, List.take_take, Nat.min_eq_left (by omega)]
   rw [e2, ← List.drop_drop, show w1 - r1 = s + (w1 - (r1 + s)) by omega, List.take_add]
  have hrest2 : rest = rest.take s ++ ((buf1.drop (r1 + s)).take (w1 - (r1 + s)) ++ src1) := by
   rw [← List.append_assoc, ← hbuf]; exact hrest.symm
  have hst : (rest.take s).length = s := by rw [List.length_take]; omega
  have hdat := b1.cut (o := r1 + s) (n := w1 - (r1 + s)) (by omega)
  have hcl : ((buf1.drop (r1 + s)).take (w1 - (r1 + s))).length = w1 - (r1 + s) := by rw [List.length_take, List.length_drop, bl1]; omega
  generalize hL : (buf1.drop (r1 + s)).take (w1 - (r1 + s)) = L at hdat hrest2 hcl hbuf
  (repeat(first|(simp(disch:=omega)only[push_cast,go_sem_proc,↓ite_only,M_block,t0, t1, t6, rd1, hts])|(with_reducible refine⟨by omega,?_⟩)|(with_reducible refine M_draw (id:=2) p190_2 ?_ ?_;focus kernel_rfl)))
  refine callP_of (indexByte_ok216 10 hdat (by omega)) ?_
  rintro v h2 ⟨rfl, rfl⟩
  by_cases hit : idxL L 10 < L.length
  ·have hidx : idxL rest 10 = s + idxL L 10 := by
    rw [hrest2, idx_skip hall, hst, idx_in hit]
   have hV := idxV_hit hit
   rw [hV]
   generalize hi : idxL L 10 = i at hit hidx
   have hir : s + i < rest.length := by rw [hlen1]; omega
   have hge : decide ((0 : Int) ≤ (i : Int)) = true := decide_eq_true (by omega)
   have hhi : ((r1 : Int) + ((i : Int) + (s : Int)) + 1).toNat = r1 + (s + i + 1) := by omega
   have hq : (4096 = r1) = False := eq_false (by omega)
   have hsub : r1 + (s + i + 1) - r1 = s + i + 1 := by omega
   have hS := sliceL_hit hidx hir (by omega)
   have hI : ((r1 + (s + i + 1) : Nat) : Int) = (r1 : Int) + ((i : Int) + (s : Int) + 1) := by omega
   (repeat(first|(simp(disch:=first|omega|(simp only[zN];omega))only[push_cast,go_sem_proc,↓ite_only,M_block,t0, t1, t6, rd1, hge, hhi, hq, hsub])|(with_reducible refine⟨by omega,?_⟩)|(with_reducible refine M_draw (id:=5) p190_5 ?_ ?_;focus kernel_rfl)))
   (with_reducible refine hE _ _ _ _ (nomatch ·) ?_)
   (repeat simp only[push_cast,go_sem_proc,↓ite_only,M_block])
   have er0 : er1 = false := by cases er1 with | false => rfl | true => have := her rfl; omega
   subst er0
   refine hR2 _ _ ⟨(by repeat (first | exact Keep.refl _ _ | assumption | refine Keep.put ?_ (by first | (left; simp; done) | (right; omega)) _ | refine Keep.new ?_ _)), ‹_›, buf1, r1 + (s + i + 1), w1, sv1, src1, .slice (some ⟨g.bb, r1, none⟩) (s + i + 1) (4096 - r1), b1.re G0 (by repeat (first | exact Keep.refl _ _ | assumption | refine Keep.put ?_ (by first | (left; simp; done) | (right; omega)) _ | refine Keep.new ?_ _)) (by rw [hI]; exact (by first|assumption|(simp(disch:=first|assumption|omega)only[at_put_eq,at_put_ne,at_new_eq,at_new_ne,zN,ne_eq,not_false_eq_true];first|done|assumption|rfl))) (by omega) hww1, ?_, (by simp only[zT,Nat.reduceBEq]), ?_, ?_, ?_⟩
   ·rw [hS, restL_drop bl1 hrw1 hww1 (by omega), hrest]
   ·rw [hS]; assumption
   ·rw [hS]
    refine .inr ⟨r1, 4096 - r1, ?_, ?_, ?_, ?_⟩
    ·rw [List.length_take, Nat.min_eq_left (by omega)]
    ·rw [List.length_take]; omega
    ·rw [List.length_take]; omega
    ·rw [List.length_take, Nat.min_eq_left (by omega), ← hrest, restL_take bl1 hrw1 hww1 (by omega)]
   ·rw [hS]; intro e; cases e
  ·have hmiss := idx_all hit
   have hV := idxV_miss hit
   rw [hV]
   have hallr : (rest.take (w1 - r1)).all (difB 10) = true := by
    have : rest.take (w1 - r1) = rest.take s ++ L := by
     rw [← hbuf, ← hrest, restL_take bl1 hrw1 hww1 (Nat.le_refl _)]
    rw [this, List.all_append, hall, hmiss]
    rfl
   have hwt1 : ((w1 : Int) - (r1 : Int)).toNat = w1 - r1 := by omega
   cases er1 with
   | true =>
    obtain ⟨rfl, rfl, hw1, hsw⟩ := her rfl
    have hsw' := hsw.symm
    subst hsw'
    have hrl : rest.length = w1 := by rw [hlen1]; simp
    have hS := sliceL_end (rest := rest) (by rw [show w1 - 0 = rest.length by omega, List.take_length] at hallr; rw [idx_none hallr]; omega) (by omega)
    (repeat(first|(simp(disch:=first|omega|(simp only[zN];omega))only[push_cast,go_sem_proc,↓ite_only,M_block,t0, t1, t6, rd1, errOf_t])|(with_reducible refine⟨by omega,?_⟩)|(with_reducible refine M_draw (id:=8) p190_8 ?_ ?_;focus kernel_rfl)))
    refine callM_of (readErr_ok G0 (b1.re G0 (r' := w1) (w' := w1) (er' := true) (by repeat (first | exact Keep.refl _ _ | assumption | refine Keep.put ?_ (by first | (left; simp; done) | (right; omega)) _ | refine Keep.new ?_ _)) (by first|assumption|(simp(disch:=first|assumption|omega)only[at_put_eq,at_put_ne,at_new_eq,at_new_ne,zN,ne_eq,not_false_eq_true];first|done|assumption|rfl)) (Nat.le_refl _) hww1)) ?_
    rintro v h3 ⟨rfl, k3, hbb, b3⟩
    (repeat simp only[push_cast,go_sem_proc,↓ite_only,M_block,t0, errOf_t])
    (with_reducible refine hE _ _ _ _ (nomatch ·) ?_)
    (repeat simp only[push_cast,go_sem_proc,↓ite_only,M_block])
    refine hR2 _ _ ⟨?_, ‹_›, buf1, w1, w1, sv1, [], .slice (some ⟨g.bb, 0, none⟩) w1 4096, b3, ?_, (by simp only[zT,Nat.reduceBEq]), ?_, ?_, ?_⟩
    ·exact (k1.trans (by repeat (first | exact Keep.refl _ _ | assumption | refine Keep.put ?_ (by first | (left; simp; done) | (right; omega)) _ | refine Keep.new ?_ _))).trans k3
    ·rw [hS]; unfold restL; simp
    ·rw [hS]; exact (by simp only[zT,Nat.reduceBEq];rfl)
    ·rw [hS]
     refine .inr ⟨0, 4096, by rw [hrl], by show rest.length ≤ 4096; omega, by show 0 + rest.length ≤ w1; omega, ?_⟩
     rw [← hrest]; unfold restL; simp [bl1]
    ·rw [hS]; intro e; cases e
   | false =>
    (repeat(first|(simp(disch:=omega)only[push_cast,go_sem_proc,↓ite_only,M_block,t0, t1, t6, rd1, errOf_f])|(with_reducible refine M_draw (id:=11) p190_11 ?_ ?_;focus kernel_rfl)))
    refine callP_of (buffered_ok b1) ?_
    rintro v h3 ⟨rfl, rfl⟩
    by_cases hf : 4096 ≤ w1 - r1
    ·have hr0 : r1 = 0 := by omega
     have hw4 : w1 = 4096 := by omega
     subst hr0 hw4
     have hS := sliceL_full (rest := rest) (idx_ge (by omega) hallr) (by omega)
     (repeat(first|(simp(disch:=first|omega|(simp only[zN];omega))only[push_cast,go_sem_proc,↓ite_only,M_block,t0, t1, t6, rd1])|(with_reducible refine⟨by omega,?_⟩)))
     (with_reducible refine hE _ _ _ _ (nomatch ·) ?_)
     (repeat simp only[push_cast,go_sem_proc,↓ite_only,M_block])
     refine hR2 _ _ ⟨(by repeat (first | exact Keep.refl _ _ | assumption | refine Keep.put ?_ (by first | (left; simp; done) | (right; omega)) _ | refine Keep.new ?_ _)), ‹_›, buf1, 4096, 4096, sv1, src1, .slice (some ⟨g.bb, 0, none⟩) 4096 4096, b1.re G0 (by repeat (first | exact Keep.refl _ _ | assumption | refine Keep.put ?_ (by first | (left; simp; done) | (right; omega)) _ | refine Keep.new ?_ _)) (by first|assumption|(simp(disch:=first|assumption|omega)only[at_put_eq,at_put_ne,at_new_eq,at_new_ne,zN,ne_eq,not_false_eq_true];first|done|assumption|rfl)) (Nat.le_refl _) (Nat.le_refl _), ?_, (by simp only[zT,Nat.reduceBEq]), ?_, ?_, ?_⟩
     ·rw [hS, ← hrest]; unfold restL; simp [bl1]
     ·rw [hS]; exact (by simp only[zT,Nat.reduceBEq];rfl)
     ·rw [hS]
      refine .inr ⟨0, 4096, by rw [List.length_take]; congr 1; omega, by rw [List.length_take]; omega, by rw [List.length_take]; omega, ?_⟩
      rw [← hrest]; unfold restL; simp [bl1]
     ·rw [hS]; exact fun _ => ⟨rfl, rfl, by rw [← hrest]; unfold restL; simp [bl1, List.take_of_length_le], rfl⟩
    ·have hf2 : decide ((4096 : Int) ≤ (w1 : Int) - (r1 : Int)) = false := decide_eq_false (by omega)
     (repeat(first|(simp(disch:=omega)only[push_cast,go_sem_proc,↓ite_only,M_block,t0, t1, t6, rd1, hf2])|(with_reducible refine M_draw (id:=15) p190_15 ?_ ?_;focus kernel_rfl)))
     refine callM_of (bfill_ok G0 b1 (by omega)) ?_
     rintro v h4 ⟨k4, buf2, sv2, b2, e2⟩
     (repeat simp only[push_cast,go_sem_proc,↓ite_only,M_block,t0, t1, t5])
     have hr2 := (restL_fill rfl e2).trans hrest
     have hI2 : ((w1 - r1 : Nat) : Int) = (w1 : Int) - (r1 : Int) := by omega
     have hm := restL_len (src := src1.drop (4096 - (w1 - r1))) b2.bl b2.rw b2.ww
     cases hse : src1.isEmpty with
     | true =>
      have hs0 : src1 = [] := by simpa using hse
      subst hs0
      refine hR _ _ 0 (by simp) ⟨k1.trans k4, ‹_›, ‹_›, ‹_›, buf2, 0, w1 - r1, true, sv2, [], w1 - r1, by rw [hI2]; exact (by simp only[zT,Nat.reduceBEq]), by simp, by simpa using b2, by simpa using hr2, fun _ => ⟨rfl, rfl, by omega, rfl⟩, by omega, hallr⟩
     | false =>
      have hs0 : 0 < src1.length := List.length_pos_iff.2 (by intro e; rw [e] at hse; simp at hse)
      rw [hse] at b2
      refine hR _ _ ((src1.drop (4096 - (w1 - r1))).length + 1) (by simp only [List.length_drop]; omega) ⟨k1.trans k4, ‹_›, ‹_›, ‹_›, buf2, 0, _, false, sv2, _, w1 - r1, by rw [hI2]; exact (by simp only[zT,Nat.reduceBEq]), by rfl, b2, hr2, (nomatch ·), by omega, hallr⟩
 ·rintro tm1 h1 ⟨k1, t0, buf1, r1, w1, sv1, src1, vl, b1, hrest, t4, t5, hlin, hfull⟩
  have rd1 := b1.rd
  rcases hlin with ⟨hl0, a, cp, rfl⟩ | ⟨o, cp, rfl, hcp, hor, hbo⟩
  ·(repeat simp(disch:=omega)only[push_cast,go_sem_proc,↓ite_only,M_block,t4])
   (repeat simp only[push_cast,go_sem_proc,↓ite_only,M_block,t0, t4, t5])
   ((with_reducible refine hX _ _ _ (fun j hj => nomatch hj) ?_); simp only[push_cast,go_sem_proc,↓ite_only,M_block,Tryz.results190])
   exact ⟨k1, buf1, r1, w1, lb, lrs, sv1, src1, _, b1, hrest, by rw [t4, t5], .inl ⟨hl0, _, _, rfl⟩, hfull⟩
  ·rcases Nat.eq_zero_or_pos (sliceL rest).1.length with h0 | h0
   ·rw [h0] at t4
    (repeat simp(disch:=omega)only[push_cast,go_sem_proc,↓ite_only,M_block,t4])
    (repeat simp only[push_cast,go_sem_proc,↓ite_only,M_block,t0, t4, t5])
    ((with_reducible refine hX _ _ _ (fun j hj => nomatch hj) ?_); simp only[push_cast,go_sem_proc,↓ite_only,M_block,Tryz.results190])
    exact ⟨k1, buf1, r1, w1, lb, lrs, sv1, src1, _, b1, hrest, by rw [t4, t5], .inl ⟨List.eq_nil_of_length_eq_zero h0, _, _, rfl⟩, fun e => by obtain ⟨_, _, e1, e2⟩ := hfull e; rw [← e1, b1.bl] at h0; omega⟩
   ·have hbl := b1.bl
    have hbf := b1.bf
    have hrw := b1.rw
    have hww := b1.ww
    have hlm : (((sliceL rest).1.length : Int) - 1).toNat = (sliceL rest).1.length - 1 := by omega
    have hge : decide ((0 : Int) ≤ ((sliceL rest).1.length : Int) - 1) = true := decide_eq_true (by omega)
    (repeat(first|(simp(disch:=omega)only[push_cast,go_sem_proc,↓ite_only,M_block,t0, t4, t5, rd1, hlm, hge])|(with_reducible refine⟨by omega,?_⟩)))
    (repeat(first|(simp(disch:=first|omega|(simp only[zN];omega))only[push_cast,go_sem_proc,↓ite_only,M_block,t0, t4, t5, rd1, hlm, hbf, hbl])|(with_reducible refine⟨by omega,?_⟩)))
    ((with_reducible refine hX _ _ _ (fun j hj => nomatch hj) ?_); simp(disch:=omega)only[push_cast,go_sem_proc,↓ite_only,M_block,Tryz.results190])
    exact ⟨(by repeat (first | exact Keep.refl _ _ | assumption | refine Keep.put ?_ (by first | (left; simp; done) | (right; omega)) _ | refine Keep.new ?_ _)), buf1, r1, w1, _, _, sv1, src1, _, b1.re G0 (by repeat (first | exact Keep.refl _ _ | assumption | refine Keep.put ?_ (by first | (left; simp; done) | (right; omega)) _ | refine Keep.new ?_ _)) (by first|assumption|(simp(disch:=first|assumption|omega)only[at_put_eq,at_put_ne,at_new_eq,at_new_ne,zN,ne_eq,not_false_eq_true];first|done|assumption|rfl)) hrw hww, hrest, by rw [t4, t5], .inr ⟨o, cp, rfl, hcp, hor, hbo⟩, hfull⟩
end Go.Proofs.YtbjaapiliegegaaGreatDoor.Sy
end
section
namespace Go.Proofs.YtbjaapiliegegaaGreatDoor.Sy
open Go
set_option maxRecDepth 100000
variable {w0 : World} {h : Heap}
def dropCR (l : Str) : Str := match decide (0 < l.length ∧ (nth l (l.length - 1)).toNat = 13) with | true => l.take (l.length - 1) | false => l
theorem dropCR_yes {l : Str} (h : 0 < l.length ∧ (nth l (l.length - 1)).toNat = 13) : dropCR l = l.take (l.length - 1) := by unfold dropCR; rw [decide_eq_true h]
theorem dropCR_no {l : Str} (h : ¬(0 < l.length ∧ (nth l (l.length - 1)).toNat = 13)) : dropCR l = l := by unfold dropCR; rw [decide_eq_false h]
def pieceL (rest : Str) : Str × Bool × Bool × Str :=
 match decide (idxL rest 10 < rest.length ∧ idxL rest 10 < 4096), decide (4096 ≤ rest.length), decide ((nth rest 4095).toNat = 13) with
 | true, _, _ => (dropCR (rest.take (idxL rest 10)), false, false, rest.drop (idxL rest 10 + 1))
 | false, true, true => (rest.take 4095, true, false, rest.drop 4095)
 | false, true, false => (rest.take 4096, true, false, rest.drop 4096)
 | false, false, _ => (rest, false, rest.isEmpty, [])
theorem idx_nth : ∀ {l : Str} {d : UInt8}, idxL l d < l.length → nth l (idxL l d) = d
 | [], d, h => by simp [idxL] at h
 | c :: l, d, h => by
  unfold idxL at h ⊢
  rw [List.takeWhile_cons] at h ⊢
  by_cases hc : difB d c = true
  ·rw [if_pos hc] at h ⊢
   have := idx_nth (l := l) (d := d) (by simpa [idxL] using h)
   simpa [idxL, nth] using this
  ·rw [if_neg hc]
   have : c = d := by simpa [difB] using hc
   simp [nth, this]
theorem nth_take {l : Str} {k n : Nat} (h : k < n) : nth (l.take n) k = nth l k := by
 unfold nth
 rw [List.getD_eq_getElem?_getD, List.getD_eq_getElem?_getD, List.getElem?_take_of_lt h]
theorem lin_nth {buf l : Str} {o k : Nat} (e : (buf.drop o).take l.length = l) (hk : k < l.length) : nth buf (o + k) = nth l k := by
 rw [← nth_drop, ← nth_take (n := l.length) hk, e]
theorem lin_take {buf l : Str} {o k : Nat} (e : (buf.drop o).take l.length = l) (hk : k ≤ l.length) : (buf.drop o).take k = l.take k := by
 have := congrArg (List.take k) e
 rwa [List.take_take, Nat.min_eq_left hk] at this
set_option maxHeartbeats 8000000 in
theorem readLine_ok {g : Bio} {buf : Str} {r w : Nat} {lb lrs : Int} {sv : Value} {src : Str} (G : g.Ok w0.heap.size) (b : BRl h g buf r w false lb lrs sv src) :
  ACall Tryz.prog w0 139 [ptr g.R 0] h (fun v h' => Keep g.X h h' ∧ ∃ buf' r' w' lb' lrs' sv' src' vl, BRl h' g buf' r' w' false lb' lrs' sv' src' ∧ restL buf' r' w' src' = (pieceL (restL buf r w src)).2.2.2 ∧
   v = .tuple #[vl, .bool (pieceL (restL buf r w src)).2.1, errOf (pieceL (restL buf r w src)).2.2.1] ∧ Lin g buf' r' vl (pieceL (restL buf r w src)).1) := by
 refine ACall.known fun hKn => ?_
 obtain ⟨hN, hB⟩ := hKn
 refine ACall.run noCount mixed Tryz.func139 rfl (by kernel_rfl) (Nat.le_of_ble_eq_true rfl) fun X hX => ?_
 have G0 := G
 obtain ⟨nR, nb, ns, d1, d2, d3, d4, d5, d6⟩ := G
 have d1' := Ne.symm d1
 have d2' := Ne.symm d2
 have d3' := Ne.symm d3
 (repeat simp only[push_cast,go_sem_proc,↓ite_only,M_block])
 refine callM_of (readSlice_ok G0 b) ?_
 rintro v h1 ⟨k1, buf1, r1, w1, lb1, lrs1, sv1, src1, vl, b1, hrest, rfl, hlin, hfull⟩
 generalize hrs : restL buf r w src = rest at *
 have rd1 := b1.rd
 have bf1 := b1.bf
 have bl1 := b1.bl
 have hrw1 := b1.rw
 have hww1 := b1.ww
 by_cases hit : idxL rest 10 < rest.length ∧ idxL rest 10 < 4096
 ·
  have hP : pieceL rest = (dropCR (rest.take (idxL rest 10)), false, false, rest.drop (idxL rest 10 + 1)) := by unfold pieceL; rw [decide_eq_true hit]
  have hS := sliceL_hit rfl hit.1 hit.2
  have h10 := idx_nth hit.1
  rw [hP] at hX
  rw [hS] at hlin hrest hfull ⊢
  generalize idxL rest 10 = i at *
  have hil : (rest.take (i + 1)).length = i + 1 := by rw [List.length_take]; omega
  rcases hlin with ⟨hl0, _⟩ | ⟨o, cp, rfl, hcp, hor, hbo⟩
  ·have := congrArg List.length hl0
   rw [hil] at this; simp at this
  simp only [] at hcp hor hbo hrest
  have hlen1 : decide ((i : Int) + 1 = 0) = false := decide_eq_false (by omega)
  rw [hil] at hcp hor
  have hcp0 : (cp = 0) = False := eq_false (by omega)
  have hl10 : nth buf1 (o + i) = 10 := by
   rw [lin_nth hbo (by rw [hil]; omega), nth_take (by omega), h10]
  have hl10' : ((nth buf1 (o + i)).toNat : Int) = 10 := by rw [hl10]; rfl
  have hto' : ((i : Int) + 1 - 1).toNat = i := by omega
  have hti : (rest.take i).length = i := by rw [List.length_take]; omega
  have hli : nth buf1 (o + (i - 1)) = nth (rest.take i) (i - 1) ∨ i = 0 := by
   rcases Nat.eq_zero_or_pos i with h0 | h0
   ·exact .inr h0
   ·left
    rw [lin_nth hbo (by rw [hil]; omega), nth_take (by omega), nth_take (by omega)]
  by_cases hcr : 0 < i ∧ (nth buf1 (o + (i - 1))).toNat = 13
  ·have hD : dropCR (rest.take i) = rest.take (i - 1) := by
    rw [dropCR_yes (by rw [hti]; exact ⟨hcr.1, by rw [← hli.resolve_right (by omega)]; exact hcr.2⟩), List.take_take, hti, Nat.min_eq_left (by omega)]
   have hgt : decide ((1 : Int) < (i : Int) + 1) = true := decide_eq_true (by omega)
   have hto2 : ((i : Int) + 1 - 2).toNat = i - 1 := by omega
   have h13 : ((nth buf1 (o + (i - 1))).toNat : Int) = 13 := by omega
   (repeat(first|(simp(disch:=omega)only[push_cast,go_sem_proc,↓ite_only,M_block,hil, errK0, hlen1, hto', bf1, bl1, hl10', hgt, hto2, h13, hcp0])|(with_reducible refine⟨by omega,?_⟩)))
   ((with_reducible refine hX _ _ _ (fun j hj => nomatch hj) ?_); simp only[push_cast,go_sem_proc,↓ite_only,M_block,Tryz.results139])
   refine ⟨k1, buf1, r1, w1, lb1, lrs1, sv1, src1, _, b1, hrest, rfl, ?_⟩
   rw [hD]
   refine .inr ⟨o, cp, ?_, ?_, ?_, ?_⟩
   ·rw [List.length_take, Nat.min_eq_left (by omega)]
   ·rw [List.length_take]; omega
   ·rw [List.length_take]; omega
   ·rw [List.length_take, Nat.min_eq_left (by omega), lin_take hbo (by rw [hil]; omega), List.take_take, Nat.min_eq_left (by omega)]
  ·have hD : dropCR (rest.take i) = rest.take i := by
    refine dropCR_no (fun hh => hcr ?_)
    rw [hti] at hh
    exact ⟨hh.1, by rw [hli.resolve_right (by omega)]; exact hh.2⟩
   have hfin : ∀ tm, tget tm 2 = .slice (some ⟨g.bb, o, none⟩) i cp → tget tm 3 = .bool false → tget tm 4 = .nilIface → X .ret tm [] h1 := by
    intro tm t2 t3 t4
    ((with_reducible refine hX _ _ _ (fun j hj => nomatch hj) ?_); simp only[push_cast,go_sem_proc,↓ite_only,M_block,Tryz.results139,t2, t3, t4])
    refine ⟨k1, buf1, r1, w1, lb1, lrs1, sv1, src1, _, b1, hrest, rfl, ?_⟩
    rw [hD]
    refine .inr ⟨o, cp, by rw [hti], by rw [hti]; omega, by rw [hti]; omega, ?_⟩
    rw [hti, lin_take hbo (by rw [hil]; omega), List.take_take, Nat.min_eq_left (by omega)]
   have hto1 : ((i : Int) + 1 - 1).toNat = i := by omega
   rcases Nat.eq_zero_or_pos i with h0 | h0
   ·subst h0
    have hgt : decide ((1 : Int) < ((0 : Nat) : Int) + 1) = false := by decide
    have hl0' : ((nth buf1 o).toNat : Int) = 10 := by simpa using hl10'
    (repeat(first|(simp(disch:=omega)only[push_cast,go_sem_proc,↓ite_only,M_block,hil, errK0, hlen1, hto', bf1, bl1, hl0', hgt, hcp0])|(with_reducible refine⟨by omega,?_⟩)))
    exact hfin _ (by simp only[zT,Nat.reduceBEq]) (by simp only[zT,Nat.reduceBEq]) (by simp only[zT,Nat.reduceBEq])
   ·have hgt : decide ((1 : Int) < (i : Int) + 1) = true := decide_eq_true (by omega)
    have hto2 : ((i : Int) + 1 - 2).toNat = i - 1 := by omega
    have h13 : decide (((nth buf1 (o + (i - 1))).toNat : Int) = 13) = false := decide_eq_false (by omega)
    (repeat(first|(simp(disch:=omega)only[push_cast,go_sem_proc,↓ite_only,M_block,hil, errK0, hlen1, hto', bf1, bl1, hl10', hgt, hto2, h13, hcp0])|(with_reducible refine⟨by omega,?_⟩)))
    exact hfin _ (by simp only[zT,Nat.reduceBEq]) (by simp only[zT,Nat.reduceBEq]) (by simp only[zT,Nat.reduceBEq])
 ·have hmiss : ∀ k, k ≤ rest.length → k ≤ 4096 → (rest.take k).all (difB 10) = true := by
   intro k hk1 hk2
   have hle : k ≤ idxL rest 10 := by
    have := idx_le rest 10
    omega
   have : rest.take k = (rest.takeWhile (difB 10)).take k := by
    have h1 : rest.takeWhile (difB 10) = rest.take (idxL rest 10) := by
     have := List.takeWhile_prefix (l := rest) (difB 10)
     exact (List.prefix_iff_eq_take.1 this)
    rw [h1, List.take_take, Nat.min_eq_left hle]
   rw [this]
   exact List.all_eq_true.2 fun x hx => List.all_eq_true.1 List.all_takeWhile x (List.mem_of_mem_take hx)
  rcases Nat.lt_or_ge rest.length 4096 with hlt | hge
  ·
   have hmi : ¬idxL rest 10 < rest.length := fun hh => hit ⟨hh, by omega⟩
   have hP : pieceL rest = (rest, false, rest.isEmpty, []) := by
    unfold pieceL; rw [decide_eq_false hit, decide_eq_false (by omega)]
   have hS := sliceL_end hmi hlt
   rw [hP] at hX
   rw [hS] at hlin hrest hfull ⊢
   simp only [] at hlin hrest
   rcases Nat.eq_zero_or_pos rest.length with h0 | h0
   ·have hr0 := List.eq_nil_of_length_eq_zero h0
    subst hr0
    obtain ⟨a, cp, rfl⟩ := hlin.len
    (repeat simp only[push_cast,go_sem_proc,↓ite_only,M_block,errK1])
    ((with_reducible refine hX _ _ _ (fun j hj => nomatch hj) ?_); simp only[push_cast,go_sem_proc,↓ite_only,M_block,Tryz.results139])
    exact ⟨k1, buf1, r1, w1, lb1, lrs1, sv1, src1, _, b1, hrest, rfl, .inl ⟨rfl, _, _, rfl⟩⟩
   ·rcases hlin with ⟨hl0, _⟩ | ⟨o, cp, rfl, hcp, hor, hbo⟩
    ·rw [hl0] at h0; simp at h0
    have hne : decide ((rest.length : Int) = 0) = false := decide_eq_false (by omega)
    have hlm : ((rest.length : Int) - 1).toNat = rest.length - 1 := by omega
    have hn10 : decide (((nth buf1 (o + (rest.length - 1))).toNat : Int) = 10) = false := by
     refine decide_eq_false (fun e => ?_)
     have h1 := hmiss rest.length (Nat.le_refl _) (by omega)
     rw [List.take_length] at h1
     rw [lin_nth hbo (by omega)] at e
     have h2 := List.all_eq_true.1 h1 (nth rest (rest.length - 1)) (List.mem_of_getElem? (nth_get (by omega)))
     have h3 := byte_eq (b := 10) e
     rw [h3] at h2
     revert h2; decide
    have hemp : rest.isEmpty = false := by cases rest with | nil => simp at h0 | cons _ _ => rfl
    (repeat(first|(simp(disch:=omega)only[push_cast,go_sem_proc,↓ite_only,M_block,errK1, hne, hlm, bf1, bl1, hn10])|(with_reducible refine⟨by omega,?_⟩)))
    rw [hemp] at hX
    ((with_reducible refine hX _ _ _ (fun j hj => nomatch hj) ?_); simp only[push_cast,go_sem_proc,↓ite_only,M_block,Tryz.results139])
    exact ⟨k1, buf1, r1, w1, lb1, lrs1, sv1, src1, _, b1, hrest, rfl, .inr ⟨o, cp, rfl, hcp, hor, hbo⟩⟩
  ·have hS := sliceL_full (rest := rest) (by have h1 := hmiss 4096 hge (Nat.le_refl _); exact idx_ge hge h1) hge
   rw [hS] at hlin hrest hfull ⊢
   obtain ⟨rfl, rfl, hbe, rfl⟩ := hfull rfl
   simp only [] at hrest hbe
   have hn : nth buf1 4095 = nth rest 4095 := by rw [hbe, nth_take (by omega)]
   by_cases hcr : (nth rest 4095).toNat = 13
   ·have hP : pieceL rest = (rest.take 4095, true, false, rest.drop 4095) := by
     unfold pieceL; rw [decide_eq_false hit, decide_eq_true hge, decide_eq_true hcr]
    rw [hP] at hX
    have h13 : ((nth buf1 4095).toNat : Int) = 13 := by rw [hn]; omega
    (repeat(first|(simp(disch:=first|omega|(simp only[zN];omega))only[push_cast,go_sem_proc,↓ite_only,M_block,errK2, rd1, bf1, bl1, h13])|(with_reducible refine⟨by omega,?_⟩)))
    ((with_reducible refine hX _ _ _ (fun j hj => nomatch hj) ?_); simp only[push_cast,go_sem_proc,↓ite_only,M_block,Tryz.results139])
    refine ⟨(by repeat (first | exact Keep.refl _ _ | assumption | refine Keep.put ?_ (by first | (left; simp; done) | (right; omega)) _ | refine Keep.new ?_ _)), buf1, 4095, 4096, lb1, lrs1, sv1, src1, _, b1.re G0 (by repeat (first | exact Keep.refl _ _ | assumption | refine Keep.put ?_ (by first | (left; simp; done) | (right; omega)) _ | refine Keep.new ?_ _)) (by first|assumption|(simp(disch:=first|assumption|omega)only[at_put_eq,at_put_ne,at_new_eq,at_new_ne,zN,ne_eq,not_false_eq_true];first|done|assumption|rfl)) (by omega) (Nat.le_refl _), ?_, rfl, .inr ⟨0, 4096, by rw [List.length_take]; congr 1; omega, by rw [List.length_take]; omega, by rw [List.length_take]; omega, ?_⟩⟩
    ·have h2 : rest.drop 4095 = (rest.take 4096).drop 4095 ++ rest.drop 4096 := by
      rw [← List.drop_append_of_le_length (by rw [List.length_take]; omega), List.take_append_drop]
     rw [h2, ← hrest, ← hbe]
     unfold restL
     rw [List.take_of_length_le (by rw [List.length_drop, bl1]; omega), Nat.sub_self, List.take_zero, List.nil_append]
    ·rw [hbe, List.length_take, Nat.min_eq_left (by omega), List.drop_zero, List.take_take]
     rfl
   ·have hP : pieceL rest = (rest.take 4096, true, false, rest.drop 4096) := by
     unfold pieceL; rw [decide_eq_false hit, decide_eq_true hge, decide_eq_false hcr]
    rw [hP] at hX
    have h13 : decide (((nth buf1 4095).toNat : Int) = 13) = false := decide_eq_false (by rw [hn]; omega)
    (repeat simp(disch:=omega)only[push_cast,go_sem_proc,↓ite_only,M_block,errK2, rd1, bf1, bl1, h13])
    ((with_reducible refine hX _ _ _ (fun j hj => nomatch hj) ?_); simp only[push_cast,go_sem_proc,↓ite_only,M_block,Tryz.results139])
    exact ⟨k1, buf1, 4096, 4096, lb1, lrs1, sv1, src1, _, b1, hrest, rfl, hlin⟩
end Go.Proofs.YtbjaapiliegegaaGreatDoor.Sy
end
