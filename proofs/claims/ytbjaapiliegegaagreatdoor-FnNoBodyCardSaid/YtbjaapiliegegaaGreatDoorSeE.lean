/- Of the proof of FnNoBody: SeE. -/
import Derived.Test.YtbjaapiliegegaaGreatDoorNb32
set_option linter.unusedVariables false
set_option linter.unusedSimpArgs false
namespace Go.Proofs.YtbjaapiliegegaaGreatDoor.Sy
open Go
set_option maxRecDepth 100000
variable {w0 : World} {h : Heap}
@[push_cast] def p107_43 : Plan := [(0, []), (1, []), (2, []), (3, []), (4, []), (5, [])]
theorem Keep.via2 {X Y : List Nat} {a b c : Heap} (x : Keep X a b) (y : Keep Y b c) (hY : ∀ k ∈ Y, k ∈ X ∨ a.n ≤ k) : Keep X a c :=
 ⟨Nat.le_trans x.1 y.1, fun i hi hX => (y.2 i (Nat.lt_of_lt_of_le hi x.1) (fun e => by
  rcases hY i e with hk | hk
  ·exact hX hk
  ·omega)).trans (x.2 i hi hX)⟩
theorem HMap.forget {own : Nat → Prop} {mb : Nat} {hs : Hdr} {xs : List Slot} (m : HMap own h mb hs xs) : HMap own h mb hs [] := by
 obtain ⟨es, ms, clock, m⟩ := m
 exact ⟨es, ms, clock, m.hs', m.at', m.rel, by rw [List.append_nil]; exact (List.pairwise_append.1 m.dis).1, m.nod, m.omb, m.lmb, m.oes, by simp, m.brn⟩
theorem get_setH : ∀ (hs : Hdr) (k : Str) (ss : List Str) (k' : Str), getH (setH hs k ss) k' = if k = k' then some ss else getH hs k'
 | [], k, ss, k' => by
  unfold setH getH
  by_cases h : k = k'
  ·rw [decide_eq_true h, if_pos h]
  ·rw [decide_eq_false h, if_neg h]; rfl
 | p :: t, k, ss, k' => by
  unfold setH
  by_cases hp : p.1 = k
  ·rw [decide_eq_true hp]
   show getH ((p.1, ss) :: t) k' = _
   unfold getH
   by_cases h : k = k'
   ·rw [decide_eq_true (hp.trans h), if_pos h]
   ·rw [decide_eq_false (fun e => h (hp.symm.trans e)), if_neg h]
  ·rw [decide_eq_false hp]
   show getH (p :: setH t k ss) k' = _
   unfold getH
   by_cases h : p.1 = k'
   ·rw [decide_eq_true h, if_neg (fun e => hp (h.trans e.symm))]
   ·rw [decide_eq_false h]
    exact get_setH t k ss k'
theorem vals_addH (hs : Hdr) (k x k' : Str) : valsH (addH hs k x) k' = if k = k' then valsH hs k' ++ [x] else valsH hs k' := by
 unfold addH
 have e := get_setH hs k (valsH hs k ++ [x]) k'
 by_cases h : k = k'
 ·rw [if_pos h] at e ⊢
  have : valsH (setH hs k (valsH hs k ++ [x])) k' = valsH hs k ++ [x] := by
   show (getH _ _).getD [] = _
   rw [e]; rfl
  rw [this, h]
 ·rw [if_neg h] at e ⊢
  show (getH _ _).getD [] = _
  rw [e]; rfl
theorem keyForm_len (k : Str) : (keyForm k).1.length = k.length := by
 cases k with
 | nil => rfl
 | cons c r =>
  cases hall : (c :: r).all (fun c => tokB c || c == 32) with
  | false => rw [keyForm_bad (by simp) hall]
  | true =>
   cases h2 : (c :: r).contains 32 with
   | true => rw [keyForm_space (by simp) hall h2]
   | false => rw [keyForm_good (by simp) hall h2]; exact canon_len _ _
def own0 (n0 tp : Nat) (bv : Value) (i : Nat) : Prop := n0 ≤ i ∧ i ≠ blkOf tp bv
def MimeOut (tp : Nat) (g : Bio) (rest : Str) (n0 : Nat) (bv' : Value) (rem : Str) (mv ev : Value) (h' : Heap) : Prop :=
 ((fieldsL rest).2.1 = 0 → ev = .nilIface ∧ rem = rest.drop (fieldsL rest).2.2 ∧ ∃ mb, mv = .map (some mb) ∧ HMap (own0 n0 tp bv') h' mb (groupH (fieldsL rest).1) []) ∧
 ((fieldsL rest).2.1 = 1 → ev ≠ .nilIface) ∧
 (ev = .nilIface → ∃ mb hs, mv = .map (some mb) ∧ HMap (own0 n0 tp bv') h' mb hs [] ∧ ∃ x, rest = x ++ rem) ∧ (ev = .nilIface ∨ ∃ t x, ev = .iface t x)
theorem MimeOut.err {tp : Nat} {g : Bio} {rest : Str} {n0 : Nat} {bv' : Value} {rem : Str} {mv ev : Value} {h' : Heap} (h0 : (fieldsL rest).2.1 ≠ 0) (he : ∃ t x, ev = .iface t x) : MimeOut tp g rest n0 bv' rem mv ev h' := by
 obtain ⟨t, x, rfl⟩ := he
 exact ⟨fun e => absurd e h0, fun _ => by simp, fun e => by simp at e, .inr ⟨_, _, rfl⟩⟩
def StrSt (own : Nat → Prop) (h' : Heap) (mb : Nat) (hs : Hdr) (v : Value) : Prop :=
 (∃ A C, v = .slice A 0 C ∧ HMap own h' mb hs []) ∨ ∃ sb o n cs, v = .slice (some ⟨sb, o, none⟩) (n + 1) (n + 1) ∧ HMap own h' mb hs [⟨sb, o, n + 1⟩] ∧ h'.at sb = some (.cells cs 9 0 0) ∧ o + (n + 1) ≤ cs.length
theorem StrSt.map {own : Nat → Prop} {h' : Heap} {mb : Nat} {hs : Hdr} {v : Value} (s : StrSt own h' mb hs v) : HMap own h' mb hs [] := by
 rcases s with ⟨_, _, _, m⟩ | ⟨_, _, _, _, _, m, _⟩
 ·exact m
 ·exact m.forget
theorem StrSt.mono {own own' : Nat → Prop} {h' : Heap} {mb : Nat} {hs : Hdr} {v : Value} (s : StrSt own h' mb hs v) (k : ∀ i, i < h'.n → own i → own' i) : StrSt own' h' mb hs v := by
 rcases s with ⟨a, c, e, m⟩ | ⟨sb, o, n, cs, e, m, h1, h2⟩
 ·exact .inl ⟨a, c, e, m.mono k⟩
 ·exact .inr ⟨sb, o, n, cs, e, m.mono k, h1, h2⟩
theorem StrSt.keep {own : Nat → Prop} {h1 h2 : Heap} {mb : Nat} {hs : Hdr} {v : Value} {X : List Nat} (s : StrSt own h1 mb hs v) (k : Keep X h1 h2) (hX : ∀ i ∈ X, ¬own i) : StrSt own h2 mb hs v := by
 rcases s with ⟨a, c, e, m⟩ | ⟨sb, o, n, cs, e, m, g1, g2⟩
 ·exact .inl ⟨a, c, e, m.keep k hX⟩
 ·have hsb : own sb ∧ sb < h1.n := by
   obtain ⟨es, ms, clock, m⟩ := m
   exact m.oxs ⟨sb, o, n + 1⟩ (by simp)
  exact .inr ⟨sb, o, n, cs, e, m.keep k hX, (k.2 sb hsb.2 (fun hi => hX _ hi hsb.1)).trans g1, g2⟩
theorem alookup_congr {h h' : Heap} {mb : Nat} {t : TypeId} {k : Value} {ok : Bool} (e : h'.at mb = h.at mb) : alookup Tryz.prog h' t (.map (some mb)) k ok = alookup Tryz.prog h t (.map (some mb)) k ok := by
 have : entriesOf h' (some mb) = entriesOf h (some mb) := by simp only [entriesOf, e]
 unfold alookup
 cases strMap Tryz.prog t <;> cases k <;> simp only [this]
theorem cont_suffix {rem l rest' : Str} (c : ContOk rem l rest') : ∃ y, rem = y ++ rest' := by
 rcases c with ⟨_, _, _, rfl⟩ | ⟨_, _, _, ⟨_, _, rfl⟩ | ⟨_, _, x, hx⟩⟩ | ⟨_, _, _, _, rfl⟩
 ·exact ⟨_, (List.take_append_drop _ _).symm⟩
 ·exact ⟨_, (List.take_append_drop _ _).symm⟩
 ·refine ⟨rem.take (idxL rem 10 + 1) ++ x, ?_⟩
  rw [List.append_assoc, ← hx]
  exact (List.take_append_drop _ _).symm
 ·exact ⟨rem, (List.append_nil _).symm⟩
theorem cont_less {rem l rest' : Str} (c : ContOk rem l rest') : rest'.length < rem.length := by
 rcases c with ⟨q, _, _, rfl⟩ | ⟨q, _, _, ⟨_, _, rfl⟩ | ⟨_, _, x, hx⟩⟩ | ⟨_, q, _, _, rfl⟩
 ·have := next_len q; omega
 ·have := next_len q; omega
 ·have := next_len q
  have h2 := congrArg List.length hx
  rw [List.length_append] at h2
  omega
 ·exact List.length_pos_iff.2 q
set_option maxHeartbeats 16000000 in
theorem mime_ok {g : Bio} {tp : Nat} {bv : Value} {rest : Str} (htp : w0.heap.size ≤ tp) (G : g.Ok w0.heap.size) (T : TP h tp g bv) (hbv : RawB (tp + 1) h bv) (b : BR h g rest) :
  ACall Tryz.prog w0 107 [ptr tp 0, .int .i64 9223372036854775807, .int .i64 9223372036854775807] h (fun v h' => Keep (g.X ++ [tp, blkOf tp bv]) h h' ∧ ∃ bv' rem mv ev, v = .tuple #[mv, ev] ∧ TP h' tp g bv' ∧ RawB (tp + 1) h' bv' ∧
   (blkOf tp bv' = blkOf tp bv ∨ h.n ≤ blkOf tp bv' ∨ blkOf tp bv' = tp) ∧ BR h' g rem ∧ MimeOut tp g rest h.n bv' rem mv ev h') := by
 refine ACall.known fun hKn => ?_
 obtain ⟨hN, hB⟩ := hKn
 refine ACall.run noCount mixed Tryz.func107 rfl (by kernel_rfl) (Nat.le_of_ble_eq_true rfl) fun X hX => ?_
 have hsh := b.short
 have htl := T.lt
 have tn1 := T.n1
 have tn2 := T.n2
 have tn3 := T.n3
 have tn4 := T.n4
 have hbl : blkOf tp bv < h.n := hbv.lt htl
 have hbg : tp ≤ blkOf tp bv := by have := hbv.ge (d := tp) (Nat.le_refl _); omega
 have hoffb : blkOf tp bv ∉ g.X := by simp; omega
 have hX' : ∀ (tm : Tm) (h' : Heap) (bv' : Value) (rem : Str) (mv ev : Value), Keep (g.X ++ [tp, blkOf tp bv]) h h' → TP h' tp g bv' → RawB (tp + 1) h' bv' → (blkOf tp bv' = blkOf tp bv ∨ h.n ≤ blkOf tp bv' ∨ blkOf tp bv' = tp) → BR h' g rem →
   tget tm 6 = mv → tget tm 7 = ev → MimeOut tp g rest h.n bv' rem mv ev h' → X .ret tm [] h' := by
  intro tm h' bv' rem mv ev e1 e2 e3 e4 e5 e6 e7 e8
  ((with_reducible refine hX _ _ _ (fun j hj => nomatch hj) ?_); simp only[push_cast,go_sem_proc,↓ite_only,M_block,Tryz.results107,e6, e7])
  exact ⟨e1, bv', rem, mv, ev, rfl, e2, e3, e4, e5, e8⟩
 clear hX
 (rw [M_seq]; refine M_hide (fun C1 hC1 => ?_))
 (repeat simp only[push_cast,go_sem_proc,↓ite_only,M_block])
 (subst hC1)
 (rw [M_seq]; refine M_hide (fun C1 hC1 => ?_))
 (repeat simp only[push_cast,go_sem_proc,↓ite_only,M_block])
 (subst hC1)
 (rw [M_seq]; refine M_hide (fun C1 hC1 => ?_))
 (repeat simp only[push_cast,go_sem_proc,↓ite_only,M_block])
 (subst hC1)
 (rw [M_seq]; refine M_hide (fun C1 hC1 => ?_))
 (repeat simp only[push_cast,go_sem_proc,↓ite_only,M_block])
 refine callM_of (upcoming_ok G T b) ?_
 rintro v h1 ⟨n, hn, rfl, k1, b1⟩
 have T1 := T.keep k1 T.off
 have hbv1 := hbv.keep k1 hoffb
 have kk1 : Keep (g.X ++ [tp, blkOf tp bv]) h h1 := k1.more (fun i hi => List.mem_append_left _ hi)
 have hn1 := k1.1
 (repeat simp only[push_cast,go_sem_proc,↓ite_only,M_block])
 (subst hC1)
 rw [M_seq]
 refine M_cut (fun tm h' => Ext h1 h' ∧ tget tm 0 = ptr tp 0 ∧ tget tm 1 = .int .i64 9223372036854775807 ∧ tget tm 2 = .int .i64 9223372036854775807 ∧ (∃ k : Int, tget tm 9 = .int .i64 k) ∧
   ((∃ A C, tget tm 8 = .slice A 0 C) ∨ ∃ sb n cs, tget tm 8 = .slice (some ⟨sb, 0, none⟩) (n + 1) (n + 1) ∧ h'.at sb = some (.cells cs 9 0 0) ∧ n + 1 ≤ cs.length ∧ h1.n ≤ sb ∧ sb < h'.n)) (fun R hR hE => ?_) ?_
 ·rcases Nat.eq_zero_or_pos n with h0 | h0
  ·have hz : decide ((0 : Int) < (n : Int)) = false := decide_eq_false (by omega)
   (repeat simp only[push_cast,go_sem_proc,↓ite_only,M_block,hz])
   exact hR _ _ ⟨.refl _, (by simp only[zT,Nat.reduceBEq]), (by simp only[zT,Nat.reduceBEq]), (by simp only[zT,Nat.reduceBEq]), ⟨_, (by simp only[zT,Nat.reduceBEq];rfl)⟩, .inl ⟨_, _, (by simp only[zT,Nat.reduceBEq];rfl)⟩⟩
  ·have hz : decide ((0 : Int) < (n : Int)) = true := decide_eq_true (by omega)
   have hz2 : decide ((1000 : Int) < (n : Int)) = false := decide_eq_false (by omega)
   have hle : (n : Int) ≤ n := Int.le_refl _
   (repeat(first|(simp only[push_cast,go_sem_proc,↓ite_only,M_block,hz, hz2])|(with_reducible refine⟨by omega,?_⟩)))
   have hk : n - 1 + 1 = n := by omega
   refine hR _ _ ⟨(Ext.refl _).new _, (by simp only[zT,Nat.reduceBEq]), (by simp only[zT,Nat.reduceBEq]), (by simp only[zT,Nat.reduceBEq]), ⟨_, (by simp only[zT,Nat.reduceBEq];rfl)⟩, .inr ⟨h1.n, n - 1, _, by rw [hk]; exact (by simp only[zT,Nat.reduceBEq]), at_new_eq _ _, ?_, Nat.le_refl _, Nat.lt_succ_self _⟩⟩
   rw [zeros_one]
   simp only [List.length_replicate]
   omega
 ·rintro tm2 h2 ⟨hx2, t0, t1, t2, ⟨kh, t9⟩, hst⟩
  (rw [M_seq]; refine M_hide (fun C1 hC1 => ?_))
  (repeat simp only[push_cast,go_sem_proc,↓ite_only,M_block,t9])
  (subst hC1)
  generalize h3e : h2.new (.map [] 0) = h3
  have hat3 : h3.at h2.n = some (.map [] 0) := by rw [← h3e]; exact at_new_eq _ _
  have hx3 : Ext h2 h3 := by rw [← h3e]; exact (Ext.refl _).new _
  have hn3 : h3.n = h2.n + 1 := by rw [← h3e]; rfl
  have hx13 := hx2.trans hx3
  have hn2 := hx2.1
  have T3 := T1.keep (hx13.keep []) (by simp)
  have hbv3 := hbv1.keep (d := tp) (hx13.keep []) (by simp)
  have b3 := b1.ext hx13
  have kk3 : Keep (g.X ++ [tp, blkOf tp bv]) h h3 := kk1.trans (hx13.keep _)
  have hss3 : ∀ tm : Tm, tget tm 8 = tget tm2 8 → StrSt (own0 h.n tp bv) h3 h2.n [] (tget tm 8) := by
   intro tm e8
   have hown2 : own0 h.n tp bv h2.n := ⟨by omega, by omega⟩
   rcases hst with ⟨A, C, e⟩ | ⟨sb, n', cs, e, q1, q2, q3, q4⟩
   ·exact .inl ⟨A, C, e8.trans e, [], [], 0, rfl, hat3, trivial, by simp, by simp, hown2, by omega, by simp, by simp, by simp [Born]⟩
   ·have hob : own0 h.n tp bv sb := ⟨by omega, by omega⟩
    exact .inr ⟨sb, 0, n', cs, e8.trans e, ⟨[], [], 0, rfl, hat3, trivial, by simp, by simp, hown2, by omega, by simp, by simp; exact ⟨hob, by omega⟩, by simp [Born]⟩, (hx3.2 sb q4).trans q1, by omega⟩
  have T3a := T3.at'
  obtain ⟨buf3, r3, w3, lb3, lrs3, sv3, src3, bl3, e3⟩ := b3
  have hrel : blkOf tp bv = blkOf tp bv ∨ h.n ≤ blkOf tp bv ∨ blkOf tp bv = tp := .inl rfl
  rw [M_seq]
  refine M_cut (fun tm h' => Keep g.X h3 h' ∧ BR h' g rest ∧ tget tm 0 = ptr tp 0 ∧ tget tm 1 = .int .i64 9223372036854775807 ∧ tget tm 2 = .int .i64 9223372036854775807 ∧ tget tm 8 = tget tm2 8 ∧ tget tm 10 = .map (some h2.n) ∧ lead rest = 0) (fun R hR hE => ?_) ?_
  ·(repeat simp(disch:=omega)only[push_cast,go_sem_proc,↓ite_only,M_block,t0, T3a])
   refine callM_of (peek_ok (n := 1) G bl3 (by omega)) ?_
   rintro v h4 ⟨k4, buf4, r4, w4, sv4, src4, bl4, e4, _, _, sl, rfl, hd4⟩
   rw [← e3] at e4 hd4 ⊢
   have T4 := T3.keep k4 T3.off
   have hbv4 := hbv3.keep k4 hoffb
   have kk4 : Keep (g.X ++ [tp, blkOf tp bv]) h h4 := kk3.trans (k4.more (fun i hi => List.mem_append_left _ hi))
   have b4 : BR h4 g rest := ⟨_, _, _, _, _, _, _, bl4, e4.symm⟩
   have hlead : (rest = [] ∨ blankB (nth rest 0) = false) → lead rest = 0 := lead_zero.2
   by_cases hr0 : rest.length < 1
   ·have hnil : rest = [] := List.eq_nil_of_length_eq_zero (by omega)
    rw [decide_eq_true hr0, errOf_t]
    (repeat simp only[push_cast,go_sem_proc,↓ite_only,M_block,t0, t1, t2])
    exact hR _ _ ⟨k4, b4, ‹_›, ‹_›, ‹_›, (by simp only[zT,Nat.reduceBEq]), (by simp only[zT,Nat.reduceBEq]), hlead (.inl hnil)⟩
   ·rw [decide_eq_false hr0, errOf_f]
    have hpl : (rest.take 1).length = 1 := by rw [List.length_take]; omega
    obtain ⟨b5, pre, post, cp5, lo5, hi5, rfl, hcp5, hat5⟩ := hd4.at (by omega)
    rw [hpl]
    have hg0 := mid_get pre post (rest.take 1) 0 (by omega)
    rw [Nat.add_zero, nth_take (by omega)] at hg0
    by_cases hb : blankB (nth rest 0) = true
    ·have hlp : 0 < lead rest := by
      rcases Nat.eq_zero_or_pos (lead rest) with h0 | h0
      ·rcases lead_zero.1 h0 with h1 | h1
       ·rw [h1] at hr0; simp at hr0
       ·rw [h1] at hb; cases hb
      ·exact h0
     have hv0 := fields_blank hlp
     have hb2 : (nth rest 0).toNat = 32 ∨ (nth rest 0).toNat = 9 := by simpa [blankB, blankN] using hb
     have h32 : (nth rest 0).toNat = 32 → ((nth rest 0).toNat : Int) = 32 := fun h => by omega
     rcases hb2 with h32 | h9
     ·have h32' : ((nth rest 0).toNat : Int) = 32 := by omega
      (repeat simp only[push_cast,go_sem_proc,↓ite_only,M_block,t0, hat5, hg0, h32'])
      refine callM_of (readLineSlice_ok 80 G T4 b4) ?_
      rintro v h6 ⟨k6, hout6⟩
      have T6 := T4.keep k6 T4.off
      have hbv6 := hbv4.keep k6 hoffb
      have kk6 : Keep (g.X ++ [tp, blkOf tp bv]) h h6 := kk4.trans (k6.more (fun i hi => List.mem_append_left _ hi))
      rcases hout6 with ⟨buf6, r6, w6, lb6, lrs6, sv6, src6, vl6, line6, b6, rfl, _⟩ | ⟨rfl, _, b6⟩ | ⟨_, _, ⟨e6, rfl⟩, rest6, b6, _⟩
      ·(repeat simp only[push_cast,go_sem_proc,↓ite_only,M_block,t0])
       (with_reducible refine hE _ _ _ _ (nomatch ·) ?_)
       (repeat simp only[push_cast,go_sem_proc,↓ite_only,M_block])
       exact hX' _ _ _ _ _ _ kk6 T6 hbv6 hrel ⟨_, _, _, _, _, _, _, b6, rfl⟩ (by simp only[zT,Nat.reduceBEq];rfl) (by simp only[zT,Nat.reduceBEq];rfl) (.err hv0 ⟨_, _, rfl⟩)
      ·(repeat simp only[push_cast,go_sem_proc,↓ite_only,M_block,t0])
       (with_reducible refine hE _ _ _ _ (nomatch ·) ?_)
       (repeat simp only[push_cast,go_sem_proc,↓ite_only,M_block])
       exact hX' _ _ _ _ _ _ kk6 T6 hbv6 hrel b6 (by simp only[zT,Nat.reduceBEq];rfl) (by simp only[zT,Nat.reduceBEq];rfl) (.err hv0 ⟨_, _, rfl⟩)
      ·(repeat simp only[push_cast,go_sem_proc,↓ite_only,M_block,t0])
       (with_reducible refine hE _ _ _ _ (nomatch ·) ?_)
       (repeat simp only[push_cast,go_sem_proc,↓ite_only,M_block])
       exact hX' _ _ _ _ _ _ kk6 T6 hbv6 hrel b6 (by simp only[zT,Nat.reduceBEq];rfl) (by simp only[zT,Nat.reduceBEq];rfl) (.err hv0 ⟨_, _, rfl⟩)
     ·have h9' : ((nth rest 0).toNat : Int) = 9 := by omega
      (repeat simp only[push_cast,go_sem_proc,↓ite_only,M_block,t0, hat5, hg0, h9'])
      refine callM_of (readLineSlice_ok 80 G T4 b4) ?_
      rintro v h6 ⟨k6, hout6⟩
      have T6 := T4.keep k6 T4.off
      have hbv6 := hbv4.keep k6 hoffb
      have kk6 : Keep (g.X ++ [tp, blkOf tp bv]) h h6 := kk4.trans (k6.more (fun i hi => List.mem_append_left _ hi))
      rcases hout6 with ⟨buf6, r6, w6, lb6, lrs6, sv6, src6, vl6, line6, b6, rfl, _⟩ | ⟨rfl, _, b6⟩ | ⟨_, _, ⟨e6, rfl⟩, rest6, b6, _⟩
      ·(repeat simp only[push_cast,go_sem_proc,↓ite_only,M_block,t0])
       (with_reducible refine hE _ _ _ _ (nomatch ·) ?_)
       (repeat simp only[push_cast,go_sem_proc,↓ite_only,M_block])
       exact hX' _ _ _ _ _ _ kk6 T6 hbv6 hrel ⟨_, _, _, _, _, _, _, b6, rfl⟩ (by simp only[zT,Nat.reduceBEq];rfl) (by simp only[zT,Nat.reduceBEq];rfl) (.err hv0 ⟨_, _, rfl⟩)
      ·(repeat simp only[push_cast,go_sem_proc,↓ite_only,M_block,t0])
       (with_reducible refine hE _ _ _ _ (nomatch ·) ?_)
       (repeat simp only[push_cast,go_sem_proc,↓ite_only,M_block])
       exact hX' _ _ _ _ _ _ kk6 T6 hbv6 hrel b6 (by simp only[zT,Nat.reduceBEq];rfl) (by simp only[zT,Nat.reduceBEq];rfl) (.err hv0 ⟨_, _, rfl⟩)
      ·(repeat simp only[push_cast,go_sem_proc,↓ite_only,M_block,t0])
       (with_reducible refine hE _ _ _ _ (nomatch ·) ?_)
       (repeat simp only[push_cast,go_sem_proc,↓ite_only,M_block])
       exact hX' _ _ _ _ _ _ kk6 T6 hbv6 hrel b6 (by simp only[zT,Nat.reduceBEq];rfl) (by simp only[zT,Nat.reduceBEq];rfl) (.err hv0 ⟨_, _, rfl⟩)
    ·have hb1 : blankB (nth rest 0) = false := by simpa using hb
     have h32 : decide (((nth rest 0).toNat : Int) = 32) = false := decide_eq_false (fun e => by apply hb; simp [blankB, blankN]; omega)
     have h9 : decide (((nth rest 0).toNat : Int) = 9) = false := decide_eq_false (fun e => by apply hb; simp [blankB, blankN]; omega)
     (repeat simp only[push_cast,go_sem_proc,↓ite_only,M_block,t0, t1, t2, hat5, hg0, h32, h9])
     exact hR _ _ ⟨k4, b4, ‹_›, ‹_›, ‹_›, (by simp only[zT,Nat.reduceBEq]), (by simp only[zT,Nat.reduceBEq]), hlead (.inr hb1)⟩
  ·rintro tm4 h4 ⟨k4, b4, t0, t1, t2, t8, t10, hl0⟩
   have T4 := T3.keep k4 T3.off
   have hbv4 := hbv3.keep k4 hoffb
   have kk4 : Keep (g.X ++ [tp, blkOf tp bv]) h h4 := kk3.trans (k4.more (fun i hi => List.mem_append_left _ hi))
   have hss4 := (hss3 tm4 t8).keep k4 (by
    intro i hi ho
    simp at hi
    have := ho.1
    omega)
   have hmbn : h.n ≤ h2.n := by omega
   generalize hmb : h2.n = mb at *
   (repeat simp only[push_cast,go_sem_proc,↓ite_only,M_block])
   refine M_loop (fun tm h' n => ∃ (rem : Str) (bv' : Value) (hs : Hdr) (v8 : Value) (M Q : Int), n = rem.length ∧ (∃ x, rest = x ++ rem) ∧ TP h' tp g bv' ∧ RawB (tp + 1) h' bv' ∧ (blkOf tp bv' = blkOf tp bv ∨ h.n ≤ blkOf tp bv' ∨ blkOf tp bv' = tp) ∧ BR h' g rem ∧ Keep (g.X ++ [tp, blkOf tp bv]) h h' ∧
     tget tm 0 = ptr tp 0 ∧ tget tm 1 = .int .i64 M ∧ tget tm 2 = .int .i64 Q ∧ tget tm 8 = v8 ∧ tget tm 10 = .map (some mb) ∧ 9223372036854775807 - 201 * ((rest.length : Int) - rem.length) ≤ M ∧ M ≤ 9223372036854775807 ∧ 9223372036854775807 - ((rest.length : Int) - rem.length) ≤ Q ∧ Q ≤ 9223372036854775807 ∧
     StrSt (own0 h.n tp bv') h' mb hs v8 ∧ Sync rest rem hs ∧ (∀ k, (valsH hs k).length ≤ rest.length - rem.length)) rest.length
    ⟨rest, bv, [], tget tm4 8, _, _, rfl, ⟨[], rfl⟩, T4, hbv4, hrel, b4, kk4, ‹_›, ‹_›, ‹_›, (by simp only[zT,Nat.reduceBEq]), ‹_›, by omega, by omega, by omega, by omega, hss4, sync_start hl0, by intro k; simp [valsH, getH]⟩ ?_
   rintro tm5 h5 n5 R ⟨rem, bv5, hs, v8, M, Q, rfl, ⟨x5, hx5⟩, T5, hr5, hrel5, b5, kk5, t0, t1, t2, t8, t10, hM1, hM2, hQ1, hQ2, hst5, hsync, hvals⟩ hR hE
   have hreml : rem.length ≤ rest.length := by rw [hx5, List.length_append]; omega
   rw [M_block]
   (rw [M_seq]; refine M_hide (fun C1 hC1 => ?_))
   (repeat simp only[push_cast,go_sem_proc,↓ite_only,M_block,t0, t1])
   refine callM_of (contLine_ok M (by omega) (by omega) htp G T5 hr5 b5) ?_
   rintro v h6 ⟨k6, bv6, hrel6, hout⟩
   have hn5 := kk5.1
   have hbg5 : tp ≤ blkOf tp bv5 := by have := hr5.ge (d := tp) (Nat.le_refl _); omega
   have hrel6' : blkOf tp bv6 = blkOf tp bv ∨ h.n ≤ blkOf tp bv6 ∨ blkOf tp bv6 = tp := by
    rcases hrel6 with q | q | q
    ·rw [q]; exact hrel5
    ·right; left; omega
    ·right; right; exact q
   have hkX : ∀ k : Nat, (k = blkOf tp bv ∨ h.n ≤ k ∨ k = tp) → (k ∈ g.X ++ [tp, blkOf tp bv] ∨ h.n ≤ k) := by
    rintro k (rfl | hk | rfl)
    ·left; simp
    ·right; exact hk
    ·left; simp
   have kk6 : Keep (g.X ++ [tp, blkOf tp bv]) h h6 := kk5.via2 k6 (by
    intro k hk
    simp only [List.mem_append, List.mem_cons, List.not_mem_nil, or_false] at hk
    rcases hk with hk | rfl | rfl
    ·left; exact List.mem_append_left _ (by simpa using hk)
    ·left; simp
    ·exact hkX _ hrel5)
   have hst6 : StrSt (fun i => own0 h.n tp bv5 i ∧ i ≠ blkOf tp bv6 ∧ i < h5.n) h6 mb hs v8 := by
    refine (hst5.mono (own' := fun i => own0 h.n tp bv5 i ∧ i ≠ blkOf tp bv6 ∧ i < h5.n) fun i hi ho => ⟨ho, ?_, hi⟩).keep k6 ?_
    ·rcases hrel6 with q | q | q
     ·rw [q]; exact ho.2
     ·omega
     ·have := ho.1; omega
    ·intro i hi ⟨ho, _, _⟩
     simp only [List.mem_append, List.mem_cons, List.not_mem_nil, or_false] at hi
     have := ho.1
     rcases hi with hi | rfl | rfl
     ·omega
     ·omega
     ·exact ho.2 rfl
   have hback : ∀ {h' : Heap}, StrSt (fun i => own0 h.n tp bv5 i ∧ i ≠ blkOf tp bv6 ∧ i < h5.n) h' mb hs v8 → StrSt (own0 h.n tp bv6) h' mb hs v8 := fun s => s.mono fun i _ ho => ⟨ho.1.1, ho.2.1⟩
   rcases hout with ⟨u, l, rest', rfl, K, hin, hlen, hok⟩ | ⟨ty, xe, rest', rfl, b6, T6, hr6, hbad⟩
   rotate_left
   ·(repeat simp only[push_cast,go_sem_proc,↓ite_only,M_block])
    (subst hC1)
    (rw [M_seq]; refine M_hide (fun C1 hC1 => ?_))
    (repeat simp only[push_cast,go_sem_proc,↓ite_only,M_block])
    (with_reducible refine hE _ _ _ _ (nomatch ·) ?_)
    (repeat simp only[push_cast,go_sem_proc,↓ite_only,M_block])
    exact hX' _ _ bv6 rest' _ _ kk6 T6 hr6 hrel6' b6 ‹_› (by simp only[zT,Nat.reduceBEq];rfl) (.err (sync_bad hsync hbad) ⟨_, _, rfl⟩)
   obtain ⟨y6, hy6⟩ := cont_suffix hok
   have hless := cont_less hok
   have hx6 : rest = (x5 ++ y6) ++ rest' := by rw [hx5, hy6, List.append_assoc]
   obtain ⟨a, cp, hu⟩ : ∃ a cp, u = .slice a l.length cp := by
    obtain ⟨_, _, _, _, _, _, _, _, _, _, _, hla⟩ := id K
    exact hla.len
   subst hu
   (repeat simp only[push_cast,go_sem_proc,↓ite_only,M_block])
   (subst hC1)
   (rw [M_seq]; refine M_hide (fun C1 hC1 => ?_))
   rcases Nat.eq_zero_or_pos l.length with h0 | h0
   ·have hl0' : l = [] := List.eq_nil_of_length_eq_zero h0
    have hz : decide ((l.length : Int) = 0) = true := decide_eq_true (by omega)
    (repeat simp only[push_cast,go_sem_proc,↓ite_only,M_block,hz, t10])
    (with_reducible refine hE _ _ _ _ (nomatch ·) ?_)
    (repeat simp only[push_cast,go_sem_proc,↓ite_only,M_block])
    obtain ⟨buf6, r6, w6, lb6, lrs6, sv6, src6, bb6, hr6', T6, hr6, _⟩ := K
    refine hX' _ _ bv6 rest' _ _ kk6 T6 hr6 hrel6' ⟨_, _, _, _, _, _, _, bb6, hr6'.symm⟩ (by simp only[zT,Nat.reduceBEq];rfl) (by simp only[zT,Nat.reduceBEq];rfl) ?_
    have hm := (hback hst6).map
    rcases sync_end hsync ⟨x5, hx5⟩ hok hl0' with h3 | ⟨h3, h4', h5'⟩
    ·exact ⟨fun e => by omega, fun e => by omega, fun _ => ⟨mb, hs, rfl, hm, _, hx6⟩, .inl rfl⟩
    ·exact ⟨fun _ => ⟨rfl, h5', mb, rfl, by rw [← h4']; exact hm⟩, fun e => by omega, fun _ => ⟨mb, hs, rfl, hm, _, hx6⟩, .inl rfl⟩
   ·have hlne : l ≠ [] := List.length_pos_iff.1 h0
    have hz : decide ((l.length : Int) = 0) = false := decide_eq_false (by omega)
    (repeat simp only[push_cast,go_sem_proc,↓ite_only,M_block,hz])
    (subst hC1)
    (rw [M_seq]; refine M_hide (fun C1 hC1 => ?_))
    have hd6 : Data h6 (.slice a l.length cp) l := by
     obtain ⟨_, _, _, _, _, _, _, bb6, _, _, _, hla⟩ := id K
     exact hla.data bb6
    (repeat simp only[push_cast,go_sem_proc,↓ite_only,M_block])
    refine callM_of (cutByte_ok 58 hd6 (by omega)) ?_
    rintro v h7 ⟨rfl, ky, vy, rfl, hcin, _⟩
    (repeat simp only[push_cast,go_sem_proc,↓ite_only,M_block])
    (subst hC1)
    (rw [M_seq]; refine M_hide (fun C1 hC1 => ?_))
    have hstep := sync_step hsync ⟨x5, hx5⟩ hok hlne
    by_cases hfound : idxL l 58 < l.length
    rotate_left
    ·rw [decide_eq_false hfound]
     (repeat simp only[push_cast,go_sem_proc,↓ite_only,M_block])
     (with_reducible refine hE _ _ _ _ (nomatch ·) ?_)
     (repeat simp only[push_cast,go_sem_proc,↓ite_only,M_block])
     obtain ⟨buf6, r6, w6, lb6, lrs6, sv6, src6, bb6, hr6', T6, hr6, _⟩ := K
     refine hX' _ _ bv6 rest' _ _ kk6 T6 hr6 hrel6' ⟨_, _, _, _, _, _, _, bb6, hr6'.symm⟩ ‹_› (by simp only[zT,Nat.reduceBEq];rfl) (.err ?_ ⟨_, _, rfl⟩)
     rcases hstep with ⟨_, _, q, _⟩ | ⟨_, q, _⟩ | q | ⟨q, _⟩
     ·exact absurd q hfound
     ·exact absurd q hfound
     ·omega
     ·omega
    ·rw [decide_eq_true hfound]
     obtain ⟨sk, sv⟩ := hcin hfound
     (repeat simp only[push_cast,go_sem_proc,↓ite_only,M_block])
     (subst hC1)
     (rw [M_seq]; refine M_hide (fun C1 hC1 => ?_))
     (repeat simp only[push_cast,go_sem_proc,↓ite_only,M_block])
     obtain ⟨T6k, hr6k⟩ : TP h7 tp g bv6 ∧ RawB (tp + 1) h7 bv6 := by
      obtain ⟨_, _, _, _, _, _, _, _, _, T6, hr6, _⟩ := id K
      exact ⟨T6, hr6⟩
     have hil : idxL l 58 < l.length := hfound
     generalize hi58 : idxL l 58 = i at *
     refine callM_of (key_ok (n := l.length - (i + 1)) G htp K sk sv (by omega) (by omega)) ?_
     rintro v h8 ⟨rfl, K8, X8, k8, hX8⟩
     have hvl : ((l.drop (i + 1)).take (l.length - (i + 1))) = l.drop (i + 1) := List.take_of_length_le (by rw [List.length_drop]; omega)
     rw [hvl] at K8
     have hX8b : ∀ k ∈ X8, k = g.bb ∨ h5.n ≤ k ∨ k = blkOf tp bv6 := fun k hk => hin hlne k (hX8 k hk)
     have kk8 : Keep (g.X ++ [tp, blkOf tp bv]) h h8 := kk6.via2 k8 (by
      intro k hk
      rcases hX8b k hk with rfl | hk | rfl
      ·left; simp
      ·right; omega
      ·exact hkX _ hrel6')
     have hst8 := hst6.keep k8 (by
      intro k hk ⟨ho, h2, h3⟩
      rcases hX8b k hk with rfl | hk | rfl
      ·have := ho.1; omega
      ·omega
      ·exact h2 rfl)
     have hst8' := hback hst8
     obtain ⟨buf8, r8, w8, lb8, lrs8, sv8, src8, bb8, hr8', T8, hr8, hla8⟩ := id K8
     have hd8 := hla8.data bb8
     have b8 : BR h8 g rest' := ⟨_, _, _, _, _, _, _, bb8, hr8'.symm⟩
     obtain ⟨av, cv, hvy⟩ := hd8.len
     subst hvy
     (repeat simp only[push_cast,go_sem_proc,↓ite_only,M_block])
     (subst hC1)
     (rw [M_seq]; refine M_hide (fun C1 hC1 => ?_))
     have hdead : ∀ e, (∃ t x, e = Value.iface t x) → (fieldsL rest).2.1 ≠ 0 → ∀ tm, tget tm 6 = .map (some mb) → tget tm 7 = e → X .ret tm [] h8 := fun e he hv tm t6 t7 =>
      hX' _ _ bv6 rest' _ _ kk8 T8 hr8 hrel6' b8 t6 t7 (.err hv he)
     cases hkf : (keyForm (l.take i)).2 with
     | false =>
      (repeat simp only[push_cast,go_sem_proc,↓ite_only,M_block])
      (with_reducible refine hE _ _ _ _ (nomatch ·) ?_)
      (repeat simp only[push_cast,go_sem_proc,↓ite_only,M_block])
      refine hdead _ ⟨_, _, rfl⟩ ?_ _ ‹_› (by simp only[zT,Nat.reduceBEq];rfl)
      rcases hstep with ⟨_, q, _⟩ | ⟨q, _⟩ | q | ⟨q, _⟩
      ·have := congrArg Prod.snd (keyForm_tok q)
       rw [hkf] at this; cases this
      ·omega
      ·omega
      ·omega
     | true =>
      have hgd : (∃ x, tokL (l.take i) = true ∧ l.drop (i + 1) = trimR x ∧ contentL (trimB x) = true ∧ SyncA rest rest' (addH hs (canonL true (l.take i)) (trimB x))) ∨ Dead rest rest' := by
       rcases hstep with ⟨x, q1, _, q3, q4, q5⟩ | ⟨_, _, q⟩ | q
       ·exact .inl ⟨x, q1, q3, q4, q5⟩
       ·rw [hkf] at q; cases q
       ·exact .inr q
      have hsync' : ∃ hs', hs' = addH hs (keyForm (l.take i)).1 ((l.drop (i + 1)).dropWhile blankB) ∧ Sync rest rest' hs' := by
       rcases hgd with ⟨x, q1, q2, q3, q4⟩ | q
       ·refine ⟨_, rfl, .inl ?_⟩
        rw [q2, trimR_drop, keyForm_tok q1]
        exact q4
       ·exact ⟨_, rfl, .inr q⟩
      (repeat simp only[push_cast,go_sem_proc,↓ite_only,M_block])
      (subst hC1)
      rw [M_seq]
      generalize hkey : (keyForm (l.take i)).1 = key at *
      have hkeyl : key.length = i := by rw [← hkey, keyForm_len, List.length_take]; omega
      generalize hval : l.drop (i + 1) = xv at *
      have hxl : xv.length = l.length - (i + 1) := by rw [← hval, List.length_drop]
      refine M_cut (fun tm h' => h' = h8 ∧ tget tm 0 = ptr tp 0 ∧ tget tm 1 = .int .i64 M ∧ tget tm 2 = .int .i64 Q ∧ tget tm 8 = v8 ∧ tget tm 10 = .map (some mb) ∧ tget tm 16 = .nilIface ∧ tget tm 18 = .slice av xv.length cv ∧ tget tm 20 = S key) (fun R2 hR2 hE2 => ?_) ?_
      ·(repeat simp only[push_cast,go_sem_proc,↓ite_only,M_block])
       refine M_loop (fun tm h' n => ∃ k : Nat, k ≤ xv.length ∧ n = xv.length - k ∧ h' = h8 ∧ tget tm 0 = ptr tp 0 ∧ tget tm 1 = .int .i64 M ∧ tget tm 2 = .int .i64 Q ∧ tget tm 8 = v8 ∧ tget tm 10 = .map (some mb) ∧ tget tm 16 = .nilIface ∧ tget tm 18 = .slice av xv.length cv ∧ tget tm 20 = S key ∧
         tget tm 101 = .slice av xv.length cv ∧ tget tm 102 = I xv.length ∧ tget tm 103 = I k) xv.length
        ⟨0, by omega, by omega, rfl, ‹_›, ‹_›, ‹_›, ‹_›, ‹_›, (by simp only[zT,Nat.reduceBEq]), (by simp only[zT,Nat.reduceBEq]), (by simp only[zT,Nat.reduceBEq]), (by simp only[zT,Nat.reduceBEq]), (by simp only[zT,Nat.reduceBEq]), (by simp only[zT,Nat.reduceBEq];rfl)⟩ ?_
       rintro tm6 h9 n6 R3 ⟨k, hk, rfl, rfl, t0, t1, t2, t8, t10, t16, t18, t20, t101, t102, t103⟩ hR3 hE3
       rcases Nat.lt_or_ge k xv.length with hlt | hge
       ·obtain ⟨bl, pre, post, cpl, lo, hi', hv, hcpl, hatl⟩ := hd8.at (by omega)
        cases hv
        have hp : decide ((k : Int) < (xv.length : Int)) = true := decide_eq_true (by omega)
        have hg := mid_get pre post xv k hlt
        (repeat(first|(simp only[push_cast,go_sem_proc,↓ite_only,M_block,t101, t102, t103, hp, hatl, hg])|(with_reducible refine⟨by omega,?_⟩)))
        refine callM_of (vhvb_ok _) ?_
        rintro v h10 ⟨rfl, rfl⟩
        cases hvh : vhvN (nth xv k).toNat with
        | true =>
         (repeat simp(disch:=omega)only[push_cast,go_sem_proc,↓ite_only,M_block,t103])
         exact hR3 _ _ (xv.length - (k + 1)) (by omega) ⟨k + 1, by omega, rfl, rfl, ‹_›, ‹_›, ‹_›, ‹_›, ‹_›, ‹_›, ‹_›, ‹_›, ‹_›, ‹_›, (by simp only[zT,Nat.reduceBEq];rfl)⟩
        | false =>
         (repeat simp only[push_cast,go_sem_proc,↓ite_only,M_block,t10])
         (with_reducible refine hE3 _ _ _ _ (nomatch ·) ?_)
         (repeat simp only[push_cast,go_sem_proc,↓ite_only,M_block])
         (with_reducible refine hE2 _ _ _ _ (nomatch ·) ?_)
         (repeat simp only[push_cast,go_sem_proc,↓ite_only,M_block])
         (with_reducible refine hE _ _ _ _ (nomatch ·) ?_)
         (repeat simp only[push_cast,go_sem_proc,↓ite_only,M_block])
         refine hdead _ ⟨_, _, rfl⟩ ?_ _ (by simp only[zT,Nat.reduceBEq]) (by simp only[zT,Nat.reduceBEq];rfl)
         rcases hgd with ⟨x, q1, q2, q3, _⟩ | q | ⟨q, _⟩
         ·exfalso
          have h1 := vals_ok q3
          rw [← q2] at h1
          have h2 := List.all_eq_true.1 h1 (nth xv k) (List.mem_of_getElem? (nth_get hlt))
          rw [hvh] at h2
          cases h2
         ·omega
         ·omega
       ·have hp : decide ((k : Int) < (xv.length : Int)) = false := decide_eq_false (by omega)
        (repeat simp only[push_cast,go_sem_proc,↓ite_only,M_block,t102, t103, hp])
        (with_reducible refine hE3 _ _ _ _ (nomatch ·) ?_)
        (repeat simp only[push_cast,go_sem_proc,↓ite_only,M_block])
        exact hR2 _ _ ⟨rfl, ‹_›, ‹_›, ‹_›, ‹_›, ‹_›, ‹_›, ‹_›, ‹_›⟩
      ·rintro tm6 h9 ⟨rfl, t0, t1, t2, t8, t10, t16, t18, t20⟩
       have hQd : decide (Q - 1 < 0) = false := decide_eq_false (by omega)
       have hQw : IntKind.i64.wrap (Q - 1) = Q - 1 := wrap64 (by omega) (by omega)
       (repeat simp only[push_cast,go_sem_proc,↓ite_only,M_block,t0, t1, t2, t18, hQd, hQw])
       refine callM_of (trimLeft_ok hd8 (by omega)) ?_
       rintro v h10 ⟨rfl, hsl⟩
       have hdl := hd8.sub hsl
       have hval2 : (xv.drop (lead xv)).take (xv.length - lead xv) = xv.dropWhile blankB := by
        rw [lead_drop, List.take_of_length_le (by rw [List.length_drop]; exact Nat.le_refl _)]
       rw [hval2] at hdl
       generalize hvl2 : xv.dropWhile blankB = val at *
       have hvall : val.length ≤ xv.length := by rw [← hvl2]; exact (List.dropWhile_suffix _).length_le
       obtain ⟨al, cl, rfl⟩ := hdl.len
       have hstr := data_str hdl
       have hm8 := hst8'.map
       have hxvl : key.length + xv.length + 1 ≤ l.length := by omega
       have hw1 : IntKind.i64.wrap (M - key.length) = M - key.length := wrap64 (by omega) (by omega)
       have hw2 : IntKind.i64.wrap (M - key.length - 200) = M - key.length - 200 := wrap64 (by omega) (by omega)
       have hw3 : IntKind.i64.wrap (M - key.length - 200 - val.length) = M - key.length - 200 - val.length := wrap64 (by omega) (by omega)
       have hw4 : IntKind.i64.wrap (M - val.length) = M - val.length := wrap64 (by omega) (by omega)
       have hn3 : decide (M - (key.length : Int) - 200 - (val.length : Int) < 0) = false := decide_eq_false (by omega)
       have hn4 : decide (M - (val.length : Int) < 0) = false := decide_eq_false (by omega)
       have hvb : ∀ k, (valsH (addH hs key val) k).length ≤ rest.length - rest'.length := by
        intro k
        rw [vals_addH]
        have := hvals k
        split
        ·rw [List.length_append, List.length_singleton]; omega
        ·omega
       have hsync2 : Sync rest rest' (addH hs key val) := by
        obtain ⟨hs', e, q⟩ := hsync'
        rw [e] at q
        exact q
       have hmbl : mb < h10.n := by obtain ⟨_, _, _, m⟩ := hm8; exact m.lmb
       have hbl6 : blkOf tp bv6 < h10.n := hr8.lt T8.lt
       have hn8 := kk8.1
       have happ : ∀ v0, alookup Tryz.prog h10 138 (.map (some mb)) (S key) false = some v0 → ∀ c, ∃ v' h12 ob, aappend w0.heap.size Tryz.prog (h10.new (.cells [S val] 9 0 0)) #[88, 88] v0 (.slice (some ⟨h10.n, 0, none⟩) 1 1) c = some (v', h12) ∧
         aupdate w0.heap.size Tryz.prog h12 138 (.map (some mb)) (S key) v' = some (h12.put mb ob) ∧ Keep (g.X ++ [tp, blkOf tp bv]) h (h12.put mb ob) ∧ TP (h12.put mb ob) tp g bv6 ∧ RawB (tp + 1) (h12.put mb ob) bv6 ∧ BR (h12.put mb ob) g rest' ∧ StrSt (own0 h.n tp bv6) (h12.put mb ob) mb (addH hs key val) v8 := by
        intro v0 hv0 c
        have hxn : Ext h10 (h10.new (.cells [S val] 9 0 0)) := (Ext.refl _).new _
        generalize hnb : h10.new (.cells [S val] 9 0 0) = hB at hxn ⊢
        have hatB : hB.at h10.n = some (.cells [S val] 9 0 0) := by rw [← hnb]; exact at_new_eq _ _
        have hnB : hB.n = h10.n + 1 := by rw [← hnb]; rfl
        have hlkB : alookup Tryz.prog hB 138 (.map (some mb)) (S key) false = some v0 := by rw [alookup_congr (hxn.2 mb hmbl)]; exact hv0
        have hbig : (valsH hs key).length + 1 ≤ 2 ^ 32 := by have := hvals key; omega
        have hfin : ∀ (xs : List Slot), HMap (own0 h.n tp bv6) h10 mb hs xs → ∃ v' h12 ob X, aappend w0.heap.size Tryz.prog hB #[88, 88] v0 (.slice (some ⟨h10.n, 0, none⟩) 1 1) c = some (v', h12) ∧
          aupdate w0.heap.size Tryz.prog h12 138 (.map (some mb)) (S key) v' = some (h12.put mb ob) ∧ HMap (own0 h.n tp bv6) (h12.put mb ob) mb (addH hs key val) xs ∧ Keep X hB (h12.put mb ob) ∧ (∀ i ∈ X, own0 h.n tp bv6 i) ∧ (∀ y, StrBlk hB y → y.b < hB.n → StrBlk (h12.put mb ob) y) := fun xs m =>
         HMap.app (N := w0.heap.size) (c := c) k_138 (m.keep (hxn.keep []) (by simp)) (by omega) (fun i hi => by have := hi.1; omega) (fun i hi => ⟨by omega, by omega⟩) hatB hlkB hbig
        have hrest : ∀ (h12 : Heap) (ob : AO) (X : List Nat), Keep X hB (h12.put mb ob) → (∀ i ∈ X, own0 h.n tp bv6 i) → Keep (g.X ++ [tp, blkOf tp bv]) h (h12.put mb ob) ∧ TP (h12.put mb ob) tp g bv6 ∧ RawB (tp + 1) (h12.put mb ob) bv6 ∧ BR (h12.put mb ob) g rest' := by
         intro h12 ob X hk hX
         have hkA : Keep X h10 (h12.put mb ob) := (hxn.keep X).trans hk
         have hX1 : ∀ i, i < h.n → i ∉ X := fun i hi hm => by have := (hX i hm).1; omega
         exact ⟨kk8.via2 hkA (fun k hk => .inr (hX k hk).1), T8.keep hkA (hX1 _ htl), hr8.keep (d := tp) hkA (fun hm => (hX _ hm).2 rfl), b8.keep hkA (hX1 _ (by omega)) (hX1 _ (by omega)) (hX1 _ (by omega)) (hX1 _ (by omega))⟩
        rcases hst8' with ⟨A, C, e8, m⟩ | ⟨sb, o, n, cs, e8, m, g1, g2⟩
        ·obtain ⟨v', h12, ob, X, q1, q2, q3, q4, q5, _⟩ := hfin [] m
         obtain ⟨r1, r2, r3, r4⟩ := hrest h12 ob X q4 q5
         exact ⟨v', h12, ob, q1, q2, r1, r2, r3, r4, .inl ⟨A, C, e8, q3⟩⟩
        ·obtain ⟨v', h12, ob, X, q1, q2, q3, q4, q5, q6⟩ := hfin _ m
         obtain ⟨r1, r2, r3, r4⟩ := hrest h12 ob X q4 q5
         have hsbl : sb < h10.n := by
          obtain ⟨es, ms, clock, m⟩ := m
          exact (m.oxs ⟨sb, o, n + 1⟩ (by simp)).2
         obtain ⟨cs', c1, c2⟩ := q6 ⟨sb, o, n + 1⟩ ⟨cs, (hxn.2 sb hsbl).trans g1, g2⟩ (by show sb < hB.n; omega)
         exact ⟨v', h12, ob, q1, q2, r1, r2, r3, r4, .inr ⟨sb, o, n, cs', e8, q3, c1, c2⟩⟩
       have hnext : ∀ tm h' v8' M', Keep (g.X ++ [tp, blkOf tp bv]) h h' → TP h' tp g bv6 → RawB (tp + 1) h' bv6 → BR h' g rest' → StrSt (own0 h.n tp bv6) h' mb (addH hs key val) v8' → tget tm 0 = ptr tp 0 → tget tm 1 = .int .i64 M' → tget tm 2 = .int .i64 (Q - 1) → tget tm 8 = v8' → tget tm 10 = .map (some mb) →
         M - key.length - 200 - val.length ≤ M' → M' ≤ M → R .normal tm [] h' := by
        intro tm h' v8' M' c1 c2 c3 c4 c5 c6 c7 c8 c9 c10 c11 c12
        exact hR _ _ rest'.length hless ⟨rest', bv6, _, v8', M', Q - 1, rfl, ⟨_, hx6⟩, c2, c3, hrel6', c4, c1, c6, c7, c8, c9, c10, by omega, by omega, by omega, by omega, c5, hsync2, hvb⟩
       rcases hm8.lookup k_138 key false with ⟨hg, hlk⟩ | ⟨ss, sl0, u0, hg, hlk, hsv0, _, _⟩
       ·have hlk' : alookup Tryz.prog h10 138 (.map (some mb)) (S key) false = some (.slice none 0 0) := by simpa using hlk
        rcases id hst8' with ⟨A, C, rfl, m⟩ | ⟨sb, o, n, cs, rfl, m, g1, g2⟩
        ·(repeat simp only[push_cast,go_sem_proc,↓ite_only,M_block,↓hstr, hlk', t1, t8, t10, t20, hw1, hw2, hw3, hn3])
         intro c
         obtain ⟨v', h12, ob, q1, q2, q3, q4, q5, q6, q7⟩ := happ _ hlk' c
         rw [q1]
         (repeat simp only[push_cast,go_sem_proc,↓ite_only,M_block,t10, t16, t20, q2])
         exact hnext _ _ _ _ q3 q4 q5 q6 q7 ‹_› (by simp only[zT,Nat.reduceBEq];rfl) (by simp only[zT,Nat.reduceBEq]) ‹_› ‹_› (by omega) (by omega)
        ·obtain ⟨hsb1, hsb2⟩ : own0 h.n tp bv6 sb ∧ sb < h10.n := by
          obtain ⟨es, ms, clock, m⟩ := m
          exact m.oxs ⟨sb, o, n + 1⟩ (by simp)
         have hwsb : w0.heap.size ≤ sb := by have := hsb1.1; omega
         obtain ⟨ob, q1, q2, q3, q4⟩ := HMap.take (N := w0.heap.size) k_138 m g1 g2 key val hg (by omega)
         have hset : splice cs o [S val] = cs.set o (S val) := set_splice _ _ _ (by omega)
         rw [hset] at q1 q2 q4
         have hlen8 : decide ((0 : Int) < (n : Int) + 1) = true := decide_eq_true (by omega)
         have hX1 : ∀ i, i < h.n → i ∉ [sb, mb] := fun i hi hm => by
          simp at hm
          have := hsb1.1
          omega
         have hkA : Keep [sb, mb] h10 ((h10.put sb (.cells (cs.set o (S val)) 9 0 0)).put mb ob) := ((Keep.refl _ _).put (.inl (by simp)) _).put (.inl (by simp)) _
         have r1 : Keep (g.X ++ [tp, blkOf tp bv]) h ((h10.put sb (.cells (cs.set o (S val)) 9 0 0)).put mb ob) := kk8.via2 hkA (fun k hk => .inr (by simp at hk; have := hsb1.1; omega))
         have r2 := T8.keep hkA (hX1 _ htl)
         have r3 := hr8.keep (d := tp) hkA (fun hm => by
          simp at hm
          rcases hm with hm | hm
          ·exact hsb1.2 hm.symm
          ·obtain ⟨_, _, _, m⟩ := hm8
           exact m.omb.2 hm.symm)
         have r4 := b8.keep hkA (hX1 _ (by omega)) (hX1 _ (by omega)) (hX1 _ (by omega)) (hX1 _ (by omega))
         have hst9 : ∀ v8', (v8' = (.slice (if n = 0 then some ⟨sb, o, none⟩ else some ⟨sb, o + 1, none⟩) (n + 1 - 1) (n + 1 - 1) : Value)) → StrSt (own0 h.n tp bv6) ((h10.put sb (.cells (cs.set o (S val)) 9 0 0)).put mb ob) mb (addH hs key val) v8' := by
          rintro v8' rfl
          rcases Nat.eq_zero_or_pos n with rfl | hn0
          ·exact .inl ⟨_, _, rfl, q2.forget⟩
          ·obtain ⟨n', rfl⟩ : ∃ n', n = n' + 1 := ⟨n - 1, by omega⟩
           rw [if_neg (by omega)]
           exact .inr ⟨sb, o + 1, n', _, rfl, q2, (at_put_ne _ _ q3).trans (at_put_eq _ _ _), by rw [q4]; omega⟩
         have hol : o < cs.length := by omega
         (repeat(first|(simp only[push_cast,go_sem_proc,↓ite_only,M_block,↓hstr, hlk', t1, t8, t10, t20, hw1, hw2, hw3, hn3, hlen8, g1, hset, q1, t16])|(with_reducible refine⟨by omega,?_⟩)|(with_reducible refine M_draw (id:=43) p107_43 ?_ ?_;focus kernel_rfl)))
         exact hnext _ _ _ _ r1 r2 r3 r4 (hst9 _ rfl) ‹_› (by simp only[zT,Nat.reduceBEq];rfl) (by simp only[zT,Nat.reduceBEq]) (by simp only[zT,Nat.reduceBEq]) ‹_› (by omega) (by omega)
       ·have hlk' : alookup Tryz.prog h10 138 (.map (some mb)) (S key) false = some u0 := by simpa using hlk
        obtain ⟨rfl, _⟩ := id hsv0
        (repeat simp only[push_cast,go_sem_proc,↓ite_only,M_block,↓hstr, hlk', t1, t8, t10, t20, hw4, hn4])
        intro c
        obtain ⟨v', h12, ob, q1, q2, q3, q4, q5, q6, q7⟩ := happ _ hlk' c
        rw [q1]
        (repeat simp only[push_cast,go_sem_proc,↓ite_only,M_block,t10, t16, t20, q2])
        exact hnext _ _ _ _ q3 q4 q5 q6 q7 ‹_› (by simp only[zT,Nat.reduceBEq];rfl) (by simp only[zT,Nat.reduceBEq]) ‹_› ‹_› (by omega) (by omega)
end Go.Proofs.YtbjaapiliegegaaGreatDoor.Sy
