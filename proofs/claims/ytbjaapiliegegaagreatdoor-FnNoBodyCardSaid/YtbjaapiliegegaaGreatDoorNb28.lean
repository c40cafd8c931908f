/- Of the proof of FnNoBody: SdH SdI. -/
import Derived.Test.YtbjaapiliegegaaGreatDoorNb27
set_option linter.unusedVariables false
set_option linter.unusedSimpArgs false
section
namespace Go.Proofs.YtbjaapiliegegaaGreatDoor.Sy
open Go
set_option maxRecDepth 100000
variable {w0 : World} {h : Heap}
theorem BR.keep {h h' : Heap} {g : Bio} {rest : Str} {X : List Nat} (b : BR h g rest) (k : Keep X h h') (e1 : g.R ∉ X) (e2 : g.bb ∉ X) (e3 : g.sb ∉ X) (e4 : g.db ∉ X) : BR h' g rest := by
 obtain ⟨buf, r, w, lb, lrs, sv, src, b1, e⟩ := b
 exact ⟨buf, r, w, lb, lrs, sv, src, b1.keep k e1 e2 e3 e4, e⟩
theorem BR.ext {h h' : Heap} {g : Bio} {rest : Str} (b : BR h g rest) (k : Ext h h') : BR h' g rest := b.keep (k.keep []) (by simp) (by simp) (by simp) (by simp)
theorem BR.short {g : Bio} {rest : Str} (b : BR h g rest) : rest.length < 1000010000 := by
 obtain ⟨buf, r, w, lb, lrs, sv, src, b1, rfl⟩ := b
 have := restL_len (src := src) b1.bl b1.rw b1.ww
 have := b1.sl
 have := b1.ww
 omega
structure TP (h : Heap) (tp : Nat) (g : Bio) (bv : Value) : Prop where
 at' : h.at tp = some (.cells [ptr g.R 0, .pointer none, bv] 163 0 0)
 lt : tp < h.n
 n1 : g.R < tp
 n2 : g.bb < tp
 n3 : g.sb < tp
 n4 : g.db < tp
theorem TP.keep {h h' : Heap} {tp : Nat} {g : Bio} {bv : Value} {X : List Nat} (t : TP h tp g bv) (k : Keep X h h') (hX : tp ∉ X) : TP h' tp g bv :=
 ⟨(k.2 _ t.lt hX).trans t.at', Nat.lt_of_lt_of_le t.lt k.1, t.n1, t.n2, t.n3, t.n4⟩
theorem TP.off {tp : Nat} {g : Bio} {bv : Value} (t : TP h tp g bv) : tp ∉ g.X := by
 have h1 := t.n1
 have h2 := t.n2
 have h3 := t.n3
 simp
 omega
theorem dropWhile_at {l : Str} {k : Nat} (hk : k ≤ l.length) (ha : (l.take k).all blankB = true) (hs : k = l.length ∨ blankB (nth l k) = false) : l.dropWhile blankB = l.drop k := by
 rw [lead_drop, lead_at hk ha hs]
set_option maxHeartbeats 4000000 in
theorem skipSpace_ok {g : Bio} {tp : Nat} {bv : Value} {rest : Str} (G : g.Ok w0.heap.size) (T : TP h tp g bv) (b : BR h g rest) :
  ACall Tryz.prog w0 196 [ptr tp 0] h (fun v h' => v = I (lead rest : Nat) ∧ Keep g.X h h' ∧ BR h' g (rest.dropWhile blankB)) := by
 refine ACall.known fun hKn => ?_
 obtain ⟨hN, hB⟩ := hKn
 refine ACall.run noCount mixed Tryz.func196 rfl (by kernel_rfl) (Nat.le_of_ble_eq_true rfl) fun X hX => ?_
 have hsh := b.short
 (repeat simp only[push_cast,go_sem_proc,↓ite_only,M_block])
 refine M_loop (fun tm h1 n => ∃ k : Nat, k ≤ rest.length ∧ n = rest.length - k ∧ Keep g.X h h1 ∧ BR h1 g (rest.drop k) ∧ tget tm 0 = ptr tp 0 ∧ tget tm 3 = I k ∧ (rest.take k).all blankB = true) rest.length
  ⟨0, by omega, by omega, .refl _ _, b, (by simp only[zT,Nat.reduceBEq]), (by simp only[zT,Nat.reduceBEq];rfl), rfl⟩ ?_
 rintro tm1 h1 n R ⟨k, hk, rfl, k1, b1, t0, t3, hall⟩ hR hE
 have T1 := (T.keep k1 T.off).at'
 obtain ⟨buf, r, w, lb, lrs, sv, src, b1', e1⟩ := b1
 (repeat simp(disch:=omega)only[push_cast,go_sem_proc,↓ite_only,M_block,t0, T1])
 refine callM_of (readByte_ok G b1') ?_
 rintro v h2 ⟨k2, hout⟩
 rw [← e1] at hout
 have k12 := k1.trans k2
 have T2 := (T.keep k12 T.off).at'
 rcases hout with ⟨hnil, rfl, buf2, r2, w2, lb2, lrs2, sv2, src2, b2, e2⟩ | ⟨c, tl, hcons, rfl, buf2, r2, w2, sv2, src2, b2, hc, e2⟩
 ·have hkl : k = rest.length := by
   have := congrArg List.length hnil
   rw [List.length_drop] at this; simp at this; omega
  (repeat simp only[push_cast,go_sem_proc,↓ite_only,M_block,t0])
  (with_reducible refine hE _ _ _ _ (nomatch ·) ?_)
  (repeat simp only[push_cast,go_sem_proc,↓ite_only,M_block,t3])
  ((with_reducible refine hX _ _ _ (fun j hj => nomatch hj) ?_); simp only[push_cast,go_sem_proc,↓ite_only,M_block,Tryz.results196])
  rw [lead_at hk hall (.inl hkl), dropWhile_at hk hall (.inl hkl), hnil]
  exact ⟨rfl, k12, _, _, _, _, _, _, _, b2, e2.symm⟩
 ·have hlt : k < rest.length := by
   have := congrArg List.length hcons
   rw [List.length_drop] at this; simp at this; omega
  have hcn : nth rest k = c := by
   have h1 := nth_drop rest k 0
   rw [hcons] at h1
   exact h1.symm
  have htl : tl = rest.drop (k + 1) := by
   have := congrArg (List.drop 1) hcons
   rw [List.drop_drop] at this
   exact this.symm
  by_cases hb : blankB c = true
  ·have hb2 : c.toNat = 32 ∨ c.toNat = 9 := by simpa [blankB, blankN] using hb
   have key : ∀ tm, tget tm 0 = ptr tp 0 → tget tm 3 = I ((k : Int) + 1) → R .normal tm [] h2 := by
    intro tm t0 t3
    exact hR _ _ (rest.length - (k + 1)) (by omega) ⟨k + 1, by omega, rfl, k12, ⟨_, _, _, _, _, _, _, b2, by rw [e2, htl]⟩, t0, t3, all_snoc hlt hall (by rw [hcn]; exact hb)⟩
   rcases hb2 with h32 | h9
   ·have h32' : (c.toNat : Int) = 32 := by omega
    (repeat simp(disch:=omega)only[push_cast,go_sem_proc,↓ite_only,M_block,t0, t3, h32'])
    exact key _ ‹_› (by simp only[zT,Nat.reduceBEq])
   ·have h9' : (c.toNat : Int) = 9 := by omega
    (repeat simp(disch:=omega)only[push_cast,go_sem_proc,↓ite_only,M_block,t0, t3, h9'])
    exact key _ ‹_› (by simp only[zT,Nat.reduceBEq])
  ·have hb1 : blankB (nth rest k) = false := by rw [hcn]; simpa using hb
   have h32 : decide ((c.toNat : Int) = 32) = false := decide_eq_false (fun e => by apply hb; simp [blankB, blankN]; omega)
   have h9 : decide ((c.toNat : Int) = 9) = false := decide_eq_false (fun e => by apply hb; simp [blankB, blankN]; omega)
   (repeat simp(disch:=omega)only[push_cast,go_sem_proc,↓ite_only,M_block,t0, t3, h32, h9, T2])
   refine callM_of (unreadByte_ok c G b2 hc) ?_
   rintro v h3 ⟨k3, rfl, b3, e3⟩
   (repeat simp only[push_cast,go_sem_proc,↓ite_only,M_block])
   (with_reducible refine hE _ _ _ _ (nomatch ·) ?_)
   (repeat simp only[push_cast,go_sem_proc,↓ite_only,M_block,t3])
   ((with_reducible refine hX _ _ _ (fun j hj => nomatch hj) ?_); simp only[push_cast,go_sem_proc,↓ite_only,M_block,Tryz.results196])
   rw [lead_at hk hall (.inr hb1), dropWhile_at hk hall (.inr hb1)]
   exact ⟨rfl, k12.trans k3, _, _, _, _, _, _, _, b3, by rw [e3, e2, hcons]⟩
theorem closeDot_ok {g : Bio} {tp : Nat} {bv : Value} (T : TP h tp g bv) : ACall Tryz.prog w0 138 [ptr tp 0] h (fun v h' => h' = h) := by
 refine ACall.known fun hKn => ?_
 obtain ⟨hN, hB⟩ := hKn
 refine ACall.run noCount mixed Tryz.func138 rfl (by kernel_rfl) (Nat.le_of_ble_eq_true rfl) fun X hX => ?_
 have T1 := T.at'
 (repeat simp(disch:=omega)only[push_cast,go_sem_proc,↓ite_only,M_block,T1])
 ((with_reducible refine hX _ _ _ (fun j hj => nomatch hj) ?_); simp only[push_cast,go_sem_proc,↓ite_only,M_block,Tryz.results138])
end Go.Proofs.YtbjaapiliegegaaGreatDoor.Sy
end
section
namespace Go.Proofs.YtbjaapiliegegaaGreatDoor.Sy
open Go
set_option maxRecDepth 100000
variable {w0 : World} {h : Heap}
def Bts (lo : Nat) (h : Heap) (v : Value) (l : Str) : Prop := Row lo h 5 1 v l.length (byteVals l)
theorem firstN_zero (z : Nat) (a : Option Addr) (cp : Nat) : firstN h z 0 (.slice a 0 cp) = some [] := by
 have key : ∀ x, orNil (0 * z) x = some [] ∨ ∃ c, x = some c := by
  intro x
  cases x with
  | none => left; simp [orNil]
  | some c => exact .inr ⟨c, rfl⟩
 cases a with
 | none => rfl
 | some a =>
  obtain ⟨b, o, p⟩ := a
  cases p with
  | some p => show orNil (0 * z) none = _; simp [orNil]
  | none =>
   show orNil (0 * z) (loadN h b o (0 * z)) = _
   rcases key (loadN h b o (0 * z)) with e | ⟨c, e⟩
   ·exact e
   ·rw [e]
    unfold loadN at e
    split at e
    ·split at e
     ·cases e; simp [orNil]
     ·cases e
    ·cases e
theorem data_first {x : Value} {m : Str} (d : Data h x m) : firstN h 1 m.length x = some (byteVals m) := by
 rcases d with ⟨rfl, a, cp, rfl⟩ | ⟨b, pre, post, cp, lo, hi, rfl, hcp, hat⟩
 ·exact firstN_zero 1 a cp
 ·show orNil (m.length * 1) (loadN h b pre.length (m.length * 1)) = _
  rw [Nat.mul_one, loadN_mid hat rfl]
  rfl
theorem data_tail {x : Value} {m : Str} (d : Data h x m) : tailOf h (.slice 5) 1 (.int .u8 0) x = some (m.length, byteVals m) := by
 have h1 := data_first d
 obtain ⟨a, cp, rfl⟩ := d.len
 simp only [tailOf, lenOf, h1]
theorem app_bytes {lo c : Nat} {v x : Value} {l m : Str} {N : Nat} (r : Bts lo h v l) (hN : N ≤ lo) (hlo : lo ≤ h.n) (hx : Data h x m) (hbig : l.length + m.length ≤ 2 ^ 32) :
  ∃ v' h', aappend N Tryz.prog h #[27, 27] v x c = some (v', h') ∧ Bts lo h' v' (l ++ m) ∧ h.n ≤ h'.n ∧ (∀ b, b < h.n → Off b v → h'.at b = h.at b) ∧ (∀ b, ¬Off b v' → ¬Off b v ∨ h.n ≤ b) := by
 obtain ⟨v', h', e, r', h1, h2, h3⟩ := aappend_row (c := c) (t := 27) (e := 5) (z := 1) Tryz.underlying27 s_5 b_5 z_5 rfl (by decide) (by decide) hN hlo r (x := x) (m := m.length) (new := byteVals m)
  (data_tail hx) (by rw [byteVals_length, Nat.mul_one]) (by intro v hv; exact (all_bytes m).2 trivial v hv) hbig
 refine ⟨v', h', e, ?_, h1, h2, h3⟩
 unfold Bts
 rw [List.length_append, byteVals_app]
 exact r'
def Own (lo : Nat) (h : Heap) (v : Value) (l : Str) : Prop :=
 (l = [] ∧ ∃ a cp, v = .slice a 0 cp) ∨ ∃ b pre post cp, lo ≤ b ∧ b < h.n ∧ v = .slice (some ⟨b, pre.length, none⟩) l.length cp ∧ l.length ≤ cp ∧ h.at b = some (.cells (pre ++ (byteVals l ++ post)) 5 0 0)
theorem Bts.own {lo : Nat} {v : Value} {l : Str} (r : Bts lo h v l) : Own lo h v l := by
 rcases r with ⟨rfl, h0, h1⟩ | ⟨b, cp, rest, rfl, h1, h2, h3, h4, h5⟩
 ·exact .inl ⟨List.eq_nil_of_length_eq_zero h0, _, _, rfl⟩
 ·refine .inr ⟨b, [], rest, cp, h1, h2, rfl, ?_, h3⟩
  rw [byteVals_length] at h5
  omega
theorem Own.data {lo : Nat} {v : Value} {l : Str} (o : Own lo h v l) : Data h v l := by
 rcases o with o | ⟨b, pre, post, cp, _, _, rfl, hcp, hat⟩
 ·exact .inl o
 ·exact .inr ⟨b, pre, post, cp, 0, 0, rfl, hcp, hat⟩
theorem Own.sub {lo : Nat} {v v' : Value} {l : Str} {k n : Nat} (d : Own lo h v l) (s : Sub v v' k n) : Own lo h v' ((l.drop k).take n) := by
 rcases s with ⟨rfl, a, cp, rfl⟩ | ⟨b, o, len, cp, rfl, hle, rfl⟩
 ·exact .inl ⟨rfl, _, _, rfl⟩
 ·rcases d with ⟨rfl, a, cp', e⟩ | ⟨b', pre, post, cp', h1, h2, e, hcp, hat⟩
  ·cases e
   have : n = 0 := by omega
   subst this
   exact .inl ⟨rfl, _, _, rfl⟩
  ·cases e
   have hl : ((l.drop k).take n).length = n := by rw [List.length_take, List.length_drop]; omega
   refine .inr ⟨b, pre ++ byteVals (l.take k), byteVals (l.drop (k + n)) ++ post, cp - k, h1, h2, ?_, by omega, ?_⟩
   ·rw [List.length_append, byteVals_length, List.length_take, Nat.min_eq_left (by omega), hl]
   ·rw [hat]
    have : byteVals l = byteVals (l.take k) ++ (byteVals ((l.drop k).take n) ++ byteVals (l.drop (k + n))) := by
     rw [← byteVals_app, ← byteVals_app, ← List.drop_drop, List.take_append_drop, List.take_append_drop]
    rw [this]
    simp only [List.append_assoc]
def LineAt (lo : Nat) (h : Heap) (g : Bio) (buf : Str) (r : Nat) (v : Value) (l : Str) : Prop := Lin g buf r v l ∨ Own lo h v l
theorem LineAt.len {lo : Nat} {g : Bio} {buf : Str} {r : Nat} {v : Value} {l : Str} (d : LineAt lo h g buf r v l) : ∃ a cp, v = .slice a l.length cp := by
 rcases d with d | d
 ·exact d.len
 ·exact d.data.len
theorem LineAt.data {lo : Nat} {g : Bio} {buf : Str} {r w : Nat} {er : Bool} {lb lrs : Int} {sv v : Value} {src l : Str} (b : BRl h g buf r w er lb lrs sv src) (d : LineAt lo h g buf r v l) : Data h v l := by
 rcases d with d | d
 ·exact d.data (o := 0) b
 ·exact d.data
theorem LineAt.sub {lo : Nat} {g : Bio} {buf : Str} {r : Nat} {v v' : Value} {l : Str} {k n : Nat} (d : LineAt lo h g buf r v l) (s : Sub v v' k n) : LineAt lo h g buf r v' ((l.drop k).take n) := by
 rcases d with d | d
 ·exact .inl (d.sub s)
 ·exact .inr (d.sub s)
def SliceOut (g : Bio) (lo : Nat) (lim : Int) (rest : Str) (v : Value) (h' : Heap) : Prop :=
 (∃ buf r w lb lrs sv src vl line, BRl h' g buf r w false lb lrs sv src ∧ v = .tuple #[vl, .nilIface] ∧ LineAt lo h' g buf r vl line ∧
  ((idxL rest 10 < rest.length ∧ line = dropCR (rest.take (idxL rest 10)) ∧ restL buf r w src = rest.drop (idxL rest 10 + 1)) ∨ (¬idxL rest 10 < rest.length ∧ line = rest ∧ rest ≠ [] ∧ restL buf r w src = []))) ∨
 (v = .tuple #[.slice none 0 0, eofV] ∧ ¬idxL rest 10 < rest.length ∧ BR h' g []) ∨
 (0 ≤ lim ∧ lim < rest.length ∧ (∃ e, v = .tuple #[.slice none 0 0, .iface 221 e]) ∧ ∃ rest', BR h' g rest' ∧ rest'.length ≤ rest.length)
theorem dropCR_app {a x : Str} (hx : x ≠ []) : dropCR (a ++ x) = a ++ dropCR x := by
 have hp : 0 < x.length := List.length_pos_iff.2 hx
 have hn : nth (a ++ x) ((a ++ x).length - 1) = nth x (x.length - 1) := by
  unfold nth
  rw [List.getD_eq_getElem?_getD, List.getD_eq_getElem?_getD, List.length_append, List.getElem?_append_right (by omega)]
  congr 2
  omega
 by_cases hc : (nth x (x.length - 1)).toNat = 13
 ·rw [dropCR_yes ⟨by simp; omega, by rw [hn]; exact hc⟩, dropCR_yes ⟨hp, hc⟩, List.length_append, List.take_append, List.take_of_length_le (by omega)]
  congr 2
  omega
 ·rw [dropCR_no (fun h => hc (by rw [← hn]; exact h.2)), dropCR_no (fun h => hc h.2)]
theorem dropCR_len (l : Str) : (dropCR l).length ≤ l.length := by
 unfold dropCR
 split
 ·rw [List.length_take]; omega
 ·exact Nat.le_refl _
theorem nth_app_r {a x : Str} {k : Nat} (h : a.length ≤ k) : nth (a ++ x) k = nth x (k - a.length) := by
 unfold nth
 rw [List.getD_eq_getElem?_getD, List.getD_eq_getElem?_getD, List.getElem?_append_right h]
theorem piece_cases (rem : Str) :
  (idxL rem 10 < rem.length ∧ pieceL rem = (dropCR (rem.take (idxL rem 10)), false, false, rem.drop (idxL rem 10 + 1))) ∨
  (∃ p q, rem = p ++ q ∧ p ≠ [] ∧ p.all (difB 10) = true ∧ pieceL rem = (p, true, false, q) ∧ ((nth p (p.length - 1)).toNat = 13 → 0 < q.length ∧ (nth q 0).toNat = 13)) ∨
  (¬idxL rem 10 < rem.length ∧ pieceL rem = (rem, false, rem.isEmpty, [])) := by
 by_cases hit : idxL rem 10 < rem.length ∧ idxL rem 10 < 4096
 ·left
  refine ⟨hit.1, ?_⟩
  unfold pieceL; rw [decide_eq_true hit]
 ·by_cases hge : 4096 ≤ rem.length
  ·right; left
   have hidx : 4096 ≤ idxL rem 10 := by have := idx_le rem 10; omega
   have hall : (rem.take 4096).all (difB 10) = true := by
    have h1 : rem.takeWhile (difB 10) = rem.take (idxL rem 10) := List.prefix_iff_eq_take.1 (List.takeWhile_prefix _)
    have h2 : rem.take 4096 = (rem.takeWhile (difB 10)).take 4096 := by rw [h1, List.take_take, Nat.min_eq_left hidx]
    rw [h2]
    exact List.all_eq_true.2 fun x hx => List.all_eq_true.1 List.all_takeWhile x (List.mem_of_mem_take hx)
   by_cases hcr : (nth rem 4095).toNat = 13
   ·refine ⟨rem.take 4095, rem.drop 4095, (List.take_append_drop _ _).symm, ?_, ?_, ?_, fun _ => ⟨by rw [List.length_drop]; omega, by rw [nth_drop]; exact hcr⟩⟩
    ·intro e; have := congrArg List.length e; rw [List.length_take, List.length_nil] at this; omega
    ·have : rem.take 4095 = (rem.take 4096).take 4095 := by rw [List.take_take]; rfl
     rw [this]
     exact List.all_eq_true.2 fun x hx => List.all_eq_true.1 hall x (List.mem_of_mem_take hx)
    ·unfold pieceL; rw [decide_eq_false hit, decide_eq_true hge, decide_eq_true hcr]
   ·have hl : (rem.take 4096).length = 4096 := by rw [List.length_take]; omega
    refine ⟨rem.take 4096, rem.drop 4096, (List.take_append_drop _ _).symm, ?_, hall, ?_, fun e => ?_⟩
    ·intro e; have := congrArg List.length e; rw [hl] at this; simp at this
    ·unfold pieceL; rw [decide_eq_false hit, decide_eq_true hge, decide_eq_false hcr]
    ·rw [hl, nth_take (by omega)] at e; exact absurd e hcr
  ·right; right
   refine ⟨fun h => hit ⟨h, by omega⟩, ?_⟩
   unfold pieceL; rw [decide_eq_false hit, decide_eq_false hge]
theorem piece_cases2 (rem : Str) :
  (∃ p q, pieceL rem = (p, false, false, q) ∧ p.length ≤ rem.length ∧ ((idxL rem 10 < rem.length ∧ p = dropCR (rem.take (idxL rem 10)) ∧ q = rem.drop (idxL rem 10 + 1)) ∨ (¬idxL rem 10 < rem.length ∧ p = rem ∧ rem ≠ [] ∧ q = []))) ∨
  (∃ p q, rem = p ++ q ∧ p ≠ [] ∧ p.all (difB 10) = true ∧ pieceL rem = (p, true, false, q) ∧ ((nth p (p.length - 1)).toNat = 13 → 0 < q.length ∧ (nth q 0).toNat = 13)) ∨
  (rem = [] ∧ pieceL rem = ([], false, true, [])) := by
 rcases piece_cases rem with ⟨hit, hP⟩ | hB | ⟨hmiss, hP⟩
 ·refine .inl ⟨_, _, hP, ?_, .inl ⟨hit, rfl, rfl⟩⟩
  refine Nat.le_trans (dropCR_len _) ?_
  rw [List.length_take]; omega
 ·exact .inr (.inl hB)
 ·cases rem with
  | nil => exact .inr (.inr ⟨rfl, hP⟩)
  | cons c x => exact .inl ⟨_, _, hP, Nat.le_refl _, .inr ⟨hmiss, rfl, (nomatch ·), rfl⟩⟩
theorem Bts.some {lo : Nat} {v : Value} {l : Str} (r : Bts lo h v l) (h0 : l ≠ []) : ∃ b cp, v = .slice (some ⟨b, 0, none⟩) l.length cp := by
 rcases r with ⟨_, h1, _⟩ | ⟨b, cp, rest, h1, _⟩
 ·exact absurd (List.eq_nil_of_length_eq_zero h1) h0
 ·exact ⟨b, cp, h1⟩
set_option maxHeartbeats 8000000 in
theorem readLineSlice_ok {g : Bio} {tp : Nat} {bv : Value} {rest : Str} (lim : Int) (G : g.Ok w0.heap.size) (T : TP h tp g bv) (b : BR h g rest) :
  ACall Tryz.prog w0 105 [ptr tp 0, .int .i64 lim] h (fun v h' => Keep g.X h h' ∧ SliceOut g h.n lim rest v h') := by
 refine ACall.known fun hKn => ?_
 obtain ⟨hN, hB⟩ := hKn
 refine ACall.run noCount mixed Tryz.func105 rfl (by kernel_rfl) (Nat.le_of_ble_eq_true rfl) fun X hX => ?_
 have hsh := b.short
 (repeat simp only[push_cast,go_sem_proc,↓ite_only])
 refine callM_of (closeDot_ok T) ?_
 rintro v h1 rfl
 (repeat simp only[push_cast,go_sem_proc,↓ite_only,M_block])
 have hlb : h1.n = h1.n := rfl
 obtain ⟨_, _, _, _, _, _, _, b0, _⟩ := id b
 refine M_loop (fun tm h2 n => ∃ (acc rem : Str) (va : Value), n = rem.length ∧ tget tm 6 = va ∧ Bts h1.n h2 va acc ∧ BR h2 g rem ∧ rest = acc ++ rem ∧ acc.all (difB 10) = true ∧ (acc = [] → va = .slice none 0 0) ∧
   ((nth acc (acc.length - 1)).toNat = 13 → acc ≠ [] → 0 < rem.length ∧ (nth rem 0).toNat = 13) ∧ Keep g.X h1 h2 ∧ tget tm 0 = ptr tp 0 ∧ tget tm 1 = .int .i64 lim) rest.length
  ⟨[], rest, _, rfl, (by simp only[zT,Nat.reduceBEq]), Row.nil _ _ _ _, b, rfl, rfl, fun _ => rfl, fun _ e => absurd rfl e, .refl _ _, (by simp only[zT,Nat.reduceBEq]), (by simp only[zT,Nat.reduceBEq])⟩ ?_
 rintro tm1 h2 n R ⟨acc, rem, va, rfl, t6, hva, b2, hrest, hall, hnil, hcr, k2, t0, t1⟩ hR hE
 have T2 := (T.keep k2 T.off).at'
 have hrl : rest.length = acc.length + rem.length := by rw [hrest, List.length_append]
 have hidx : idxL rest 10 = acc.length + idxL rem 10 := by rw [hrest, idx_skip hall]
 obtain ⟨buf, r, w, lb, lrs, sv, src, b2', e2⟩ := b2
 (repeat simp(disch:=omega)only[push_cast,go_sem_proc,↓ite_only,M_block,t0, T2])
 refine callM_of (readLine_ok G b2') ?_
 rintro v h3 ⟨k3, buf3, r3, w3, lb3, lrs3, sv3, src3, vl, b3, hr3, rfl, hlin⟩
 rw [← e2] at hr3 hlin ⊢
 have k23 := k2.trans k3
 have hva3 : Bts h1.n h3 va acc := hva.keep k3.1 (fun b hb hlo _ => k3.2 b hb (by have := b0.lR; have := b0.lb'; have := b0.ls; simp; omega))
 rcases piece_cases2 rem with ⟨p, q, hP, hpl, hout⟩ | ⟨p, q, hpq, hp0, hpall, hP, hpcr⟩ | ⟨rfl, hP⟩
 ·rw [hP] at hr3 hlin ⊢
  simp only [errOf_f] at hr3 hlin ⊢
  have hd3 := hlin.data (o := 0) b3
  obtain ⟨va', cpa, hvl⟩ := hlin.len
  subst hvl
  obtain ⟨a6, cp6, hva6⟩ := hva.len
  subst hva6
  by_cases hL : 0 ≤ lim ∧ lim < (acc.length : Int) + p.length
  ·have hc0 : decide ((0 : Int) ≤ lim) = true := decide_eq_true hL.1
   have hc1 : decide (lim < (acc.length : Int) + p.length) = true := decide_eq_true hL.2
   (repeat simp(disch:=omega)only[push_cast,go_sem_proc,↓ite_only,M_block,t0, t1, t6, hc0, hc1])
   (with_reducible refine hE _ _ _ _ (nomatch ·) ?_)
   (repeat simp only[push_cast,go_sem_proc,↓ite_only,M_block])
   ((with_reducible refine hX _ _ _ (fun j hj => nomatch hj) ?_); simp only[push_cast,go_sem_proc,↓ite_only,M_block,Tryz.results105])
   refine ⟨k23, .inr (.inr ⟨hL.1, by omega, ⟨_, rfl⟩, q, ⟨_, _, _, _, _, _, _, b3, hr3.symm⟩, ?_⟩)⟩
   rcases hout with ⟨_, _, rfl⟩ | ⟨_, _, _, rfl⟩
   ·rw [List.length_drop]; omega
   ·simp
  ·have key : ∀ line, line = acc ++ p → (idxL rest 10 < rest.length ∧ line = dropCR (rest.take (idxL rest 10)) ∧ q = rest.drop (idxL rest 10 + 1)) ∨ (¬idxL rest 10 < rest.length ∧ line = rest ∧ rest ≠ [] ∧ q = []) := by
    rintro line rfl
    rcases hout with ⟨hit, rfl, rfl⟩ | ⟨hmiss, rfl, hne, rfl⟩
    ·refine .inl ⟨by omega, ?_, ?_⟩
     ·rw [hidx]
      have : rest.take (acc.length + idxL rem 10) = acc ++ rem.take (idxL rem 10) := by
       rw [hrest, List.take_append, List.take_of_length_le (by omega)]
       congr 2
       omega
      rw [this]
      rcases Nat.eq_zero_or_pos (idxL rem 10) with h0 | h0
      ·rw [h0, List.take_zero]
       by_cases ha : acc = []
       ·rw [ha]; rfl
       ·by_cases h13 : (nth acc (acc.length - 1)).toNat = 13
        ·have h1 := (hcr h13 ha).2
         have h2 := idx_nth hit
         rw [h0] at h2
         rw [h2] at h1
         exact absurd h1 (by decide)
        ·rw [List.append_nil, dropCR_no (fun h => h13 h.2)]
         rw [dropCR_no (fun h => by simp at h), List.append_nil]
      ·rw [dropCR_app (by intro e; have := congrArg List.length e; rw [List.length_take, List.length_nil] at this; omega)]
     ·have hda : acc.drop (acc.length + idxL rem 10 + 1) = [] := List.drop_eq_nil_of_le (by omega)
      rw [hidx, hrest, List.drop_append, hda, List.nil_append]
      congr 1
      omega
    ·exact .inr ⟨by omega, hrest.symm, by rw [hrest]; intro e; exact hne (List.append_eq_nil_iff.1 e).2, rfl⟩
   have hgo : ∃ x, decide ((0 : Int) ≤ lim) = x ∧ (x = true → decide (lim < (acc.length : Int) + p.length) = false) := ⟨_, rfl, fun h => decide_eq_false (fun h2 => hL ⟨of_decide_eq_true h, h2⟩)⟩
   obtain ⟨x, hx, hx1⟩ := hgo
   by_cases ha : acc = []
   ·subst ha
    cases (hnil rfl)
    cases x with
    | true =>
     have hc1 : decide (lim < 0 + (p.length : Int)) = false := by
      have h := of_decide_eq_false (hx1 rfl)
      exact decide_eq_false (by simpa using h)
     (repeat simp(disch:=omega)only[push_cast,go_sem_proc,↓ite_only,M_block,t0, t1, t6, hx, hc1])
     (with_reducible refine hE _ _ _ _ (nomatch ·) ?_)
     (repeat simp only[push_cast,go_sem_proc,↓ite_only,M_block])
     ((with_reducible refine hX _ _ _ (fun j hj => nomatch hj) ?_); simp only[push_cast,go_sem_proc,↓ite_only,M_block,Tryz.results105])
     exact ⟨k23, .inl ⟨buf3, r3, w3, lb3, lrs3, sv3, src3, _, p, b3, rfl, .inl hlin, by rw [hr3]; exact key p rfl⟩⟩
    | false =>
     (repeat simp only[push_cast,go_sem_proc,↓ite_only,M_block,t0, t1, t6, hx])
     (with_reducible refine hE _ _ _ _ (nomatch ·) ?_)
     (repeat simp only[push_cast,go_sem_proc,↓ite_only,M_block])
     ((with_reducible refine hX _ _ _ (fun j hj => nomatch hj) ?_); simp only[push_cast,go_sem_proc,↓ite_only,M_block,Tryz.results105])
     exact ⟨k23, .inl ⟨buf3, r3, w3, lb3, lrs3, sv3, src3, _, p, b3, rfl, .inl hlin, by rw [hr3]; exact key p rfl⟩⟩
   ·obtain ⟨ba, cpa2, hsa⟩ := hva.some ha
    cases hsa
    have tail : ∀ c, ∃ v' h', aappend w0.heap.size Tryz.prog h3 #[27, 27] (.slice (some ⟨ba, 0, none⟩) acc.length cp6) (.slice va' p.length cpa) c = some (v', h') ∧ Keep g.X h1 h' ∧ BRl h' g buf3 r3 w3 false lb3 lrs3 sv3 src3 ∧ Bts h1.n h' v' (acc ++ p) := by
     intro c
     obtain ⟨v', h4, e, r4, hn4, ho4, _⟩ := app_bytes (c := c) (N := w0.heap.size) hva3 hN (by have := k23.1; omega) hd3 (by omega)
     have hk4 : Keep [] h3 h4 ∨ Keep [ba] h3 h4 := .inr ⟨hn4, fun b hb hX => ho4 b hb (by show b ≠ ba; simpa using hX)⟩
     have hbn : h1.n ≤ ba := by
      rcases hva3 with ⟨e, _⟩ | ⟨b', _, _, e, hb', _⟩
      ·cases e
      ·cases e; exact hb'
     refine ⟨v', h4, e, ?_, ?_, r4⟩
     ·exact ⟨by have := k23.1; omega, fun i hi hX => (ho4 i (by have := k23.1; omega) (by show i ≠ ba; omega)).trans (k23.2 i hi hX)⟩
     ·refine b3.keep (X := [ba]) ⟨hn4, fun b hb hX => ho4 b hb (by show b ≠ ba; simpa using hX)⟩ ?_ ?_ ?_ ?_
      ·have := b0.lR; simp; omega
      ·have := b0.lb'; simp; omega
      ·have := b0.ls; simp; omega
      ·have := b0.ld; simp; omega
    cases x with
    | true =>
     have hc1 := hx1 rfl
     (repeat simp(disch:=omega)only[push_cast,go_sem_proc,↓ite_only,M_block,t0, t1, t6, hx, hc1])
     intro c
     obtain ⟨v', h4, e, hk4, hb4, hr4⟩ := tail c
     rw [e]
     (repeat simp only[push_cast,go_sem_proc,↓ite_only,M_block])
     (with_reducible refine hE _ _ _ _ (nomatch ·) ?_)
     (repeat simp only[push_cast,go_sem_proc,↓ite_only,M_block])
     ((with_reducible refine hX _ _ _ (fun j hj => nomatch hj) ?_); simp only[push_cast,go_sem_proc,↓ite_only,M_block,Tryz.results105])
     exact ⟨hk4, .inl ⟨buf3, r3, w3, lb3, lrs3, sv3, src3, _, acc ++ p, hb4, rfl, .inr hr4.own, by rw [hr3]; exact key _ rfl⟩⟩
    | false =>
     (repeat simp only[push_cast,go_sem_proc,↓ite_only,M_block,t0, t1, t6, hx])
     intro c
     obtain ⟨v', h4, e, hk4, hb4, hr4⟩ := tail c
     rw [e]
     (repeat simp only[push_cast,go_sem_proc,↓ite_only,M_block])
     (with_reducible refine hE _ _ _ _ (nomatch ·) ?_)
     (repeat simp only[push_cast,go_sem_proc,↓ite_only,M_block])
     ((with_reducible refine hX _ _ _ (fun j hj => nomatch hj) ?_); simp only[push_cast,go_sem_proc,↓ite_only,M_block,Tryz.results105])
     exact ⟨hk4, .inl ⟨buf3, r3, w3, lb3, lrs3, sv3, src3, _, acc ++ p, hb4, rfl, .inr hr4.own, by rw [hr3]; exact key _ rfl⟩⟩
 ·rw [hP] at hr3 hlin ⊢
  simp only [errOf_f] at hr3 hlin ⊢
  have hd3 := hlin.data (o := 0) b3
  obtain ⟨va', cpa, hvl⟩ := hlin.len
  subst hvl
  obtain ⟨a6, cp6, hva6⟩ := hva.len
  subst hva6
  have hpq2 : rem.length = p.length + q.length := by rw [hpq, List.length_append]
  have hp1 : 0 < p.length := List.length_pos_iff.2 hp0
  by_cases hL : 0 ≤ lim ∧ lim < (acc.length : Int) + p.length
  ·have hc0 : decide ((0 : Int) ≤ lim) = true := decide_eq_true hL.1
   have hc1 : decide (lim < (acc.length : Int) + p.length) = true := decide_eq_true hL.2
   (repeat simp(disch:=omega)only[push_cast,go_sem_proc,↓ite_only,M_block,t0, t1, t6, hc0, hc1])
   (with_reducible refine hE _ _ _ _ (nomatch ·) ?_)
   (repeat simp only[push_cast,go_sem_proc,↓ite_only,M_block])
   ((with_reducible refine hX _ _ _ (fun j hj => nomatch hj) ?_); simp only[push_cast,go_sem_proc,↓ite_only,M_block,Tryz.results105])
   exact ⟨k23, .inr (.inr ⟨hL.1, by omega, ⟨_, rfl⟩, q, ⟨_, _, _, _, _, _, _, b3, hr3.symm⟩, by omega⟩)⟩
  ·obtain ⟨x, hx, hx1⟩ : ∃ x, decide ((0 : Int) ≤ lim) = x ∧ (x = true → decide (lim < (acc.length : Int) + p.length) = false) := ⟨_, rfl, fun h => decide_eq_false (fun h2 => hL ⟨of_decide_eq_true h, h2⟩)⟩
   have tail : ∀ c, ∃ v' h', aappend w0.heap.size Tryz.prog h3 #[27, 27] (.slice a6 acc.length cp6) (.slice va' p.length cpa) c = some (v', h') ∧ Keep g.X h1 h' ∧ BRl h' g buf3 r3 w3 false lb3 lrs3 sv3 src3 ∧ Bts h1.n h' v' (acc ++ p) := by
    intro c
    obtain ⟨v', h4, e, r4, hn4, ho4, _⟩ := app_bytes (c := c) (N := w0.heap.size) hva3 hN (by have := k23.1; omega) hd3 (by omega)
    have hoff : ∀ i, i < h1.n → Off i (.slice a6 acc.length cp6) := fun i hi => hva3.off hi
    refine ⟨v', h4, e, ?_, ?_, r4⟩
    ·exact ⟨by have := k23.1; omega, fun i hi hX => (ho4 i (by have := k23.1; omega) (hoff i hi)).trans (k23.2 i hi hX)⟩
    ·have hk := k23.1
     have l1 := b0.lR
     have l2 := b0.lb'
     have l3 := b0.ls
     have l4 := b0.ld
     exact ⟨(ho4 _ (by omega) (hoff _ l1)).trans b3.rd, (ho4 _ (by omega) (hoff _ l2)).trans b3.bf, b3.bl, b3.rw, b3.ww, (ho4 _ (by omega) (hoff _ l3)).trans b3.sa, b3.sd.keep (ho4 _ (by omega) (hoff _ l4)), b3.sl, by omega, by omega, by omega, by omega⟩
   have next : ∀ tm h4 v', tget tm 6 = v' → tget tm 0 = ptr tp 0 → tget tm 1 = .int .i64 lim → Keep g.X h1 h4 → BRl h4 g buf3 r3 w3 false lb3 lrs3 sv3 src3 → Bts h1.n h4 v' (acc ++ p) → R .normal tm [] h4 := by
    intro tm h4 v' t6 t0 t1 hk hb hr
    refine hR _ _ q.length (by omega) ⟨acc ++ p, q, v', rfl, t6, hr, ⟨_, _, _, _, _, _, _, hb, hr3.symm⟩, by rw [hrest, hpq, List.append_assoc], by rw [List.all_append, hall, hpall]; rfl, fun e => absurd (List.append_eq_nil_iff.1 e).2 hp0, fun h13 _ => ?_, hk, t0, t1⟩
    refine hpcr ?_
    rw [nth_app_r (by rw [List.length_append]; omega), List.length_append] at h13
    rwa [show acc.length + p.length - 1 - acc.length = p.length - 1 by omega] at h13
   have hva0 : (.slice a6 acc.length cp6 : Value) = .slice none 0 0 ∨ ∃ ba, (.slice a6 acc.length cp6 : Value) = .slice (some ⟨ba, 0, none⟩) acc.length cp6 := by
    by_cases ha : acc = []
    ·exact .inl (hnil ha)
    ·obtain ⟨ba, cpa2, hsa⟩ := hva.some ha
     cases hsa
     exact .inr ⟨ba, rfl⟩
   have ha6 : a6 = none ∨ ∃ ba, a6 = some ⟨ba, 0, none⟩ := by
    rcases hva0 with e | ⟨ba, e⟩
    ·injection e with e1; exact .inl e1
    ·injection e with e1; exact .inr ⟨ba, e1⟩
   cases x with
   | true =>
    have hc1 := hx1 rfl
    rcases ha6 with rfl | ⟨ba, rfl⟩ <;>
    ·(repeat simp(disch:=omega)only[push_cast,go_sem_proc,↓ite_only,M_block,t0, t1, t6, hx, hc1])
     intro c
     obtain ⟨v', h4, e, hk4, hb4, hr4⟩ := tail c
     rw [e]
     (repeat simp only[push_cast,go_sem_proc,↓ite_only,M_block])
     exact next _ h4 v' (by simp only[zT,Nat.reduceBEq]) ‹_› ‹_› hk4 hb4 hr4
   | false =>
    rcases ha6 with rfl | ⟨ba, rfl⟩ <;>
    ·(repeat simp only[push_cast,go_sem_proc,↓ite_only,M_block,t0, t1, t6, hx])
     intro c
     obtain ⟨v', h4, e, hk4, hb4, hr4⟩ := tail c
     rw [e]
     (repeat simp only[push_cast,go_sem_proc,↓ite_only,M_block])
     exact next _ h4 v' (by simp only[zT,Nat.reduceBEq]) ‹_› ‹_› hk4 hb4 hr4
 ·rw [hP] at hr3 hlin ⊢
  simp only [errOf_t] at hr3 hlin ⊢
  obtain ⟨va', cpa, hvl⟩ := hlin.len
  subst hvl
  (repeat simp only[push_cast,go_sem_proc,↓ite_only,M_block,t0, t1, t6])
  (with_reducible refine hE _ _ _ _ (nomatch ·) ?_)
  (repeat simp only[push_cast,go_sem_proc,↓ite_only,M_block])
  ((with_reducible refine hX _ _ _ (fun j hj => nomatch hj) ?_); simp only[push_cast,go_sem_proc,↓ite_only,M_block,Tryz.results105])
  refine ⟨k23, .inr (.inl ⟨rfl, by rw [hidx, hrl]; simp [idxL], _, _, _, _, _, _, _, b3, hr3.symm⟩)⟩
end Go.Proofs.YtbjaapiliegegaaGreatDoor.Sy
end
