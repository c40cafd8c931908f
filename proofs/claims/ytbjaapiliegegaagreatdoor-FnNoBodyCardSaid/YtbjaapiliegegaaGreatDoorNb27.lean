/- Of the proof of FnNoBody: SdE SdF SdG. -/
import Derived.Test.YtbjaapiliegegaaGreatDoorNb26
set_option linter.unusedVariables false
set_option linter.unusedSimpArgs false
section
namespace Go.Proofs.YtbjaapiliegegaaGreatDoor.Sy
open Go
set_option maxRecDepth 100000
variable {w0 : World} {h : Heap}
@[push_cast] def p214_2 : Plan := [(0, []), (1, []), (2, []), (3, []), (4, []), (5, []), (6, []), (7, []), (8, [])]
@[push_cast] def p214_6 : Plan := [(0, []), (1, []), (2, []), (3, []), (4, []), (5, []), (6, []), (7, []), (8, []), (9, []), (10, [])]
@[push_cast] def p215_6 : Plan := [(0, []), (1, []), (2, []), (3, []), (4, []), (5, []), (6, []), (7, []), (8, []), (9, []), (10, []), (11, []), (12, []), (13, []), (14, [])]
theorem restL_cons {buf src : Str} {r w : Nat} (hb : buf.length = 4096) (h1 : r < w) (h2 : w ≤ 4096) : restL buf r w src = nth buf r :: restL buf (r + 1) w src := by
 have h3 := restL_drop (src := src) (m := 1) hb (Nat.le_of_lt h1) h2 (by omega)
 have h4 := restL_take (src := src) (m := 1) hb (Nat.le_of_lt h1) h2 (by omega)
 have h5 := (List.take_append_drop 1 (restL buf r w src)).symm
 rw [← h3, h4] at h5
 rw [h5]
 have : (buf.drop r).take 1 = [nth buf r] := by
  rw [List.take_one, List.head?_drop, nth_get (by omega)]
  rfl
 rw [this]
 rfl
def ByteOut (g : Bio) (rest : Str) (v : Value) (h' : Heap) : Prop :=
 (rest = [] ∧ v = .tuple #[B 0, eofV] ∧ ∃ buf' r' w' lb' lrs' sv' src', BRl h' g buf' r' w' false lb' lrs' sv' src' ∧ restL buf' r' w' src' = []) ∨
 ∃ c tl, rest = c :: tl ∧ v = .tuple #[B c, .nilIface] ∧ ∃ buf' r' w' sv' src', BRl h' g buf' (r' + 1) w' false (c.toNat : Int) (-1) sv' src' ∧ nth buf' r' = c ∧ restL buf' (r' + 1) w' src' = tl
set_option maxHeartbeats 4000000 in
theorem readByte_ok {g : Bio} {buf : Str} {r w : Nat} {lb lrs : Int} {sv : Value} {src : Str} (G : g.Ok w0.heap.size) (b : BRl h g buf r w false lb lrs sv src) :
  ACall Tryz.prog w0 214 [ptr g.R 0] h (fun v h' => Keep g.X h h' ∧ ByteOut g (restL buf r w src) v h') := by
 refine ACall.known fun hKn => ?_
 obtain ⟨hN, hB⟩ := hKn
 refine ACall.run noCount mixed Tryz.func214 rfl (by kernel_rfl) (Nat.le_of_ble_eq_true rfl) fun X hX => ?_
 have G0 := G
 obtain ⟨nR, nb, ns, d1, d2, d3, d4, d5, d6⟩ := G
 have d1' := Ne.symm d1
 have d2' := Ne.symm d2
 have d3' := Ne.symm d3
 generalize hrs : restL buf r w src = rest at *
 have rd := b.rd
 (repeat(first|(simp(disch:=first|omega|(simp only[zN];omega))only[push_cast,go_sem_proc,↓ite_only,M_block,rd])|(with_reducible refine⟨by omega,?_⟩)))
 refine M_loop (fun tm h1 k => Keep g.X h h1 ∧ tget tm 0 = ptr g.R 0 ∧ ∃ buf1 r1 w1 er1 sv1 src1, k = src1.length + (match er1 with | true => 0 | false => 1) ∧ BRl h1 g buf1 r1 w1 er1 lb (-1) sv1 src1 ∧ restL buf1 r1 w1 src1 = rest ∧
   (er1 = true → src1 = [] ∧ r1 = w1)) (src.length + 1)
   ⟨(by repeat (first | exact Keep.refl _ _ | assumption | refine Keep.put ?_ (by first | (left; simp; done) | (right; omega)) _ | refine Keep.new ?_ _)), (by simp only[zT,Nat.reduceBEq]), buf, r, w, false, sv, src, rfl, b.re G0 (by repeat (first | exact Keep.refl _ _ | assumption | refine Keep.put ?_ (by first | (left; simp; done) | (right; omega)) _ | refine Keep.new ?_ _)) (by first|assumption|(simp(disch:=first|assumption|omega)only[at_put_eq,at_put_ne,at_new_eq,at_new_ne,zN,ne_eq,not_false_eq_true];first|done|assumption|rfl)) b.rw b.ww, hrs, (nomatch ·)⟩ ?_
 rintro tm1 h1 k R ⟨k1, t0, buf1, r1, w1, er1, sv1, src1, rfl, b1, hrest, her⟩ hR hE
 have bl1 := b1.bl
 have bf1 := b1.bf
 have rd1 := b1.rd
 have hrw1 := b1.rw
 have hww1 := b1.ww
 have hlen1 := restL_len (src := src1) b1.bl b1.rw b1.ww
 rw [hrest] at hlen1
 by_cases hrw : r1 = w1
 ·have hdec : decide ((r1 : Int) = (w1 : Int)) = true := decide_eq_true (by omega)
  cases er1 with
  | true =>
   obtain ⟨rfl, -⟩ := her rfl
   (repeat(first|(simp(disch:=omega)only[push_cast,go_sem_proc,↓ite_only,M_block,t0, rd1, hdec, errOf_t])|(with_reducible refine M_draw (id:=2) p214_2 ?_ ?_;focus kernel_rfl)))
   refine callM_of (readErr_ok G0 b1) ?_
   rintro v h2 ⟨rfl, k2, hbb, b2⟩
   (repeat simp only[push_cast,go_sem_proc,↓ite_only,M_block,t0, errOf_t])
   (with_reducible refine hE _ _ _ _ (nomatch ·) ?_)
   (repeat simp only[push_cast,go_sem_proc,↓ite_only,M_block])
   ((with_reducible refine hX _ _ _ (fun j hj => nomatch hj) ?_); simp only[push_cast,go_sem_proc,↓ite_only,M_block,Tryz.results214])
   have hr0 : rest = [] := List.eq_nil_of_length_eq_zero (by rw [hlen1]; simp; omega)
   exact ⟨k1.trans k2, .inl ⟨hr0, rfl, buf1, r1, w1, _, _, sv1, [], b2, by rw [hrest, hr0]⟩⟩
  | false =>
   (repeat(first|(simp(disch:=omega)only[push_cast,go_sem_proc,↓ite_only,M_block,t0, rd1, hdec, errOf_f])|(with_reducible refine M_draw (id:=2) p214_2 ?_ ?_;focus kernel_rfl)))
   refine callM_of (bfill_ok G0 b1 (by omega)) ?_
   rintro v h2 ⟨k2, buf2, sv2, b2, e2⟩
   (repeat simp only[push_cast,go_sem_proc,↓ite_only,M_block,t0])
   have hr2 := (restL_fill rfl e2).trans hrest
   cases hse : src1.isEmpty with
   | true =>
    have hs0 : src1 = [] := by simpa using hse
    subst hs0
    refine hR _ _ 0 (by simp) ⟨k1.trans k2, ‹_›, buf2, 0, w1 - r1, true, sv2, [], by simp, by simpa using b2, by simpa using hr2, fun _ => ⟨rfl, by omega⟩⟩
   | false =>
    have hs0 : 0 < src1.length := List.length_pos_iff.2 (by intro e; rw [e] at hse; simp at hse)
    rw [hse] at b2
    refine hR _ _ ((src1.drop (4096 - (w1 - r1))).length + 1) (by simp only [List.length_drop]; omega) ⟨k1.trans k2, ‹_›, buf2, 0, _, false, sv2, _, by rfl, b2, hr2, (nomatch ·)⟩
 ·have hdec : decide ((r1 : Int) = (w1 : Int)) = false := decide_eq_false (by omega)
  have er0 : er1 = false := by cases er1 with | false => rfl | true => exact absurd (her rfl).2 hrw
  subst er0
  (repeat(first|(simp(disch:=omega)only[push_cast,go_sem_proc,↓ite_only,M_block,t0, rd1, hdec])|(with_reducible refine M_draw (id:=2) p214_2 ?_ ?_;focus kernel_rfl)))
  (with_reducible refine hE _ _ _ _ (nomatch ·) ?_)
  have hw : IntKind.i64.wrap ((nth buf1 r1).toNat : Int) = (nth buf1 r1).toNat := wrap64 (by omega) (by have := (nth buf1 r1).toNat_lt; omega)
  (repeat(first|(simp(disch:=first|omega|(simp only[zN];omega))only[push_cast,go_sem_proc,↓ite_only,M_block,t0, rd1, bf1, bl1, hw])|(with_reducible refine⟨by omega,?_⟩)|(with_reducible refine M_draw (id:=6) p214_6 ?_ ?_;focus kernel_rfl)))
  ((with_reducible refine hX _ _ _ (fun j hj => nomatch hj) ?_); simp only[push_cast,go_sem_proc,↓ite_only,M_block,Tryz.results214])
  refine ⟨(by repeat (first | exact Keep.refl _ _ | assumption | refine Keep.put ?_ (by first | (left; simp; done) | (right; omega)) _ | refine Keep.new ?_ _)), ?_⟩
  refine .inr ⟨nth buf1 r1, _, hrest.symm.trans (restL_cons bl1 (by omega) hww1), rfl, buf1, r1, w1, sv1, src1, ?_, rfl, rfl⟩
  exact b1.re G0 (by repeat (first | exact Keep.refl _ _ | assumption | refine Keep.put ?_ (by first | (left; simp; done) | (right; omega)) _ | refine Keep.new ?_ _)) (by rw [at_put_eq]; rfl) (by omega) hww1
set_option maxHeartbeats 4000000 in
theorem unreadByte_ok {g : Bio} {buf : Str} {r w : Nat} {lrs : Int} {sv : Value} {src : Str} (c : UInt8) (G : g.Ok w0.heap.size) (b : BRl h g buf (r + 1) w false (c.toNat : Int) lrs sv src) (hc : nth buf r = c) :
  ACall Tryz.prog w0 215 [ptr g.R 0] h (fun v h' => Keep g.X h h' ∧ v = .nilIface ∧ BRl h' g buf r w false (-1) (-1) sv src ∧ restL buf r w src = c :: restL buf (r + 1) w src) := by
 refine ACall.known fun hKn => ?_
 obtain ⟨hN, hB⟩ := hKn
 refine ACall.run noCount mixed Tryz.func215 rfl (by kernel_rfl) (Nat.le_of_ble_eq_true rfl) fun X hX => ?_
 have G0 := G
 obtain ⟨nR, nb, ns, d1, d2, d3, d4, d5, d6⟩ := G
 have d1' := Ne.symm d1
 have d2' := Ne.symm d2
 have d3' := Ne.symm d3
 have bl := b.bl
 have bf := b.bf
 have rd := b.rd
 have hrw := b.rw
 have hww := b.ww
 have hneg : decide ((c.toNat : Int) < 0) = false := decide_eq_false (by omega)
 have hz : decide ((r : Int) + 1 = 0) = false := decide_eq_false (by omega)
 have hp : decide ((0 : Int) < (r : Int) + 1) = true := decide_eq_true (by omega)
 have hto : ((r : Int) + 1 - 1).toNat = r := by omega
 have hmod : (c.toNat : Int) % 256 = c.toNat := by have := c.toNat_lt; omega
 have hset : splice (byteVals buf) r [B c] = byteVals buf := by
  have := splice_bytes buf [c] r
  show splice (byteVals buf) r (byteVals [c]) = _
  rw [this]
  congr 1
  unfold spl
  have h1 : (buf.drop r).take 1 = [nth buf r] := by
   rw [List.take_one, List.head?_drop, nth_get (by omega)]
   rfl
  rw [← hc, ← h1]
  simp only [List.length_take, List.length_drop, bl]
  rw [Nat.min_eq_left (by omega), List.append_assoc, ← List.drop_drop, List.take_append_drop, List.take_append_drop]
 have hI : (r : Int) + 1 - 1 = r := by omega
 (repeat(first|(simp(disch:=first|omega|(simp only[zN];omega))only[push_cast,go_sem_proc,↓ite_only,M_block,rd, hneg, hz, hp, hI, bf, bl, hmod, hset])|(with_reducible refine⟨by omega,?_⟩)|(with_reducible refine M_draw (id:=6) p215_6 ?_ ?_;focus kernel_rfl)))
 ((with_reducible refine hX _ _ _ (fun j hj => nomatch hj) ?_); simp only[push_cast,go_sem_proc,↓ite_only,M_block,Tryz.results215])
 exact ⟨(by repeat (first | exact Keep.refl _ _ | assumption | refine Keep.put ?_ (by first | (left; simp; done) | (right; omega)) _ | refine Keep.new ?_ _)), ⟨(by first|assumption|(simp(disch:=first|assumption|omega)only[at_put_eq,at_put_ne,at_new_eq,at_new_ne,zN,ne_eq,not_false_eq_true];first|done|assumption|rfl)), (by first|assumption|(simp(disch:=first|assumption|omega)only[at_put_eq,at_put_ne,at_new_eq,at_new_ne,zN,ne_eq,not_false_eq_true];first|done|assumption|rfl)), bl, by omega, hww, (by rw [← b.sa]; exact (by first|assumption|(simp(disch:=first|assumption|omega)only[at_put_eq,at_put_ne,at_new_eq,at_new_ne,zN,ne_eq,not_false_eq_true];first|done|assumption|rfl))), b.sd.keep (by first|assumption|(simp(disch:=first|assumption|omega)only[at_put_eq,at_put_ne,at_new_eq,at_new_ne,zN,ne_eq,not_false_eq_true];first|done|assumption|rfl)), b.sl, b.lR, b.lb', b.ls, b.ld⟩, by rw [restL_cons bl (by omega) hww, hc]⟩
end Go.Proofs.YtbjaapiliegegaaGreatDoor.Sy
end
section
namespace Go.Proofs.YtbjaapiliegegaaGreatDoor.Sy
open Go
set_option maxRecDepth 100000
variable {w0 : World} {h : Heap}
@[push_cast] def p145_3 : Plan := [(0, []), (1, []), (2, []), (3, []), (4, []), (5, []), (6, []), (7, []), (8, []), (9, [])]
def Sub (v v' : Value) (lo n : Nat) : Prop := (n = 0 ∧ ∃ a cp, v' = .slice a 0 cp) ∨ ∃ b o len cp, v = .slice (some ⟨b, o, none⟩) len cp ∧ lo + n ≤ len ∧ v' = .slice (some ⟨b, o + lo, none⟩) n (cp - lo)
theorem Data.sub {v v' : Value} {l : Str} {lo n : Nat} (d : Data h v l) (s : Sub v v' lo n) : Data h v' ((l.drop lo).take n) := by
 rcases s with ⟨rfl, a, cp, rfl⟩ | ⟨b, o, len, cp, rfl, hle, rfl⟩
 ·exact .inl ⟨rfl, _, _, rfl⟩
 ·rcases d with ⟨rfl, a, cp', e⟩ | ⟨b', pre, post, cp', l1, l2, e, hcp, hat⟩
  ·cases e
   have : n = 0 := by omega
   subst this
   exact .inl ⟨rfl, _, _, rfl⟩
  ·cases e
   have hl : ((l.drop lo).take n).length = n := by rw [List.length_take, List.length_drop]; omega
   refine .inr ⟨b, pre ++ byteVals (l.take lo), byteVals (l.drop (lo + n)) ++ post, cp - lo, l1, l2, ?_, by omega, ?_⟩
   ·rw [List.length_append, byteVals_length, List.length_take, Nat.min_eq_left (by omega), hl]
   ·rw [hat]
    have : byteVals l = byteVals (l.take lo) ++ (byteVals ((l.drop lo).take n) ++ byteVals (l.drop (lo + n))) := by
     rw [← byteVals_app, ← byteVals_app, ← List.drop_drop, List.take_append_drop, List.take_append_drop]
    rw [this]
    simp only [List.append_assoc]
theorem Lin.sub {g : Bio} {buf : Str} {r : Nat} {v v' : Value} {l : Str} {lo n : Nat} (d : Lin g buf r v l) (s : Sub v v' lo n) : Lin g buf r v' ((l.drop lo).take n) := by
 rcases s with ⟨rfl, a, cp, rfl⟩ | ⟨b, o, len, cp, rfl, hle, rfl⟩
 ·exact .inl ⟨rfl, _, _, rfl⟩
 ·rcases d with ⟨rfl, a, cp', e⟩ | ⟨o', cp', e, hcp, hor, hbo⟩
  ·cases e
   have : n = 0 := by omega
   subst this
   exact .inl ⟨rfl, _, _, rfl⟩
  ·cases e
   have hl : ((l.drop lo).take n).length = n := by rw [List.length_take, List.length_drop]; omega
   refine .inr ⟨o + lo, cp - lo, by rw [hl], by rw [hl]; omega, by rw [hl]; omega, ?_⟩
   rw [hl]
   have e2 := congrArg (fun x => (x.drop lo).take n) hbo
   simp only [List.drop_take, List.drop_drop, List.take_take] at e2
   rwa [Nat.min_eq_left (by omega)] at e2
theorem colon_ok {v : Value} {l : Str} (hd : Data h v l) (hl : l.length < 1099511627776) :
  ACall Tryz.prog w0 144 [v] h (fun u h' => h' = h ∧ ((idxL l 58 < l.length ∧ u = .nilIface) ∨ (¬idxL l 58 < l.length ∧ ∃ t x, u = .iface t x))) := by
 refine ACall.known fun hKn => ?_
 obtain ⟨hN, hB⟩ := hKn
 refine ACall.run noCount mixed Tryz.func144 rfl (by kernel_rfl) (Nat.le_of_ble_eq_true rfl) fun X hX => ?_
 (repeat simp only[push_cast,go_sem_proc,↓ite_only,M_block])
 refine callM_of (indexByte_ok197 58 hd hl) ?_
 rintro u h2 ⟨rfl, rfl⟩
 by_cases hit : idxL l 58 < l.length
 ·rw [idxV_hit hit]
  have hn : decide ((idxL l 58 : Int) < 0) = false := decide_eq_false (by omega)
  (repeat simp only[push_cast,go_sem_proc,↓ite_only,M_block,hn])
  ((with_reducible refine hX _ _ _ (fun j hj => nomatch hj) ?_); simp only[push_cast,go_sem_proc,↓ite_only,M_block,Tryz.results144])
  exact .inl hit
 ·rw [idxV_miss hit]
  (repeat simp only[push_cast,go_sem_proc,↓ite_only,M_block])
  ((with_reducible refine hX _ _ _ (fun j hj => nomatch hj) ?_); simp only[push_cast,go_sem_proc,↓ite_only,M_block,Tryz.results144])
  exact .inr ⟨hit, _, _, rfl⟩
theorem cutByte_ok {v : Value} {l : Str} (d : UInt8) (hd : Data h v l) (hl : l.length < 1099511627776) :
  ACall Tryz.prog w0 145 [v, B d] h (fun u h' => h' = h ∧ ∃ x y, u = .tuple #[x, y, .bool (decide (idxL l d < l.length))] ∧ (idxL l d < l.length → Sub v x 0 (idxL l d) ∧ Sub v y (idxL l d + 1) (l.length - (idxL l d + 1))) ∧ (¬idxL l d < l.length → x = v ∧ y = .slice none 0 0)) := by
 refine ACall.known fun hKn => ?_
 obtain ⟨hN, hB⟩ := hKn
 refine ACall.run noCount mixed Tryz.func145 rfl (by kernel_rfl) (Nat.le_of_ble_eq_true rfl) fun X hX => ?_
 obtain ⟨a, cp, hv⟩ := hd.len
 subst hv
 (repeat simp only[push_cast,go_sem_proc,↓ite_only,M_block])
 refine callM_of (indexByte_ok197 d hd hl) ?_
 rintro u h2 ⟨rfl, rfl⟩
 by_cases hit : idxL l d < l.length
 ·rw [idxV_hit hit]
  have hn : decide ((0 : Int) ≤ (idxL l d : Int)) = true := decide_eq_true (by omega)
  obtain ⟨b, pre, post, cp', lo, hi, hv, hcp, hat⟩ := hd.at (by omega)
  cases hv
  have hto : ((idxL l d : Int) + 1).toNat = idxL l d + 1 := by omega
  have hc0 : (cp = 0) = False := eq_false (by omega)
  (repeat(first|(simp(disch:=omega)only[push_cast,go_sem_proc,↓ite_only,M_block,hn, hto, hc0])|(with_reducible refine⟨by omega,?_⟩)|(with_reducible refine M_draw (id:=3) p145_3 ?_ ?_;focus kernel_rfl)))
  ((with_reducible refine hX _ _ _ (fun j hj => nomatch hj) ?_); simp only[push_cast,go_sem_proc,↓ite_only,M_block,Tryz.results145])
  refine ⟨_, _, by rw [decide_eq_true hit], fun _ => ⟨?_, ?_⟩, fun h => absurd hit h⟩
  ·exact .inr ⟨b, _, _, _, rfl, by omega, by simp⟩
  ·by_cases hz : l.length - (idxL l d + 1) = 0
   ·refine .inl ⟨hz, _, _, by rw [hz]⟩
   ·rw [if_neg (by omega)]
    exact .inr ⟨b, _, _, _, rfl, by omega, rfl⟩
 ·rw [idxV_miss hit]
  (repeat simp only[push_cast,go_sem_proc,↓ite_only,M_block])
  ((with_reducible refine hX _ _ _ (fun j hj => nomatch hj) ?_); simp only[push_cast,go_sem_proc,↓ite_only,M_block,Tryz.results145])
  exact ⟨_, _, by rw [decide_eq_false hit], fun h => absurd h hit, fun _ => ⟨rfl, rfl⟩⟩
def lead (l : Str) : Nat := (l.takeWhile blankB).length
theorem lead_le (l : Str) : lead l ≤ l.length := (List.takeWhile_prefix _).length_le
theorem lead_at {l : Str} {k : Nat} (hk : k ≤ l.length) (ha : (l.take k).all blankB = true) (hs : k = l.length ∨ blankB (nth l k) = false) : lead l = k := by
 unfold lead
 rw [tw_eq (p := blankB) l k hk ha hs, List.length_take, Nat.min_eq_left hk]
theorem lead_drop (l : Str) : l.dropWhile blankB = l.drop (lead l) := by
 unfold lead
 have h1 := List.takeWhile_append_dropWhile (p := blankB) (l := l)
 have h2 : (l.takeWhile blankB ++ l.dropWhile blankB).drop (l.takeWhile blankB).length = l.dropWhile blankB := List.drop_left
 rw [h1] at h2
 exact h2.symm
set_option maxHeartbeats 4000000 in
theorem trimLeft_ok {v : Value} {l : Str} (hd : Data h v l) (hl : l.length < 1099511627776) :
  ACall Tryz.prog w0 147 [v] h (fun u h' => h' = h ∧ Sub v u (lead l) (l.length - lead l)) := by
 refine ACall.known fun hKn => ?_
 obtain ⟨hN, hB⟩ := hKn
 refine ACall.run noCount mixed Tryz.func147 rfl (by kernel_rfl) (Nat.le_of_ble_eq_true rfl) fun X hX => ?_
 obtain ⟨a, cp, hv⟩ := hd.len
 subst hv
 (repeat simp only[push_cast,go_sem_proc,↓ite_only,M_block])
 refine M_loop (fun tm h1 n => ∃ k u, k ≤ l.length ∧ n = l.length - k ∧ h1 = h ∧ tget tm 0 = u ∧ Sub (.slice a l.length cp) u k (l.length - k) ∧ (l.take k).all blankB = true) l.length
  ⟨0, _, by omega, by omega, rfl, (by simp only[zT,Nat.reduceBEq];rfl), ?_, rfl⟩ ?_
 ·by_cases h0 : l.length = 0
  ·exact .inl ⟨by omega, _, _, by rw [h0]⟩
  ·obtain ⟨b, pre, post, cp', lo, hi, hv, hcp, hat⟩ := hd.at (by omega)
   cases hv
   exact .inr ⟨b, _, _, _, rfl, by omega, rfl⟩
 rintro tm1 h1 n R ⟨k, u, hk, rfl, rfl, t0, hs, hall⟩ hR hE
 rcases Nat.lt_or_ge k l.length with hlt | hge
 ·obtain ⟨b, pre, post, cp', lo, hi, hv, hcp, hat⟩ := hd.at (by omega)
  cases hv
  rcases hs with ⟨h0, _⟩ | ⟨b2, o2, len2, cp2, e2, hle, rfl⟩
  ·omega
  cases e2
  have hpos : decide ((0 : Int) < (l.length : Int) - (k : Int)) = true := decide_eq_true (by omega)
  have hg := mid_get pre post l k hlt
  have hto : ((l.length : Int) - (k : Int)).toNat = l.length - k := by omega
  have hlk : ((l.length - k : Nat) : Int) = (l.length : Int) - k := by omega
  by_cases hb : blankB (nth l k) = true
  ·have hb2 : (nth l k).toNat = 32 ∨ (nth l k).toNat = 9 := by simpa [blankB, blankN] using hb
   have key : ∀ tm, tget tm 0 = .slice (if cp - k = 1 then some ⟨b, pre.length + k, none⟩ else some ⟨b, pre.length + k + 1, none⟩) (l.length - k - 1) (cp - k - 1) → R .normal tm [] h1 := by
    intro tm t0
    refine hR _ _ (l.length - (k + 1)) (by omega) ⟨k + 1, _, by omega, rfl, rfl, t0, ?_, all_snoc hlt hall hb⟩
    by_cases hz : l.length - (k + 1) = 0
    ·exact .inl ⟨hz, _, _, by rw [show l.length - k - 1 = 0 by omega]⟩
    ·rw [if_neg (by omega)]
     exact .inr ⟨b, _, _, _, rfl, by omega, by congr 1⟩
   rcases hb2 with h32 | h9
   ·have h32' : ((nth l k).toNat : Int) = 32 := by omega
    (repeat(first|(simp(disch:=omega)only[push_cast,go_sem_proc,↓ite_only,M_block,t0, hpos, hat, hg, h32'])|(with_reducible refine⟨by omega,?_⟩)))
    exact key _ (by simp only[zT,Nat.reduceBEq])
   ·have h9' : ((nth l k).toNat : Int) = 9 := by omega
    (repeat(first|(simp(disch:=omega)only[push_cast,go_sem_proc,↓ite_only,M_block,t0, hpos, hat, hg, h9'])|(with_reducible refine⟨by omega,?_⟩)))
    exact key _ (by simp only[zT,Nat.reduceBEq])
  ·have hb1 : blankB (nth l k) = false := by simpa using hb
   have h32 : decide (((nth l k).toNat : Int) = 32) = false := decide_eq_false (fun e => by apply hb; simp [blankB, blankN]; omega)
   have h9 : decide (((nth l k).toNat : Int) = 9) = false := decide_eq_false (fun e => by apply hb; simp [blankB, blankN]; omega)
   (repeat(first|(simp(disch:=omega)only[push_cast,go_sem_proc,↓ite_only,M_block,t0, hpos, hat, hg, h32, h9])|(with_reducible refine⟨by omega,?_⟩)))
   (with_reducible refine hE _ _ _ _ (nomatch ·) ?_)
   (repeat simp only[push_cast,go_sem_proc,↓ite_only,M_block,t0])
   ((with_reducible refine hX _ _ _ (fun j hj => nomatch hj) ?_); simp only[push_cast,go_sem_proc,↓ite_only,M_block,Tryz.results147])
   rw [lead_at hk hall (.inr hb1)]
   exact .inr ⟨b, _, _, _, rfl, hle, rfl⟩
 ·have hk' : k = l.length := by omega
  have hS : ∃ a2 cp2, u = .slice a2 0 cp2 := by
   rcases hs with ⟨_, a2, cp2, e⟩ | ⟨b2, o2, len2, cp2, e2, hle, e⟩
   ·exact ⟨a2, cp2, e⟩
   ·rw [show l.length - k = 0 by omega] at e; exact ⟨_, _, e⟩
  obtain ⟨a2, cp2, rfl⟩ := hS
  (repeat simp only[push_cast,go_sem_proc,↓ite_only,M_block,t0])
  (with_reducible refine hE _ _ _ _ (nomatch ·) ?_)
  (repeat simp only[push_cast,go_sem_proc,↓ite_only,M_block,t0])
  ((with_reducible refine hX _ _ _ (fun j hj => nomatch hj) ?_); simp only[push_cast,go_sem_proc,↓ite_only,M_block,Tryz.results147])
  rw [lead_at hk hall (.inl hk')]
  exact hs
end Go.Proofs.YtbjaapiliegegaaGreatDoor.Sy
end
section
namespace Go.Proofs.YtbjaapiliegegaaGreatDoor.Sy
open Go
set_option maxRecDepth 100000
variable {w0 : World} {h : Heap}
def vhvN (n : Nat) : Bool := decide (32 ≤ n ∧ n ≠ 127 ∨ n = 9)
def vhvX (n : Nat) : Bool :=
 decide (((BitVec.ofInt IntKind.u64.bits ((BitVec.ofInt IntKind.u64.bits (1 * 2 ^ min n IntKind.u64.bits % 18446744073709551616) &&& ~~~BitVec.ofInt IntKind.u64.bits 18446744069414584832).toNat % 18446744073709551616) |||
  BitVec.ofInt IntKind.u64.bits ((BitVec.ofInt IntKind.u64.bits (1 * 2 ^ min (((n : Int) - 64) % 256).toNat IntKind.u64.bits % 18446744073709551616) &&& ~~~BitVec.ofInt IntKind.u64.bits 9223372036854775807).toNat % 18446744073709551616)).toNat : Int) % 18446744073709551616 = 0)
theorem vhv_eq (c : UInt8) : vhvX c.toNat = vhvN c.toNat := all256 (p := fun n => vhvX n = vhvN n) (by decide +kernel) c
theorem abits_andNot (k : IntKind) (x y : Int) : abits .andNot k x y = some (.int k (k.wrap (BitVec.ofInt k.bits x &&& ~~~BitVec.ofInt k.bits y).toNat)) := rfl
theorem vhvb_ok (c : UInt8) : ACall Tryz.prog w0 146 [B c] h (fun v h' => v = .bool (vhvN c.toNat) ∧ h' = h) := by
 refine ACall.known fun hKn => ?_
 obtain ⟨hN, hB⟩ := hKn
 refine ACall.run noCount mixed Tryz.func146 rfl (by kernel_rfl) (Nat.le_of_ble_eq_true rfl) fun X hX => ?_
 (repeat(first|(simp only[push_cast,go_sem_proc,↓ite_only,M_block,abits_andNot])|(with_reducible refine⟨by omega,?_⟩)))
 ((with_reducible refine hX _ _ _ (fun j hj => nomatch hj) ?_); simp only[push_cast,go_sem_proc,↓ite_only,M_block,Tryz.results146])
 exact congrArg Value.bool (vhv_eq c)
def letN (n : Nat) : Bool := decide (65 ≤ n ∧ n ≤ 90 ∨ 97 ≤ n ∧ n ≤ 122)
def letX (n : Nat) : Bool := decide ((97 : Int) ≤ ((BitVec.ofInt IntKind.u8.bits (n : Int) ||| BitVec.ofInt IntKind.u8.bits 32).toNat : Int) % 256) && decide (((BitVec.ofInt IntKind.u8.bits (n : Int) ||| BitVec.ofInt IntKind.u8.bits 32).toNat : Int) % 256 ≤ 122)
theorem let_eq (c : UInt8) : letX c.toNat = letN c.toNat := all256 (p := fun n => letX n = letN n) (by decide +kernel) c
theorem letter_ok (c : UInt8) : ACall Tryz.prog w0 194 [B c] h (fun v h' => v = .bool (letN c.toNat) ∧ h' = h) := by
 refine ACall.known fun hKn => ?_
 obtain ⟨hN, hB⟩ := hKn
 refine ACall.run noCount mixed Tryz.func194 rfl (by kernel_rfl) (Nat.le_of_ble_eq_true rfl) fun X hX => ?_
 have hE := let_eq c
 unfold letX at hE
 (repeat simp only[push_cast,go_sem_proc,↓ite_only,M_block])
 (with_reducible(first|refine condM_same ?_ ?_|refine condM_nsame ?_ ?_|refine oneM_same ?_ ?_|refine oneM_nsame ?_ ?_|refine oneP_same ?_ ?_|refine oneP_nsame ?_ ?_|refine condM_dec_ ?_ ?_|refine condM_not_ ?_ ?_|refine oneM_dec_ ?_ ?_|refine oneM_not_ ?_ ?_|refine oneP_dec_ ?_ ?_|refine oneP_not_ ?_ ?_|refine condM_bool ?_ ?_|refine oneM_bool ?_ ?_|refine oneP_bool ?_ ?_)<;>intro c1)
 ·(repeat simp only[push_cast,go_sem_proc,↓ite_only,M_block,c1])
  ((with_reducible refine hX _ _ _ (fun j hj => nomatch hj) ?_); simp only[push_cast,go_sem_proc,↓ite_only,M_block,Tryz.results194])
  rw [decide_eq_true c1, Bool.true_and] at hE
  exact congrArg Value.bool hE
 ·(repeat simp only[push_cast,go_sem_proc,↓ite_only,M_block,c1])
  ((with_reducible refine hX _ _ _ (fun j hj => nomatch hj) ?_); simp only[push_cast,go_sem_proc,↓ite_only,M_block,Tryz.results194])
  rw [decide_eq_false c1, Bool.false_and] at hE
  exact congrArg Value.bool hE
theorem trimL_drop (l : Str) : trimB l = trimR (l.drop (lead l)) := by unfold trimB; rw [lead_drop]
set_option maxHeartbeats 8000000 in
theorem trim_ok {v : Value} {l : Str} (hd : Data h v l) (hl : l.length < 1099511627776) :
  ACall Tryz.prog w0 195 [v] h (fun u h' => h' = h ∧ ∃ n, Sub v u (lead l) n ∧ lead l + n ≤ l.length ∧ (l.drop (lead l)).take n = trimB l) := by
 refine ACall.known fun hKn => ?_
 obtain ⟨hN, hB⟩ := hKn
 refine ACall.run noCount mixed Tryz.func195 rfl (by kernel_rfl) (Nat.le_of_ble_eq_true rfl) fun X hX => ?_
 obtain ⟨a, cp, hv⟩ := hd.len
 subst hv
 (repeat simp only[push_cast,go_sem_proc,↓ite_only])
 refine M_cut (fun tm h1 => h1 = h ∧ tget tm 0 = .slice a l.length cp ∧ tget tm 3 = I (lead l : Nat)) (fun R2 hR2 hE2 => ?_) ?_
 ·(repeat simp only[push_cast,go_sem_proc,↓ite_only,M_block])
  refine M_loop (fun tm h1 n => ∃ k : Nat, k ≤ l.length ∧ n = l.length - k ∧ h1 = h ∧ tget tm 0 = .slice a l.length cp ∧ tget tm 3 = I k ∧ (l.take k).all blankB = true) l.length
   ⟨0, by omega, by omega, rfl, (by simp only[zT,Nat.reduceBEq]), (by simp only[zT,Nat.reduceBEq];rfl), rfl⟩ ?_
  rintro tm1 h1 n R ⟨k, hk, rfl, rfl, t0, t3, hall⟩ hR hE
  rcases Nat.lt_or_ge k l.length with hlt | hge
  ·obtain ⟨b, pre, post, cp', lo, hi, hv, hcp, hat⟩ := hd.at (by omega)
   cases hv
   have hpos : decide ((k : Int) < (l.length : Int)) = true := decide_eq_true (by omega)
   have hg := mid_get pre post l k hlt
   by_cases hb : blankB (nth l k) = true
   ·have hb2 : (nth l k).toNat = 32 ∨ (nth l k).toNat = 9 := by simpa [blankB, blankN] using hb
    have key : ∀ tm, tget tm 0 = .slice (some ⟨b, pre.length, none⟩) l.length cp → tget tm 3 = I ((k : Int) + 1) → R .normal tm [] h1 := by
     intro tm t0 t3
     exact hR _ _ (l.length - (k + 1)) (by omega) ⟨k + 1, by omega, rfl, rfl, t0, t3, all_snoc hlt hall hb⟩
    rcases hb2 with h32 | h9
    ·have h32' : ((nth l k).toNat : Int) = 32 := by omega
     (repeat(first|(simp(disch:=omega)only[push_cast,go_sem_proc,↓ite_only,M_block,t0, t3, hpos, hat, hg, h32'])|(with_reducible refine⟨by omega,?_⟩)))
     exact key _ ‹_› (by simp only[zT,Nat.reduceBEq])
    ·have h9' : ((nth l k).toNat : Int) = 9 := by omega
     (repeat(first|(simp(disch:=omega)only[push_cast,go_sem_proc,↓ite_only,M_block,t0, t3, hpos, hat, hg, h9'])|(with_reducible refine⟨by omega,?_⟩)))
     exact key _ ‹_› (by simp only[zT,Nat.reduceBEq])
   ·have hb1 : blankB (nth l k) = false := by simpa using hb
    have h32 : decide (((nth l k).toNat : Int) = 32) = false := decide_eq_false (fun e => by apply hb; simp [blankB, blankN]; omega)
    have h9 : decide (((nth l k).toNat : Int) = 9) = false := decide_eq_false (fun e => by apply hb; simp [blankB, blankN]; omega)
    (repeat(first|(simp only[push_cast,go_sem_proc,↓ite_only,M_block,t0, t3, hpos, hat, hg, h32, h9])|(with_reducible refine⟨by omega,?_⟩)))
    (with_reducible refine hE _ _ _ _ (nomatch ·) ?_)
    (repeat simp only[push_cast,go_sem_proc,↓ite_only,M_block])
    have hlk := lead_at hk hall (.inr hb1)
    exact hR2 _ _ ⟨rfl, ‹_›, by rw [hlk]; assumption⟩
  ·have hk' : k = l.length := by omega
   have hpos : decide ((k : Int) < (l.length : Int)) = false := decide_eq_false (by omega)
   (repeat simp only[push_cast,go_sem_proc,↓ite_only,M_block,t0, t3, hpos])
   (with_reducible refine hE _ _ _ _ (nomatch ·) ?_)
   (repeat simp only[push_cast,go_sem_proc,↓ite_only,M_block])
   have hlk := lead_at hk hall (.inl hk')
   exact hR2 _ _ ⟨rfl, ‹_›, by rw [hlk]; assumption⟩
 ·rintro tm1 h1 ⟨rfl, t0, t3⟩
  have hle := lead_le l
  have hTB := trimL_drop l
  generalize hi : lead l = i at *
  rcases Nat.lt_or_ge i l.length with hlt | hge
  ·obtain ⟨b, pre, post, cp', lo, hi', hv, hcp, hat⟩ := hd.at (by omega)
   cases hv
   have hci : (cp = i) = False := eq_false (by omega)
   have hcli : ((l.length - i : Nat) : Int) = (l.length : Int) - i := by omega
   have hdl : (l.drop i).length = l.length - i := List.length_drop
   (repeat(first|(simp(disch:=omega)only[push_cast,go_sem_proc,↓ite_only,t0, t3, hci])|(with_reducible refine⟨by omega,?_⟩)))
   refine M_cut (fun tm h2 => h2 = h1 ∧ tget tm 0 = .slice (some ⟨b, pre.length + i, none⟩) (l.length - i) (cp - i) ∧ ∃ m : Nat, m ≤ l.length - i ∧ tget tm 4 = I ((m : Int) - 1) ∧ (l.drop i).take m = trimB l) (fun R2 hR2 hE2 => ?_) ?_
   ·(repeat simp only[push_cast,go_sem_proc,↓ite_only,M_block])
    refine M_loop (fun tm h2 n => h2 = h1 ∧ tget tm 0 = .slice (some ⟨b, pre.length + i, none⟩) (l.length - i) (cp - i) ∧ n ≤ l.length - i ∧ tget tm 4 = I ((n : Int) - 1) ∧ trimR ((l.drop i).take n) = trimB l) (l.length - i)
     ⟨rfl, (by simp only[zT,Nat.reduceBEq]), Nat.le_refl _, by rw [hcli]; exact (by simp only[zT,Nat.reduceBEq]), by rw [← hdl, List.take_length, hTB]⟩ ?_
    rintro tm2 h2 n R ⟨rfl, t0, hn, t4, htr⟩ hR hE
    have hxl : ((l.drop i).take n).length = n := by rw [List.length_take, hdl]; omega
    rcases Nat.eq_zero_or_pos n with h0 | h0
    ·subst h0
     have hneg : decide ((0 : Int) ≤ ((0 : Nat) : Int) - 1) = false := by decide
     (repeat simp only[push_cast,go_sem_proc,↓ite_only,M_block,t0, t4, hneg])
     (with_reducible refine hE _ _ _ _ (nomatch ·) ?_)
     (repeat simp only[push_cast,go_sem_proc,↓ite_only,M_block])
     exact hR2 _ _ ⟨rfl, ‹_›, 0, by omega, ‹_›, by rw [← htr]; rfl⟩
    ·have hge0 : decide ((0 : Int) ≤ (n : Int) - 1) = true := decide_eq_true (by omega)
     have hto : ((n : Int) - 1).toNat = n - 1 := by omega
     have hg : (pre ++ (byteVals l ++ post))[pre.length + i + (n - 1)]? = some (B (nth l (i + (n - 1)))) := by
      rw [Nat.add_assoc]; exact mid_get pre post l (i + (n - 1)) (by omega)
     have hnn : nth ((l.drop i).take n) (((l.drop i).take n).length - 1) = nth l (i + (n - 1)) := by
      rw [hxl, nth_take (by omega), nth_drop]
     by_cases hb : blankB (nth l (i + (n - 1))) = true
     ·have hb2 : (nth l (i + (n - 1))).toNat = 32 ∨ (nth l (i + (n - 1))).toNat = 9 := by simpa [blankB, blankN] using hb
      have hcast : ((n - 1 : Nat) : Int) = (n : Int) - 1 := by omega
      have key : ∀ tm, tget tm 0 = .slice (some ⟨b, pre.length + i, none⟩) (l.length - i) (cp - i) → tget tm 4 = I ((n : Int) - 1 - 1) → R .normal tm [] h2 := by
       intro tm t0 t4
       refine hR _ _ (n - 1) (by omega) ⟨rfl, t0, by omega, by rw [hcast]; exact t4, ?_⟩
       rw [← htr, tr_go (x := (l.drop i).take n) (by omega) (by rw [hnn]; exact hb), hxl, List.take_take, Nat.min_eq_left (by omega)]
      rcases hb2 with h32 | h9
      ·have h32' : ((nth l (i + (n - 1))).toNat : Int) = 32 := by omega
       (repeat(first|(simp(disch:=omega)only[push_cast,go_sem_proc,↓ite_only,M_block,t0, t4, hge0, hto, hat, hg, h32'])|(with_reducible refine⟨by omega,?_⟩)))
       exact key _ ‹_› (by simp only[zT,Nat.reduceBEq])
      ·have h9' : ((nth l (i + (n - 1))).toNat : Int) = 9 := by omega
       (repeat(first|(simp(disch:=omega)only[push_cast,go_sem_proc,↓ite_only,M_block,t0, t4, hge0, hto, hat, hg, h9'])|(with_reducible refine⟨by omega,?_⟩)))
       exact key _ ‹_› (by simp only[zT,Nat.reduceBEq])
     ·have hb1 : blankB (nth l (i + (n - 1))) = false := by simpa using hb
      have h32 : decide (((nth l (i + (n - 1))).toNat : Int) = 32) = false := decide_eq_false (fun e => by apply hb; simp [blankB, blankN]; omega)
      have h9 : decide (((nth l (i + (n - 1))).toNat : Int) = 9) = false := decide_eq_false (fun e => by apply hb; simp [blankB, blankN]; omega)
      (repeat(first|(simp(disch:=omega)only[push_cast,go_sem_proc,↓ite_only,M_block,t0, t4, hge0, hto, hat, hg, h32, h9])|(with_reducible refine⟨by omega,?_⟩)))
      (with_reducible refine hE _ _ _ _ (nomatch ·) ?_)
      (repeat simp only[push_cast,go_sem_proc,↓ite_only,M_block])
      exact hR2 _ _ ⟨rfl, ‹_›, n, hn, ‹_›, by rw [← htr, tr_stop (.inr (by rw [hnn]; exact hb1))]⟩
   ·rintro tm2 h2 ⟨rfl, t0, m, hm, t4, he⟩
    have hto : ((m : Int) - 1 + 1).toNat = m := by omega
    have hc0 : (cp - i = 0) = False := eq_false (by omega)
    (repeat(first|(simp(disch:=omega)only[push_cast,go_sem_proc,↓ite_only,M_block,t0, t4, hto, hc0])|(with_reducible refine⟨by omega,?_⟩)))
    ((with_reducible refine hX _ _ _ (fun j hj => nomatch hj) ?_); simp only[push_cast,go_sem_proc,↓ite_only,M_block,Tryz.results195])
    exact ⟨m, .inr ⟨b, _, _, _, rfl, by omega, rfl⟩, by omega, he⟩
  ·have hie : i = l.length := by omega
   have hnil : trimB l = [] := by rw [hTB, List.drop_of_length_le (by omega)]; rfl
   have hz : l.length - i = 0 := by omega
   have hm1 : (l.length : Int) - (i : Int) - 1 = -1 := by omega
   have hz2 : ((0 : Nat) : Int) - 1 = -1 := by decide
   (repeat(first|(simp(disch:=omega)only[push_cast,go_sem_proc,↓ite_only,M_block,t0, t3, hz, hm1, hz2])|(with_reducible refine⟨by omega,?_⟩)))
   refine M_loop (fun tm h2 n => h2 = h1 ∧ (∃ A, tget tm 0 = .slice A 0 (cp - i)) ∧ tget tm 4 = I (-1)) 0 ⟨rfl, ⟨_, (by simp only[zT,Nat.reduceBEq];rfl)⟩, (by simp only[zT,Nat.reduceBEq])⟩ ?_
   rintro tm2 h2 n R ⟨rfl, ⟨A, t0⟩, t4⟩ hR hE
   have hneg : decide ((0 : Int) ≤ -1) = false := by decide
   (repeat simp only[push_cast,go_sem_proc,↓ite_only,M_block,t0, t4, hneg])
   (with_reducible refine hE _ _ _ _ (nomatch ·) ?_)
   (repeat(first|(simp(disch:=omega)only[push_cast,go_sem_proc,↓ite_only,M_block,t0, t4])|(with_reducible refine⟨by omega,?_⟩)))
   ((with_reducible refine hX _ _ _ (fun j hj => nomatch hj) ?_); simp only[push_cast,go_sem_proc,↓ite_only,M_block,Tryz.results195])
   exact ⟨0, .inl ⟨rfl, _, _, rfl⟩, by omega, by rw [hnil]; rfl⟩
end Go.Proofs.YtbjaapiliegegaaGreatDoor.Sy
end
