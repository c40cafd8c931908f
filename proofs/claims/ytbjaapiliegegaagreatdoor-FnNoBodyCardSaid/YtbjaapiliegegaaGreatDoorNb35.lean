/- Of the proof of FnNoBody: SfD SfE SfF SfG. -/
import Derived.Test.YtbjaapiliegegaaGreatDoorNb34
import Derived.Test.YtbjaapiliegegaaGreatDoorNb10
set_option linter.unusedVariables false
set_option linter.unusedSimpArgs false
section
namespace Go.Proofs.YtbjaapiliegegaaGreatDoor.Sy
open Go
set_option maxRecDepth 100000
variable {w0 : World} {h : Heap}
theorem libIndex_eq : ∀ (l : Str) (c : UInt8), Lib.indexByte l c = idxV l c
 | [], c => rfl
 | b :: l, c => by
  unfold Lib.indexByte
  rw [libIndex_eq l c]
  by_cases hb : b = c
  ·have : idxL (b :: l) c = 0 := by unfold idxL; rw [List.takeWhile_cons]; simp [difB, hb]
   have hV : idxV (b :: l) c = ((0 : Nat) : Int) := by rw [idxV_hit (l := b :: l) (by rw [this]; simp), this]
   rw [hV]
   simp [hb]
  ·have h1 : idxL (b :: l) c = idxL l c + 1 := by unfold idxL; rw [List.takeWhile_cons]; simp [difB, hb]
   have hbb : (b == c) = false := by simpa using hb
   rw [hbb]
   by_cases hit : idxL l c < l.length
   ·rw [idxV_hit hit, idxV_hit (l := b :: l) (by rw [h1]; simpa using hit), h1]
    have : ((idxL l c : Int) == -1) = false := by
     have : ¬ (idxL l c : Int) = -1 := by omega
     simp
    rw [this]
    simp
   ·rw [idxV_miss hit, idxV_miss (l := b :: l) (by rw [h1]; simpa using hit)]
    simp
theorem sIndexByte_ok (s : Str) (c : UInt8) : ACall Tryz.prog w0 217 [S s, B c] h (fun v h' => v = I (idxV s c) ∧ Ext h h') := by
 have h234 : ∀ {h : Heap}, ACall Tryz.prog w0 234 [S s, B c] h (fun v h' => v = I (idxV s c) ∧ Ext h h') := by
  intro h
  refine ACall.of_calls (fun w v w' => v = I (idxV s c) ∧ w' = w) (fun w hF => ?_) ?_
  ·refine Calls.mono (Go.Proofs.Tryz.stringslite_IndexByte ⟨s.toArray⟩ (c.toNat : Int) w) ?_
   rintro e w' ⟨rfl, rfl⟩
   refine ⟨_, rfl, .refl _ _, ?_, rfl⟩
   have e1 : ((c.toNat : Int)).toNat.toUInt8 = c := by simp
   show Value.int .i64 (Lib.indexByte s ((c.toNat : Int)).toNat.toUInt8) = _
   rw [e1, libIndex_eq]
  ·rintro w v w' hF hb ⟨rfl, rfl⟩
   exact ⟨rfl, seen_ext (Nat.le_of_eq hF.size.symm)⟩
 refine ACall.known fun hKn => ?_
 obtain ⟨hN, hB⟩ := hKn
 refine ACall.run noCount mixed Tryz.func217 rfl (by kernel_rfl) (Nat.le_of_ble_eq_true rfl) fun X hX => ?_
 (repeat simp only[push_cast,go_sem_proc,↓ite_only,M_block])
 refine callM_of h234 ?_
 rintro v h2 ⟨rfl, hx⟩
 (repeat simp only[push_cast,go_sem_proc,↓ite_only,M_block])
 ((with_reducible refine hX _ _ _ (fun j hj => nomatch hj) ?_); simp only[push_cast,go_sem_proc,↓ite_only,M_block,Tryz.results217])
 exact hx
def tokIn (tok s : Str) : Bool := (listL s).any fun x => foldEq x tok
theorem comma_dif : noCom = difB 44 := by
 funext c
 unfold noCom difB
 by_cases h : c = 44
 ·subst h; rfl
 ·have : ¬ c.toNat = 44 := fun e => h (UInt8.toNat_inj.1 (by simpa using e))
  simp [h, this]
theorem trimB_le2 (l : Str) : (trimB l).length ≤ l.length := trimB_len l
set_option maxHeartbeats 4000000 in
theorem tokIn_ok (s tok : Str) (hl : s.length < 1000000000) (ht : tok.all (fun c => decide (c.toNat < 128)) = true) :
  ACall Tryz.prog w0 198 [S s, S tok] h (fun v h' => v = .bool (tokIn tok s) ∧ Ext h h') := by
 refine ACall.known fun hKn => ?_
 obtain ⟨hN, hB⟩ := hKn
 refine ACall.run noCount mixed Tryz.func198 rfl (by kernel_rfl) (Nat.le_of_ble_eq_true rfl) fun X hX => ?_
 (repeat simp only[push_cast,go_sem_proc,↓ite_only,M_block])
 refine callM_of (sIndexByte_ok s 44) ?_
 rintro v h1 ⟨rfl, hx1⟩
 (repeat simp only[push_cast,go_sem_proc,↓ite_only,M_block])
 refine M_loop (fun tm h2 n => ∃ x : Str, n = x.length ∧ x.length ≤ s.length ∧ Ext h h2 ∧ tget tm 0 = S x ∧ tget tm 1 = S tok ∧ tget tm 5 = I (idxV x 44) ∧ tokIn tok s = tokIn tok x) s.length
  ⟨s, rfl, Nat.le_refl _, hx1, (by simp only[zT,Nat.reduceBEq]), (by simp only[zT,Nat.reduceBEq]), (by simp only[zT,Nat.reduceBEq]), rfl⟩ ?_
 rintro tm1 h2 n R ⟨x, rfl, hxl, hx2, t0, t1, t5, hin⟩ hR hE
 by_cases hit : idxL x 44 < x.length
 ·rw [idxV_hit hit] at t5
  have hn44 : (nth x (idxL x 44)).toNat = 44 := by rw [idx_nth hit]; rfl
  have hsp := split_at x (idxL x 44) hit (by rw [comma_dif]; exact take_dif x 44) hn44
  have hne : decide ((idxL x 44 : Int) = -1) = false := decide_eq_false (by omega)
  have hto : ((idxL x 44 : Int) + 1).toNat = idxL x 44 + 1 := by omega
  have hdx : (x.take x.length).drop (idxL x 44 + 1) = x.drop (idxL x 44 + 1) := by rw [List.take_length]
  (repeat(first|(simp only[push_cast,go_sem_proc,↓ite_only,M_block,t0, t5, hne, List.drop_zero])|(with_reducible refine⟨by omega,?_⟩)))
  refine callM_of (trimOWS_ok _ (by rw [List.length_take]; omega)) ?_
  rintro v h3 ⟨rfl, rfl⟩
  rw [trimP_blank]
  (repeat simp only[push_cast,go_sem_proc,↓ite_only,M_block,t1])
  have hlt := trimB_le2 (x.take (idxL x 44))
  rw [List.length_take] at hlt
  refine callM_of (tokenEqual_ok _ tok (by omega) ht) ?_
  rintro v h4 ⟨rfl, hx4⟩
  have hin2 : tokIn tok x = (foldEq (trimB (x.take (idxL x 44))) tok || tokIn tok (x.drop (idxL x 44 + 1))) := by
   unfold tokIn listL
   rw [hsp, List.map_cons, List.any_cons]
  cases hq : foldEq (trimB (x.take (idxL x 44))) tok with
  | true =>
   (repeat simp only[push_cast,go_sem_proc,↓ite_only,M_block])
   (with_reducible refine hE _ _ _ _ (nomatch ·) ?_)
   (repeat simp only[push_cast,go_sem_proc,↓ite_only,M_block])
   ((with_reducible refine hX _ _ _ (fun j hj => nomatch hj) ?_); simp only[push_cast,go_sem_proc,↓ite_only,M_block,Tryz.results198])
   exact ⟨by rw [hin, hin2, hq]; rfl, hx2.trans hx4⟩
  | false =>
   rw [hq, Bool.false_or] at hin2
   (repeat(first|(simp(disch:=omega)only[push_cast,go_sem_proc,↓ite_only,M_block,t0, t5, hto, hdx])|(with_reducible refine⟨by omega,?_⟩)))
   refine callM_of (sIndexByte_ok _ 44) ?_
   rintro v h5 ⟨rfl, hx5⟩
   (repeat simp only[push_cast,go_sem_proc,↓ite_only,M_block])
   exact hR _ _ (x.drop (idxL x 44 + 1)).length (by rw [List.length_drop]; omega) ⟨x.drop (idxL x 44 + 1), rfl, by rw [List.length_drop]; omega, (hx2.trans hx4).trans hx5, (by simp only[zT,Nat.reduceBEq]), ‹_›, (by simp only[zT,Nat.reduceBEq]), by rw [hin, hin2]⟩
 ·rw [idxV_miss hit] at t5
  have hsp := split_end x (by rw [comma_dif]; exact idx_all hit)
  (repeat simp only[push_cast,go_sem_proc,↓ite_only,M_block,t5])
  (with_reducible refine hE _ _ _ _ (nomatch ·) ?_)
  (repeat simp only[push_cast,go_sem_proc,↓ite_only,M_block,t0])
  refine callM_of (trimOWS_ok _ (by omega)) ?_
  rintro v h3 ⟨rfl, rfl⟩
  rw [trimP_blank]
  (repeat simp only[push_cast,go_sem_proc,↓ite_only,M_block,t1])
  have hlt := trimB_le2 x
  refine callM_of (tokenEqual_ok _ tok (by omega) ht) ?_
  rintro v h4 ⟨rfl, hx4⟩
  (repeat simp only[push_cast,go_sem_proc,↓ite_only,M_block])
  ((with_reducible refine hX _ _ _ (fun j hj => nomatch hj) ?_); simp only[push_cast,go_sem_proc,↓ite_only,M_block,Tryz.results198])
  refine ⟨?_, hx2.trans hx4⟩
  rw [hin]
  unfold tokIn listL
  rw [hsp]
  simp
end Go.Proofs.YtbjaapiliegegaaGreatDoor.Sy
end
section
namespace Go.Proofs.YtbjaapiliegegaaGreatDoor.Sy
open Go
set_option maxRecDepth 100000
variable {w0 : World} {h : Heap}
def SVal (h : Heap) (v : Value) (ss : List Str) : Prop := (v = .slice none 0 0 ∧ ss = []) ∨ ∃ s, SVat h s v ss ∧ s.b < h.n
theorem SVal.len {v : Value} {ss : List Str} (d : SVal h v ss) : ∃ a cp, v = .slice a ss.length cp := by
 rcases d with ⟨rfl, rfl⟩ | ⟨s, ⟨rfl, _⟩, _⟩ <;> exact ⟨_, _, rfl⟩
theorem SVal.keep {h h' : Heap} {v : Value} {ss : List Str} {X : List Nat} (d : SVal h v ss) (k : Keep X h h') (hX : ∀ b, InB b v → b ∉ X) : SVal h' v ss := by
 rcases d with d | ⟨s, d, hl⟩
 ·exact .inl d
 ·refine .inr ⟨s, d.keep (k.2 _ hl (hX _ ?_)), Nat.lt_of_lt_of_le hl k.1⟩
  obtain ⟨rfl, _⟩ := d
  rfl
theorem SVal.ext {h h' : Heap} {v : Value} {ss : List Str} (d : SVal h v ss) (k : Ext h h') : SVal h' v ss := d.keep (k.keep []) (fun _ _ => by simp)
theorem SVal.at {v : Value} {ss : List Str} (d : SVal h v ss) (h0 : 0 < ss.length) : ∃ b o cp cs, v = .slice (some ⟨b, o, none⟩) ss.length cp ∧ ss.length ≤ cp ∧ h.at b = some (.cells cs 9 0 0) ∧ o + cp ≤ cs.length ∧ ∀ k, k < ss.length → cs[o + k]? = some (S (snth ss k)) := by
 rcases d with ⟨_, rfl⟩ | ⟨s, ⟨rfl, h1, h2, cs, h3, h4, h5⟩, _⟩
 ·simp at h0
 ·refine ⟨s.b, s.o, s.cp, cs, rfl, h1, h3, h4, fun k hk => ?_⟩
  have := congrArg (fun l => l[k]?) h5
  simp only [List.getElem?_take, List.getElem?_drop, List.getElem?_map, if_pos hk, snth_get hk] at this
  exact this
theorem HMap.val {own : Nat → Prop} {mb : Nat} {hs : Hdr} {xs : List Slot} {t : TypeId} (ht : strMap Tryz.prog t = some 88) (m : HMap own h mb hs xs) (k : Str) (ok : Bool) :
  ∃ v, alookup Tryz.prog h t (.map (some mb)) (S k) ok = some (if ok then .tuple #[v, .bool (getH hs k).isSome] else v) ∧ SVal h v (valsH hs k) ∧ (∀ b, InB b v → own b) ∧ (getH hs k = none → v = .slice none 0 0) := by
 rcases m.lookup ht k ok with ⟨h1, h2⟩ | ⟨ss, s, v, h1, h2, h3, h4, h5⟩
 ·refine ⟨.slice none 0 0, ?_, .inl ⟨rfl, by unfold valsH; rw [h1]; rfl⟩, fun b hb => hb.elim, fun _ => rfl⟩
  rw [h2, h1]; rfl
 ·refine ⟨v, ?_, .inr ⟨s, by unfold valsH; rw [h1]; exact h3, h5⟩, ?_, fun e => by rw [h1] at e; cases e⟩
  ·rw [h2, h1]; rfl
  ·obtain ⟨rfl, _⟩ := h3
   intro b hb
   have : s.b = b := hb
   rw [← this]; exact h4
set_option maxHeartbeats 4000000 in
theorem tokVals_ok (v : Value) (ss : List Str) (tok : Str) (hv : SVal h v ss) (hl : ∀ x ∈ ss, x.length < 1000000000) (hc : ss.length < 1000000000) (ht : tok.all (fun c => decide (c.toNat < 128)) = true) :
  ACall Tryz.prog w0 148 [v, S tok] h (fun u h' => u = .bool (ss.any (tokIn tok)) ∧ Ext h h') := by
 refine ACall.known fun hKn => ?_
 obtain ⟨hN, hB⟩ := hKn
 refine ACall.run noCount mixed Tryz.func148 rfl (by kernel_rfl) (Nat.le_of_ble_eq_true rfl) fun X hX => ?_
 obtain ⟨a, cp, rfl⟩ := hv.len
 (repeat simp only[push_cast,go_sem_proc,↓ite_only,M_block])
 refine M_loop (fun tm h1 n => ∃ k : Nat, k ≤ ss.length ∧ n = ss.length - k ∧ Ext h h1 ∧ tget tm 1 = S tok ∧ tget tm 7 = .slice a ss.length cp ∧ tget tm 8 = I ss.length ∧ tget tm 9 = I k ∧ (ss.take k).any (tokIn tok) = false) ss.length
  ⟨0, by omega, by omega, .refl _, (by simp only[zT,Nat.reduceBEq]), (by simp only[zT,Nat.reduceBEq]), (by simp only[zT,Nat.reduceBEq]), (by simp only[zT,Nat.reduceBEq];rfl), rfl⟩ ?_
 rintro tm1 h1 n R ⟨k, hk, rfl, hx, t1, t7, t8, t9, hno⟩ hR hE
 rcases Nat.lt_or_ge k ss.length with hlt | hge
 ·have hp : decide ((k : Int) < (ss.length : Int)) = true := decide_eq_true (by omega)
  obtain ⟨b, o, cp', cs, hv', hcp, hat, hcl, hget⟩ := (hv.ext hx).at (by omega)
  cases hv'
  have hg := hget k hlt
  have hmem : snth ss k ∈ ss := List.mem_of_getElem? (snth_get hlt)
  (repeat(first|(simp only[push_cast,go_sem_proc,↓ite_only,M_block,t1, t7, t8, t9, hp, hat, hg])|(with_reducible refine⟨by omega,?_⟩)))
  refine callM_of (tokIn_ok _ tok (hl _ hmem) ht) ?_
  rintro u h2 ⟨rfl, hx2⟩
  have htk : ss.take (k + 1) = ss.take k ++ [snth ss k] := by
   rw [List.take_add_one, snth_get hlt]; rfl
  cases hq : tokIn tok (snth ss k) with
  | true =>
   (repeat simp only[push_cast,go_sem_proc,↓ite_only,M_block])
   (with_reducible refine hE _ _ _ _ (nomatch ·) ?_)
   (repeat simp only[push_cast,go_sem_proc,↓ite_only,M_block])
   ((with_reducible refine hX _ _ _ (fun j hj => nomatch hj) ?_); simp only[push_cast,go_sem_proc,↓ite_only,M_block,Tryz.results148])
   refine ⟨?_, hx.trans hx2⟩
   have : ss.any (tokIn tok) = true := List.any_eq_true.2 ⟨_, hmem, hq⟩
   rw [this]
  | false =>
   (repeat simp(disch:=omega)only[push_cast,go_sem_proc,↓ite_only,M_block,t9])
   exact hR _ _ (ss.length - (k + 1)) (by omega) ⟨k + 1, by omega, rfl, hx.trans hx2, ‹_›, ‹_›, ‹_›, (by simp only[zT,Nat.reduceBEq];rfl), by rw [htk, List.any_append, hno]; simp [hq]⟩
 ·have hp : decide ((k : Int) < (ss.length : Int)) = false := decide_eq_false (by omega)
  (repeat simp only[push_cast,go_sem_proc,↓ite_only,M_block,t8, t9, hp])
  (with_reducible refine hE _ _ _ _ (nomatch ·) ?_)
  (repeat simp only[push_cast,go_sem_proc,↓ite_only,M_block])
  ((with_reducible refine hX _ _ _ (fun j hj => nomatch hj) ?_); simp only[push_cast,go_sem_proc,↓ite_only,M_block,Tryz.results148])
  rw [List.take_of_length_le hge] at hno
  exact ⟨by rw [hno], hx⟩
theorem hdel_ok {own : Nat → Prop} {mb : Nat} {hs : Hdr} (m : HMap own h mb hs []) (hNm : w0.heap.size ≤ mb) (k : Str) (hk : canonKey k = k) (hl : k.length < 1000000) :
  ACall Tryz.prog w0 149 [.map (some mb), S k] h (fun _ h' => Keep [mb] h h' ∧ HMap own h' mb (delH hs k) []) := by
 have h199 : ∀ {h : Heap}, HMap own h mb hs [] → ACall Tryz.prog w0 199 [.map (some mb), S k] h (fun _ h' => Keep [mb] h h' ∧ HMap own h' mb (delH hs k) []) := by
  intro h m
  refine ACall.known fun hKn => ?_
  obtain ⟨hN, hB⟩ := hKn
  refine ACall.run noCount mixed Tryz.func199 rfl (by kernel_rfl) (Nat.le_of_ble_eq_true rfl) fun X hX => ?_
  (repeat simp only[push_cast,go_sem_proc,↓ite_only,M_block])
  refine callM_of (CMHK_ok k (by omega)) ?_
  rintro v h1 ⟨rfl, hx⟩
  rw [hk]
  obtain ⟨ob, h2, h3⟩ := HMap.del (N := w0.heap.size) k_138 (m.keep (hx.keep []) (by simp)) hNm k
  (repeat simp only[push_cast,go_sem_proc,↓ite_only,M_block,h2])
  ((with_reducible refine hX _ _ _ (fun j hj => nomatch hj) ?_); simp only[push_cast,go_sem_proc,↓ite_only,M_block,Tryz.results199])
  exact ⟨(hx.keep _).put (.inl (by simp)) _, h3⟩
 refine ACall.known fun hKn => ?_
 obtain ⟨hN, hB⟩ := hKn
 refine ACall.run noCount mixed Tryz.func149 rfl (by kernel_rfl) (Nat.le_of_ble_eq_true rfl) fun X hX => ?_
 (repeat simp only[push_cast,go_sem_proc,↓ite_only,M_block])
 refine callM_of (h199 m) ?_
 rintro v h1 ⟨k1, m1⟩
 (repeat simp only[push_cast,go_sem_proc,↓ite_only,M_block])
 ((with_reducible refine hX _ _ _ (fun j hj => nomatch hj) ?_); simp only[push_cast,go_sem_proc,↓ite_only,M_block,Tryz.results149])
 exact ⟨k1, m1⟩
def closeL (maj min : Nat) (conv : List Str) : Bool :=
 match decide (maj < 1), decide (maj = 1 ∧ min = 0) with
 | true, _ => true
 | false, true => conv.any (tokIn sClose) || !conv.any (tokIn sKeep)
 | false, false => conv.any (tokIn sClose)
def closeH (maj min : Nat) (rm : Bool) (hs : Hdr) : Hdr :=
 match decide (maj < 1), decide (maj = 1 ∧ min = 0), (valsH hs sCo).any (tokIn sClose) && rm with
 | false, false, true => delH hs sCo
 | _, _, _ => hs
def ShortH (hs : Hdr) : Prop := ∀ k, (valsH hs k).length < 1000000000 ∧ ∀ x ∈ valsH hs k, x.length < 1000000000
set_option maxHeartbeats 4000000 in
theorem shouldClose_ok {own : Nat → Prop} {mb : Nat} {hs : Hdr} (m : HMap own h mb hs []) (hNm : w0.heap.size ≤ mb) (hsh : ShortH hs) (maj min : Nat) (rm : Bool) (h1 : maj < 1000) (h2 : min < 1000) :
  ACall Tryz.prog w0 108 [I maj, I min, .map (some mb), .bool rm] h (fun v h' => v = .bool (closeL maj min (valsH hs sCo)) ∧ Keep [mb] h h' ∧ HMap own h' mb (closeH maj min rm hs) []) := by
 refine ACall.known fun hKn => ?_
 obtain ⟨hN, hB⟩ := hKn
 refine ACall.run noCount mixed Tryz.func108 rfl (by kernel_rfl) (Nat.le_of_ble_eq_true rfl) fun X hX => ?_
 by_cases q1 : maj < 1
 ·have d1 : decide ((maj : Int) < 1) = true := decide_eq_true (by omega)
  (repeat simp only[push_cast,go_sem_proc,↓ite_only,M_block,d1])
  ((with_reducible refine hX _ _ _ (fun j hj => nomatch hj) ?_); simp only[push_cast,go_sem_proc,↓ite_only,M_block,Tryz.results108])
  refine ⟨?_, .refl _ _, ?_⟩
  ·unfold closeL; rw [decide_eq_true q1]
  ·unfold closeH; rw [decide_eq_true q1]; exact m
 ·have d1 : decide ((maj : Int) < 1) = false := decide_eq_false (by omega)
  obtain ⟨v, hlk, hv, hvo, _⟩ := m.val k_85 sCo false
  have hlk' : alookup Tryz.prog h 85 (.map (some mb)) (S sCo) false = some v := by simpa using hlk
  have hlk2 : alookup Tryz.prog h 85 (.map (some mb)) (.string ⟨#[67, 111, 110, 110, 101, 99, 116, 105, 111, 110]⟩) false = some v := hlk'
  obtain ⟨hc, hx⟩ := hsh sCo
  (repeat simp only[push_cast,go_sem_proc,↓ite_only,M_block,d1, hlk2])
  refine callM_of (tokVals_ok v _ sClose hv hx hc (by decide)) ?_
  rintro u h3 ⟨rfl, hx3⟩
  have m3 := m.keep (hx3.keep []) (by simp)
  have hv3 := hv.ext hx3
  by_cases q2 : maj = 1 ∧ min = 0
  ·have d2 : decide ((maj : Int) = 1) = true := decide_eq_true (by omega)
   have d3 : decide ((min : Int) = 0) = true := decide_eq_true (by omega)
   have hcl : closeL maj min (valsH hs sCo) = ((valsH hs sCo).any (tokIn sClose) || !(valsH hs sCo).any (tokIn sKeep)) := by unfold closeL; rw [decide_eq_false q1, decide_eq_true q2]
   have hch : closeH maj min rm hs = hs := by
    unfold closeH; rw [decide_eq_false q1, decide_eq_true q2]
   rw [hcl, hch] at hX
   cases hq : (valsH hs sCo).any (tokIn sClose) with
   | true =>
    (repeat simp only[push_cast,go_sem_proc,↓ite_only,M_block,d2, d3])
    rw [hq] at hX
    ((with_reducible refine hX _ _ _ (fun j hj => nomatch hj) ?_); simp only[push_cast,go_sem_proc,↓ite_only,M_block,Tryz.results108])
    exact ⟨hx3.keep _, m3⟩
   | false =>
    (repeat simp only[push_cast,go_sem_proc,↓ite_only,M_block,d2, d3])
    refine callM_of (tokVals_ok v _ sKeep hv3 hx hc (by decide)) ?_
    rintro u h4 ⟨rfl, hx4⟩
    (repeat simp only[push_cast,go_sem_proc,↓ite_only,M_block])
    rw [hq] at hX
    ((with_reducible refine hX _ _ _ (fun j hj => nomatch hj) ?_); simp only[push_cast,go_sem_proc,↓ite_only,M_block,Tryz.results108])
    exact ⟨(hx3.trans hx4).keep _, m3.keep (hx4.keep []) (by simp)⟩
  ·have hcl : closeL maj min (valsH hs sCo) = (valsH hs sCo).any (tokIn sClose) := by unfold closeL; rw [decide_eq_false q1, decide_eq_false q2]
   have hch : closeH maj min rm hs = (match (valsH hs sCo).any (tokIn sClose) && rm with | true => delH hs sCo | false => hs) := by
    unfold closeH; rw [decide_eq_false q1, decide_eq_false q2]; cases (valsH hs sCo).any (tokIn sClose) && rm <;> rfl
   rw [hcl, hch] at hX
   by_cases q3 : maj = 1
   ·have d2 : decide ((maj : Int) = 1) = true := decide_eq_true (by omega)
    have d3 : decide ((min : Int) = 0) = false := decide_eq_false (by omega)
    cases hq : (valsH hs sCo).any (tokIn sClose) with
    | true =>
     rw [hq] at hX
     cases rm with
     | true =>
      (repeat simp only[push_cast,go_sem_proc,↓ite_only,M_block,d2, d3])
      refine callM_of (hdel_ok m3 hNm sCo (by decide) (by decide)) ?_
      rintro u h4 ⟨k4, m4⟩
      (repeat simp only[push_cast,go_sem_proc,↓ite_only,M_block])
      ((with_reducible refine hX _ _ _ (fun j hj => nomatch hj) ?_); simp only[push_cast,go_sem_proc,↓ite_only,M_block,Tryz.results108])
      exact ⟨(hx3.keep _).trans k4, m4⟩
     | false =>
      (repeat simp only[push_cast,go_sem_proc,↓ite_only,M_block,d2, d3])
      ((with_reducible refine hX _ _ _ (fun j hj => nomatch hj) ?_); simp only[push_cast,go_sem_proc,↓ite_only,M_block,Tryz.results108])
      exact ⟨hx3.keep _, m3⟩
    | false =>
     rw [hq] at hX
     (repeat simp only[push_cast,go_sem_proc,↓ite_only,M_block,d2, d3])
     ((with_reducible refine hX _ _ _ (fun j hj => nomatch hj) ?_); simp only[push_cast,go_sem_proc,↓ite_only,M_block,Tryz.results108])
     exact ⟨hx3.keep _, m3⟩
   ·have d2 : decide ((maj : Int) = 1) = false := decide_eq_false (by omega)
    cases hq : (valsH hs sCo).any (tokIn sClose) with
    | true =>
     rw [hq] at hX
     cases rm with
     | true =>
      (repeat simp only[push_cast,go_sem_proc,↓ite_only,M_block,d2])
      refine callM_of (hdel_ok m3 hNm sCo (by decide) (by decide)) ?_
      rintro u h4 ⟨k4, m4⟩
      (repeat simp only[push_cast,go_sem_proc,↓ite_only,M_block])
      ((with_reducible refine hX _ _ _ (fun j hj => nomatch hj) ?_); simp only[push_cast,go_sem_proc,↓ite_only,M_block,Tryz.results108])
      exact ⟨(hx3.keep _).trans k4, m4⟩
     | false =>
      (repeat simp only[push_cast,go_sem_proc,↓ite_only,M_block,d2])
      ((with_reducible refine hX _ _ _ (fun j hj => nomatch hj) ?_); simp only[push_cast,go_sem_proc,↓ite_only,M_block,Tryz.results108])
      exact ⟨hx3.keep _, m3⟩
    | false =>
     rw [hq] at hX
     (repeat simp only[push_cast,go_sem_proc,↓ite_only,M_block,d2])
     ((with_reducible refine hX _ _ _ (fun j hj => nomatch hj) ?_); simp only[push_cast,go_sem_proc,↓ite_only,M_block,Tryz.results108])
     exact ⟨hx3.keep _, m3⟩
end Go.Proofs.YtbjaapiliegegaaGreatDoor.Sy
end
section
namespace Go.Proofs.YtbjaapiliegegaaGreatDoor.Sy
open Go
set_option maxRecDepth 100000
variable {w0 : World} {h : Heap}
theorem HMap.one {own : Nat → Prop} {mb N : Nat} {hs : Hdr} {t : TypeId} {k x : Str} (ht : strMap Tryz.prog t = some 88) (m : HMap own h mb hs []) (hN : N ≤ mb) (hown : ∀ i, h.n ≤ i → own i) :
  ∃ ob, aupdate N Tryz.prog (h.new (.cells [S x] 9 0 0)) t (.map (some mb)) (S k) (.slice (some ⟨h.n, 0, none⟩) 1 1) = some ((h.new (.cells [S x] 9 0 0)).put mb ob) ∧ HMap own ((h.new (.cells [S x] 9 0 0)).put mb ob) mb (setH hs k [x]) [] := by
 obtain ⟨es, ms, clock, m⟩ := m
 have hml := m.lmb
 exact HM.set (N := N) (h1 := h.new (.cells [S x] 9 0 0)) (xs' := []) (v' := .slice (some ⟨h.n, 0, none⟩) 1 1) ht m k ⟨k, [x], ⟨h.n, 0, 1⟩⟩ rfl hN (at_new_ne _ _ (by omega)) (Nat.le_succ _) ⟨rfl, Nat.le_refl _, by simp, [S x], at_new_eq _ _, by simp, rfl⟩
  (fun e he _ v hv => hv.keep (at_new_ne _ _ (by have := (m.oes e he).2; omega))) m.dis (fun e he _ => .inl (by have := (m.oes e he).2; show h.n ≠ e.slot.b; omega)) (by simp) ⟨hown _ (Nat.le_refl _), Nat.lt_succ_self _⟩ (by simp) (by show h.n ≠ mb; omega) (slots_ne m)
def sCC : Str := [67, 97, 99, 104, 101, 45, 67, 111, 110, 116, 114, 111, 108]
def sNC : Str := [110, 111, 45, 99, 97, 99, 104, 101]
theorem short_set {hs : Hdr} {k : Str} {x : Str} (h : ShortH hs) (hx : x.length < 1000000000) : ShortH (setH hs k [x]) := by
 intro k'
 have e := get_setH hs k [x] k'
 by_cases hk : k = k'
 ·rw [if_pos hk] at e
  have : valsH (setH hs k [x]) k' = [x] := by show (getH _ _).getD [] = _; rw [e]; rfl
  rw [this]
  exact ⟨by simp, fun y hy => by simp at hy; rw [hy]; exact hx⟩
 ·rw [if_neg hk] at e
  have : valsH (setH hs k [x]) k' = valsH hs k' := by show (getH _ _).getD [] = (getH _ _).getD []; rw [e]
  rw [this]
  exact h k'
set_option maxHeartbeats 4000000 in
theorem pragma_ok {own : Nat → Prop} {mb : Nat} {hs : Hdr} (m : HMap own h mb hs []) (hNm : w0.heap.size ≤ mb) (hown : ∀ i, h.n ≤ i → own i) (hsh : ShortH hs) :
  ACall Tryz.prog w0 85 [.map (some mb)] h (fun _ h' => Keep [mb] h h' ∧ ∃ hs', HMap own h' mb hs' [] ∧ (valsH hs sPr = [] → hs' = hs) ∧ ShortH hs') := by
 refine ACall.known fun hKn => ?_
 obtain ⟨hN, hB⟩ := hKn
 refine ACall.run noCount mixed Tryz.func85 rfl (by kernel_rfl) (Nat.le_of_ble_eq_true rfl) fun X hX => ?_
 obtain ⟨v, hlk, hv, hvo, hvn⟩ := m.val k_85 sPr true
 have hlk2 : alookup Tryz.prog h 85 (.map (some mb)) (.string ⟨#[80, 114, 97, 103, 109, 97]⟩) true = some (.tuple #[v, .bool (getH hs sPr).isSome]) := hlk
 obtain ⟨a, cp, rfl⟩ := hv.len
 have same : ∀ tm, X .ret tm [] h → True := fun _ _ => trivial
 cases hg : (getH hs sPr).isSome with
 | false =>
  rw [hg] at hlk2
  (repeat simp only[push_cast,go_sem_proc,↓ite_only,M_block,hlk2])
  ((with_reducible refine hX _ _ _ (fun j hj => nomatch hj) ?_); simp only[push_cast,go_sem_proc,↓ite_only,M_block,Tryz.results85])
  exact ⟨.refl _ _, hs, m, fun _ => rfl, hsh⟩
 | true =>
  rw [hg] at hlk2
  by_cases h0 : 0 < (valsH hs sPr).length
  ·have d1 : decide ((0 : Int) < ((valsH hs sPr).length : Int)) = true := decide_eq_true (by omega)
   obtain ⟨b, o, cp', cs, hv', hcp, hat, hcl, hget⟩ := hv.at h0
   cases hv'
   have hgt := hget 0 h0
   rw [Nat.add_zero] at hgt
   have hne0 : valsH hs sPr ≠ [] := List.length_pos_iff.1 h0
   by_cases hnc : snth (valsH hs sPr) 0 = sNC
   ·have d2 : sameL (snth (valsH hs sPr) 0) [110, 111, 45, 99, 97, 99, 104, 101] = true := sameL_true hnc
    obtain ⟨v2, hlk3, _⟩ := m.val k_85 sCC true
    have hlk4 : alookup Tryz.prog h 85 (.map (some mb)) (.string ⟨#[67, 97, 99, 104, 101, 45, 67, 111, 110, 116, 114, 111, 108]⟩) true = some (.tuple #[v2, .bool (getH hs sCC).isSome]) := hlk3
    cases hg2 : (getH hs sCC).isSome with
    | true =>
     rw [hg2] at hlk4
     (repeat(first|(simp only[push_cast,go_sem_proc,↓ite_only,M_block,hlk2, d1, hat, hgt, d2, hlk4])|(with_reducible refine⟨by omega,?_⟩)))
     ((with_reducible refine hX _ _ _ (fun j hj => nomatch hj) ?_); simp only[push_cast,go_sem_proc,↓ite_only,M_block,Tryz.results85])
     exact ⟨.refl _ _, hs, m, fun _ => rfl, hsh⟩
    | false =>
     rw [hg2] at hlk4
     obtain ⟨ob, q1, q2⟩ := HMap.one (N := w0.heap.size) (k := sCC) (x := sNC) k_85 m hNm hown
     have q1' : aupdate w0.heap.size Tryz.prog (h.new (.cells [.string ⟨#[110, 111, 45, 99, 97, 99, 104, 101]⟩] 9 0 0)) 85 (.map (some mb)) (.string ⟨#[67, 97, 99, 104, 101, 45, 67, 111, 110, 116, 114, 111, 108]⟩) (.slice (some ⟨h.n, 0, none⟩) 1 1) = some ((h.new (.cells [S sNC] 9 0 0)).put mb ob) := q1
     (repeat(first|(simp only[push_cast,go_sem_proc,↓ite_only,M_block,hlk2, d1, hat, hgt, d2, hlk4, q1'])|(with_reducible refine⟨by omega,?_⟩)))
     ((with_reducible refine hX _ _ _ (fun j hj => nomatch hj) ?_); simp only[push_cast,go_sem_proc,↓ite_only,M_block,Tryz.results85])
     exact ⟨((Keep.refl _ _).new _).put (.inl (by simp)) _, _, q2, fun e => absurd e hne0, short_set hsh (by decide)⟩
   ·have d2 : sameL (snth (valsH hs sPr) 0) [110, 111, 45, 99, 97, 99, 104, 101] = false := sameL_false hnc
    (repeat(first|(simp only[push_cast,go_sem_proc,↓ite_only,M_block,hlk2, d1, hat, hgt, d2])|(with_reducible refine⟨by omega,?_⟩)))
    ((with_reducible refine hX _ _ _ (fun j hj => nomatch hj) ?_); simp only[push_cast,go_sem_proc,↓ite_only,M_block,Tryz.results85])
    exact ⟨.refl _ _, hs, m, fun _ => rfl, hsh⟩
  ·have d1 : decide ((0 : Int) < ((valsH hs sPr).length : Int)) = false := decide_eq_false (by omega)
   (repeat simp only[push_cast,go_sem_proc,↓ite_only,M_block,hlk2, d1])
   ((with_reducible refine hX _ _ _ (fun j hj => nomatch hj) ?_); simp only[push_cast,go_sem_proc,↓ite_only,M_block,Tryz.results85])
   exact ⟨.refl _ _, hs, m, fun _ => rfl, hsh⟩
end Go.Proofs.YtbjaapiliegegaaGreatDoor.Sy
end
section
namespace Go.Proofs.YtbjaapiliegegaaGreatDoor.Sy
open Go
set_option maxRecDepth 100000
variable {w0 : World} {h : Heap}
@[push_cast] def p151_6 : Plan := [(0, []), (1, []), (2, []), (4, []), (5, []), (6, []), (3, []), (7, []), (8, [])]
theorem SVal.ne {own : Nat → Prop} {mb : Nat} {hs : Hdr} {xs : List Slot} {v : Value} {ss : List Str} (d : SVal h v ss) (m : HMap own h mb hs xs) : ∀ b, InB b v → b ∉ [mb] := by
 obtain ⟨es, ms, clock, m⟩ := m
 intro b hb hm
 have hbm : b = mb := by simpa using hm
 rcases d with ⟨rfl, _⟩ | ⟨s, ⟨rfl, _, _, cs, h3, _⟩, _⟩
 ·exact hb
 ·have : s.b = b := hb
  rw [this, hbm, m.at'] at h3
  cases h3
theorem noResp_ok (a : Str) : ACall Tryz.prog w0 114 [S a] h (fun v h' => v = .bool (sameL a [72, 69, 65, 68]) ∧ h' = h) := by
 refine ACall.known fun hKn => ?_
 obtain ⟨hN, hB⟩ := hKn
 refine ACall.run noCount mixed Tryz.func114 rfl (by kernel_rfl) (Nat.le_of_ble_eq_true rfl) fun X hX => ?_
 (repeat simp only[push_cast,go_sem_proc,↓ite_only,M_block])
 ((with_reducible refine hX _ _ _ (fun j hj => nomatch hj) ?_); simp only[push_cast,go_sem_proc,↓ite_only,M_block,Tryz.results114])
set_option maxHeartbeats 4000000 in
theorem equalFold_ok (s t : Str) (hl : s.length < 1000000000) : ACall Tryz.prog w0 151 [S s, S t] h (fun v h' => v = .bool (foldEq s t) ∧ h' = h) := by
 refine ACall.known fun hKn => ?_
 obtain ⟨hN, hB⟩ := hKn
 refine ACall.run noCount mixed Tryz.func151 rfl (by kernel_rfl) (Nat.le_of_ble_eq_true rfl) fun X hX => ?_
 by_cases hlen : s.length = t.length
 rotate_left
 ·have q : decide ((s.length : Int) = (t.length : Int)) = false := decide_eq_false (by omega)
  (repeat simp only[push_cast,go_sem_proc,↓ite_only,M_block,q])
  ((with_reducible refine hX _ _ _ (fun j hj => nomatch hj) ?_); simp only[push_cast,go_sem_proc,↓ite_only,M_block,Tryz.results151])
  rw [fold_len hlen]
 ·have q : decide ((s.length : Int) = (t.length : Int)) = true := decide_eq_true (by omega)
  (repeat simp only[push_cast,go_sem_proc,↓ite_only,M_block,q])
  refine M_loop (fun tm h1 n => ∃ k : Nat, k ≤ s.length ∧ n = s.length - k ∧ tget tm 0 = S s ∧ tget tm 1 = S t ∧ tget tm 5 = I k ∧ h1 = h ∧ (∀ j, j < k → lowB' (nth s j) = lowB' (nth t j))) s.length
   ⟨0, by omega, by omega, (by simp only[zT,Nat.reduceBEq]), (by simp only[zT,Nat.reduceBEq]), (by simp only[zT,Nat.reduceBEq];rfl), rfl, fun j hj => by omega⟩ ?_
  rintro tm1 h1 n R ⟨k, hk, rfl, t0, t1, t5, rfl, hall⟩ hR hE
  rcases Nat.lt_or_ge k s.length with hlt | hge
  ·have hp : decide ((k : Int) < (s.length : Int)) = true := decide_eq_true (by omega)
   have hkt : k < t.length := by omega
   (repeat(first|(simp only[push_cast,go_sem_proc,↓ite_only,M_block,t0, t1, t5, hp])|(with_reducible refine⟨by omega,?_⟩)|(with_reducible refine M_draw (id:=6) p151_6 ?_ ?_;focus kernel_rfl)))
   refine callP_of (lowASCII_ok200 _) ?_
   rintro v h2 ⟨rfl, rfl⟩
   (repeat simp only[push_cast,go_sem_proc,↓ite_only,M_block,t1, t5])
   refine callP_of (lowASCII_ok200 _) ?_
   rintro v h3 ⟨rfl, rfl⟩
   by_cases he : lowB' (nth s k) = lowB' (nth t k)
   ·have heq : decide (((lowB' (nth s k)).toNat : Int) = ((lowB' (nth t k)).toNat : Int)) = true := decide_eq_true (by rw [he])
    (repeat simp(disch:=omega)only[push_cast,go_sem_proc,↓ite_only,M_block,heq, t5])
    exact hR _ _ (s.length - (k + 1)) (by omega) ⟨k + 1, by omega, rfl, ‹_›, ‹_›, (by simp only[zT,Nat.reduceBEq];rfl), rfl, fun j hj => by
     rcases Nat.lt_or_ge j k with h | h
     ·exact hall j h
     ·rw [show j = k by omega]; exact he⟩
   ·have heq : decide (((lowB' (nth s k)).toNat : Int) = ((lowB' (nth t k)).toNat : Int)) = false := decide_eq_false (fun e => he (UInt8.toNat_inj.1 (by omega)))
    (repeat simp only[push_cast,go_sem_proc,↓ite_only,M_block,heq])
    (with_reducible refine hE _ _ _ _ (nomatch ·) ?_)
    (repeat simp only[push_cast,go_sem_proc,↓ite_only,M_block])
    ((with_reducible refine hX _ _ _ (fun j hj => nomatch hj) ?_); simp only[push_cast,go_sem_proc,↓ite_only,M_block,Tryz.results151])
    rw [fold_at hlt hlen he]
  ·have hp : decide ((k : Int) < (s.length : Int)) = false := decide_eq_false (by omega)
   (repeat simp only[push_cast,go_sem_proc,↓ite_only,M_block,t0, t5, hp])
   (with_reducible refine hE _ _ _ _ (nomatch ·) ?_)
   (repeat simp only[push_cast,go_sem_proc,↓ite_only,M_block])
   ((with_reducible refine hX _ _ _ (fun j hj => nomatch hj) ?_); simp only[push_cast,go_sem_proc,↓ite_only,M_block,Tryz.results151])
   rw [fold_all hlen (fun j hj => hall j (by omega))]
end Go.Proofs.YtbjaapiliegegaaGreatDoor.Sy
end
