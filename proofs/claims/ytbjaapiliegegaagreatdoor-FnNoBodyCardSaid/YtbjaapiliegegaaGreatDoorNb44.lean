/- Of the proof of FnNoBody: SgJ SgK SgL. -/
import Derived.Test.YtbjaapiliegegaaGreatDoorNb43
set_option linter.unusedVariables false
set_option linter.unusedSimpArgs false
section
namespace Go.Proofs.YtbjaapiliegegaaGreatDoor.Sy
open Go
set_option maxRecDepth 100000
variable {w0 : World} {h : Heap} {N : Nat}
theorem aappend_row2 {P : Program} {lo e t t2 : TypeId} {xd : TypeDesc} {z y n m c : Nat} {zv v x : Value} {cs new : List Value} (ht : P.underlying t = some (.slice e)) (ht2 : P.underlying t2 = some xd) (hz : sizeT P e = some z) (hy : bytesT P e = some y) (hzv : zeroT P e = some zv)
  (hzz : z = zv.cells.size) (hy64 : y ≤ 64) (hz0 : 0 < z) (hN : N ≤ lo) (hlo : lo ≤ h.n) (r : Row lo h e z v n cs) (hx : tailOf h xd z zv x = some (m, new)) (hnew : new.length = m * z) (hs : ∀ v ∈ new, single v = true) (hbig : n + m ≤ 2 ^ 32) :
  ∃ v' h', aappend N P h #[t, t2] v x c = some (v', h') ∧ Row lo h' e z v' (n + m) (cs ++ new) ∧ h.n ≤ h'.n ∧ (∀ b, b < h.n → Off b v → h'.at b = h.at b) ∧ (∀ b, ¬Off b v' → ¬Off b v ∨ h.n ≤ b) := by
 have hzl : zv.cells.toList.length = z := by rw [Array.length_toList, hzz]
 obtain ⟨a, cp, rfl⟩ := r.len
 have e0 : aappend N P h #[t, t2] (.slice a n cp) x c =
   if n + m ≤ cp then
    match putAt N h a (n * z) new with
    | some h' => some (.slice a (n + m) cp, h')
    | none => none
   else if n + m ≤ 2 ^ 32 then
    match firstN h z n (.slice a n cp) with
    | some old => if old.length = n * z then some (.slice (some ⟨h.n, 0, none⟩) (n + m) (room (n + m) c), h.new (.cells (old ++ new ++ zeros zv.cells.toList (room (n + m) c - (n + m))) e 0 0)) else none
    | none => none
   else none := by
  unfold aappend
  simp only [List.getElem?_toArray, List.getElem?_cons_zero, List.getElem?_cons_succ, ht, ht2, hz, hy, hzv, hx]
  rw [if_pos ⟨hzz, hnew, hy64⟩]
  rfl
 rw [e0]
 rcases r with ⟨hv, rfl, rfl⟩ | ⟨b, cp', rest, hv, h1, h2, h3, h4, h5⟩
 ·cases hv
  by_cases hm : 0 + m ≤ 0
  ·obtain rfl : m = 0 := by omega
   obtain rfl : new = [] := List.eq_nil_of_length_eq_zero (by rw [hnew, Nat.zero_mul])
   exact ⟨_, h, by rw [if_pos hm]; rfl, .inl ⟨rfl, rfl, rfl⟩, Nat.le_refl _, fun _ _ _ => rfl, fun b hb => .inl hb⟩
  ·have hf : firstN h z 0 (.slice none 0 0) = some [] := rfl
   rw [if_neg hm, if_pos hbig, hf]
   simp only [List.length_nil, Nat.zero_mul, if_true]
   refine ⟨_, _, rfl, .inr ⟨h.n, _, zeros zv.cells.toList (room (0 + m) c - (0 + m)), rfl, hlo, Nat.lt_succ_self _, ?_, ?_, ?_⟩, Nat.le_succ _, fun b hb _ => at_new_ne _ _ (Nat.ne_of_lt hb), fun b hb => .inr ?_⟩
   ·rw [at_new_eq]
   ·simp [hnew]
   ·rw [zeros_length, hzl, List.nil_append, hnew]
    have := room_ge (0 + m) c
    rw [← Nat.add_mul]
    congr 1
    omega
   ·exact Nat.le_of_eq (Classical.not_not.1 hb).symm
 ·cases hv
  by_cases hm : n + m ≤ cp
  ·have hl : m * z ≤ rest.length := by
    have : (n + m) * z ≤ cp * z := Nat.mul_le_mul_right z hm
    rw [Nat.add_mul] at this
    omega
   rw [if_pos hm]
   have hp : putAt N h (some ⟨b, 0, none⟩) (n * z) new = some (h.put b (.cells ((cs ++ new) ++ rest.drop new.length) e 0 0)) := by
    show setN N h b (0 + n * z) new = _
    rw [Nat.zero_add, ← h4, setN_some h3 (Nat.le_trans hN h1) hs (.inl (Nat.zero_le _)) (by rw [List.length_append]; omega), splice_end _ _ _ (by omega)]
   rw [hp]
   refine ⟨_, _, rfl, .inr ⟨b, cp, rest.drop new.length, rfl, h1, h2, at_put_eq _ _ _, ?_, ?_⟩, Nat.le_refl _, fun d hd ho => at_put_ne _ _ ho, fun d hd => .inl hd⟩
   ·rw [List.length_append, Nat.add_mul]
    omega
   ·rw [List.length_append, List.length_drop]
    omega
  ·have hf : firstN h z n (.slice (some ⟨b, 0, none⟩) n cp) = some cs := by
    show orNil (n * z) (loadN h b 0 (n * z)) = _
    rw [← h4, loadN_eq, h3, loadC_some, only_pos (by rw [List.length_append]; omega), List.drop_zero, List.take_left]
    rfl
   rw [if_neg hm, if_pos hbig, hf]
   simp only [h4, if_true]
   refine ⟨_, _, rfl, .inr ⟨h.n, _, zeros zv.cells.toList (room (n + m) c - (n + m)), rfl, hlo, Nat.lt_succ_self _, ?_, ?_, ?_⟩, Nat.le_succ _, fun b hb _ => at_new_ne _ _ (Nat.ne_of_lt hb), fun b hb => .inr ?_⟩
   ·rw [at_new_eq]
   ·rw [List.length_append, Nat.add_mul]
    omega
   ·rw [zeros_length, hzl, List.length_append, hnew, h4, ← Nat.add_mul, ← Nat.add_mul]
    have := room_ge (n + m) c
    congr 1
    omega
   ·exact Nat.le_of_eq (Classical.not_not.1 hb).symm
theorem app_text {lo c : Nat} {v : Value} {l x : Str} (r : Bts lo h v l) (hN : N ≤ lo) (hlo : lo ≤ h.n) (hbig : l.length + x.length ≤ 2 ^ 32) :
  ∃ v' h', aappend N Tryz.prog h #[27, 9] v (S x) c = some (v', h') ∧ Bts lo h' v' (l ++ x) ∧ h.n ≤ h'.n ∧ (∀ b, b < h.n → Off b v → h'.at b = h.at b) ∧ (∀ b, ¬Off b v' → ¬Off b v ∨ h.n ≤ b) := by
 obtain ⟨v', h', e, r', h1, h2, h3⟩ := aappend_row2 (c := c) (t := 27) (t2 := 9) (e := 5) (z := 1) Tryz.underlying27 Tryz.underlying9 s_5 b_5 z_5 rfl (by decide) (by decide) hN hlo r (x := S x) (m := x.length) (new := byteVals x)
  (by simp only [tailOf, lenOf, firstN]; rw [show bytes ⟨x.toArray⟩ = x from rfl, List.take_length]) (by rw [byteVals_length, Nat.mul_one]) (by intro v hv; exact (all_bytes x).2 trivial v hv) hbig
 refine ⟨v', h', e, ?_, h1, h2, h3⟩
 unfold Bts
 rw [List.length_append, byteVals_app]
 exact r'
def BD (h : Heap) (v : Value) (l : Str) : Prop := (l = [] ∧ ∃ a cp, v = .slice a 0 cp) ∨ ∃ b pre post cp e lo hi, v = .slice (some ⟨b, pre.length, none⟩) l.length cp ∧ h.at b = some (.cells (pre ++ (byteVals l ++ post)) e lo hi)
theorem BD.len {v : Value} {l : Str} (d : BD h v l) : ∃ a cp, v = .slice a l.length cp := by
 rcases d with ⟨rfl, a, cp, rfl⟩ | ⟨b, pre, post, cp, e, lo, hi, rfl, _⟩ <;> exact ⟨_, _, rfl⟩
theorem BD.ext {h h' : Heap} {v : Value} {l : Str} (d : BD h v l) (hB : ∀ b o, h.at b = some o → b < h.n) (x : Ext h h') : BD h' v l := by
 rcases d with d | ⟨b, pre, post, cp, e, lo, hi, rfl, hat⟩
 ·exact .inl d
 ·exact .inr ⟨b, pre, post, cp, e, lo, hi, rfl, (x.2 b (hB _ _ hat)).trans hat⟩
theorem app_read {lo c : Nat} {v x : Value} {l m : Str} (r : Bts lo h v l) (hN : N ≤ lo) (hlo : lo ≤ h.n) (hx : BD h x m) (hbig : l.length + m.length ≤ 2 ^ 32) :
  ∃ v' h', aappend N Tryz.prog h #[27, 27] v x c = some (v', h') ∧ Bts lo h' v' (l ++ m) ∧ h.n ≤ h'.n ∧ (∀ b, b < h.n → Off b v → h'.at b = h.at b) ∧ (∀ b, ¬Off b v' → ¬Off b v ∨ h.n ≤ b) := by
 have ht : tailOf h (.slice 5) 1 (.int .u8 0) x = some (m.length, byteVals m) := by
  have h1 : firstN h 1 m.length x = some (byteVals m) := by
   rcases hx with ⟨rfl, a, cp, rfl⟩ | ⟨b, pre, post, cp, e, lo, hi, rfl, hat⟩
   ·exact firstN_zero 1 a cp
   ·show orNil (m.length * 1) (loadN h b pre.length (m.length * 1)) = _
    rw [Nat.mul_one, loadN_mid hat rfl]
    rfl
  obtain ⟨a, cp, rfl⟩ := hx.len
  simp only [tailOf, lenOf, h1]
 obtain ⟨v', h', e, r', h1, h2, h3⟩ := aappend_row (c := c) (t := 27) (e := 5) (z := 1) Tryz.underlying27 s_5 b_5 z_5 rfl (by decide) (by decide) hN hlo r (x := x) (m := m.length) (new := byteVals m)
  ht (by rw [byteVals_length, Nat.mul_one]) (by intro v hv; exact (all_bytes m).2 trivial v hv) hbig
 refine ⟨v', h', e, ?_, h1, h2, h3⟩
 unfold Bts
 rw [List.length_append, byteVals_app]
 exact r'
def FD (h : Heap) (v : Value) (fs : List Fld) : Prop := (fs = [] ∧ ∃ a cp, v = .slice a 0 cp) ∨ ∃ b pre post cp e lo hi, v = .slice (some ⟨b, pre.length, none⟩) fs.length cp ∧ h.at b = some (.cells (pre ++ (fcells fs ++ post)) e lo hi)
theorem FD.len {v : Value} {fs : List Fld} (d : FD h v fs) : ∃ a cp, v = .slice a fs.length cp := by
 rcases d with ⟨rfl, a, cp, rfl⟩ | ⟨b, pre, post, cp, e, lo, hi, rfl, _⟩ <;> exact ⟨_, _, rfl⟩
theorem FD.ext {h h' : Heap} {v : Value} {fs : List Fld} (d : FD h v fs) (hB : ∀ b o, h.at b = some o → b < h.n) (x : Ext h h') : FD h' v fs := by
 rcases d with d | ⟨b, pre, post, cp, e, lo, hi, rfl, hat⟩
 ·exact .inl d
 ·exact .inr ⟨b, pre, post, cp, e, lo, hi, rfl, (x.2 b (hB _ _ hat)).trans hat⟩
theorem FD.load {v : Value} {fs : List Fld} (d : FD h v fs) (h0 : 0 < fs.length) : ∃ b o cp, v = .slice (some ⟨b, o, none⟩) fs.length cp ∧ ∀ k, k < fs.length → loadN h b (o + k * 2) 2 = some [S (fnth fs k).1, S (fnth fs k).2] := by
 rcases d with ⟨rfl, _⟩ | ⟨b, pre, post, cp, e, lo, hi, rfl, hat⟩
 ·simp at h0
 ·refine ⟨b, pre.length, cp, rfl, fun k hk => ?_⟩
  rw [loadN_eq, hat, loadC_some, only_pos (by simp only [List.length_append, fcells_len]; omega), List.drop_append, List.drop_eq_nil_of_le (by omega), List.nil_append, Nat.add_sub_cancel_left, fcells_get fs k post hk]
theorem FD.tail {v : Value} {fs : List Fld} (d : FD h v fs) (zv : Value) : tailOf h (.slice 60) 2 zv v = some (fs.length, fcells fs) := by
 have h1 : firstN h 2 fs.length v = some (fcells fs) := by
  rcases d with ⟨rfl, a, cp, rfl⟩ | ⟨b, pre, post, cp, e, lo, hi, rfl, hat⟩
  ·exact firstN_zero 2 a cp
  ·show orNil (fs.length * 2) (loadN h b pre.length (fs.length * 2)) = _
   rw [loadN_eq, hat, loadC_some, only_pos (by simp only [List.length_append, fcells_len]; omega), List.drop_left, List.take_left' (fcells_len fs)]
   rfl
 obtain ⟨a, cp, rfl⟩ := d.len
 simp only [tailOf, lenOf, h1]
theorem single_fcells : ∀ (fs : List Fld), ∀ v ∈ fcells fs, single v = true
 | [], v, hv => by cases hv
 | f :: fs, v, hv => by
  rcases List.mem_cons.1 hv with rfl | hv
  ·rfl
  rcases List.mem_cons.1 hv with rfl | hv
  ·rfl
  exact single_fcells fs v hv
theorem app_fds {lo c : Nat} {v x : Value} {fs gs : List Fld} (r : Flds lo h v fs) (hN : N ≤ lo) (hlo : lo ≤ h.n) (hx : FD h x gs) (hbig : fs.length + gs.length ≤ 2 ^ 32) :
  ∃ v' h', aappend N Tryz.prog h #[29, 29] v x c = some (v', h') ∧ Flds lo h' v' (fs ++ gs) ∧ h.n ≤ h'.n ∧ (∀ b, b < h.n → Off b v → h'.at b = h.at b) ∧ (∀ b, ¬Off b v' → ¬Off b v ∨ h.n ≤ b) := by
 obtain ⟨v', h', e, r', h1, h2, h3⟩ := aappend_row (c := c) (t := 29) (e := 60) (z := 2) Tryz.underlying29 s_60 b_60 z_60 rfl (by decide) (by decide) hN hlo r (x := x) (m := gs.length) (new := fcells gs)
  (hx.tail _) (fcells_len gs) (single_fcells gs) hbig
 refine ⟨v', h', e, ?_, h1, h2, h3⟩
 unfold Flds
 rw [List.length_append, fcells_app]
 exact r'
def fitF (f : Fld) : Bool := decide (f.1.length ≤ 2147483647) && decide (f.2.length ≤ 2147483647)
theorem fits3_ok (f : Fld) : ACall Tryz.prog w0 70 [.agg #[S f.1, S f.2]] h (fun v h' => v = .bool (fitF f) ∧ Ext h h') := by
 refine ACall.known fun hKn => ?_
 obtain ⟨hN, hB⟩ := hKn
 refine ACall.run noCount mixed Tryz.func70 rfl (by kernel_rfl) (Nat.le_of_ble_eq_true rfl) fun X hX => ?_
 by_cases h1 : 2147483647 < f.1.length
 ·have d1 : decide ((2147483647 : Int) < (f.1.length : Int)) = true := decide_eq_true (by omega)
  (repeat simp(disch:=omega)only[push_cast,go_sem_proc,↓ite_only,M_block,d1])
  ((with_reducible refine hX _ _ _ (fun j hj => nomatch hj) ?_); simp only[push_cast,go_sem_proc,↓ite_only,M_block,Tryz.results70])
  exact ⟨by unfold fitF; rw [decide_eq_false (by omega)]; rfl, Keep.ext (by repeat (first | exact Keep.refl _ _ | assumption | refine Keep.put ?_ (by first | (left; simp; done) | (right; omega)) _ | refine Keep.new ?_ _))⟩
 ·have d1 : decide ((2147483647 : Int) < (f.1.length : Int)) = false := decide_eq_false (by omega)
  by_cases h2 : 2147483647 < f.2.length
  ·have d2 : decide ((2147483647 : Int) < (f.2.length : Int)) = true := decide_eq_true (by omega)
   (repeat simp(disch:=omega)only[push_cast,go_sem_proc,↓ite_only,M_block,d1, d2])
   ((with_reducible refine hX _ _ _ (fun j hj => nomatch hj) ?_); simp only[push_cast,go_sem_proc,↓ite_only,M_block,Tryz.results70])
   exact ⟨by unfold fitF; rw [decide_eq_false (p := f.2.length ≤ _) (by omega), Bool.and_false], Keep.ext (by repeat (first | exact Keep.refl _ _ | assumption | refine Keep.put ?_ (by first | (left; simp; done) | (right; omega)) _ | refine Keep.new ?_ _))⟩
  ·have d2 : decide ((2147483647 : Int) < (f.2.length : Int)) = false := decide_eq_false (by omega)
   (repeat simp(disch:=omega)only[push_cast,go_sem_proc,↓ite_only,M_block,d1, d2])
   ((with_reducible refine hX _ _ _ (fun j hj => nomatch hj) ?_); simp only[push_cast,go_sem_proc,↓ite_only,M_block,Tryz.results70])
   exact ⟨by unfold fitF; rw [decide_eq_true (by omega), decide_eq_true (by omega)]; rfl, Keep.ext (by repeat (first | exact Keep.refl _ _ | assumption | refine Keep.put ?_ (by first | (left; simp; done) | (right; omega)) _ | refine Keep.new ?_ _))⟩
set_option maxHeartbeats 4000000 in
theorem fits2_ok (fs : List Fld) (v : Value) (hv : FD h v fs) : ACall Tryz.prog w0 36 [v] h (fun u h' => u = .bool (decide (fs.length ≤ 2147483647) && fs.all fitF) ∧ Ext h h') := by
 obtain ⟨a, cp, rfl⟩ := hv.len
 refine ACall.known fun hKn => ?_
 obtain ⟨hN, hB⟩ := hKn
 refine ACall.run noCount mixed Tryz.func36 rfl (by kernel_rfl) (Nat.le_of_ble_eq_true rfl) fun X hX => ?_
 by_cases h1 : 2147483647 < fs.length
 ·have d1 : decide ((2147483647 : Int) < (fs.length : Int)) = true := decide_eq_true (by omega)
  (repeat simp only[push_cast,go_sem_proc,↓ite_only,M_block,d1])
  ((with_reducible refine hX _ _ _ (fun j hj => nomatch hj) ?_); simp only[push_cast,go_sem_proc,↓ite_only,M_block,Tryz.results36])
  exact ⟨by rw [decide_eq_false (by omega)]; rfl, Ext.refl _⟩
 have d1 : decide ((2147483647 : Int) < (fs.length : Int)) = false := decide_eq_false (by omega)
 (repeat simp only[push_cast,go_sem_proc,↓ite_only,M_block,d1])
 refine M_loop (fun tm h1 n => ∃ k : Nat, k + n = fs.length ∧ Ext h h1 ∧ (fs.take k).all fitF = true ∧ tget tm 8 = .slice a fs.length cp ∧ tget tm 9 = I fs.length ∧ tget tm 10 = I k) fs.length ⟨0, by omega, Ext.refl _, rfl, (by simp only[zT,Nat.reduceBEq]), (by simp only[zT,Nat.reduceBEq]), (by simp only[zT,Nat.reduceBEq];rfl)⟩ ?_
 rintro tm h2 n R ⟨k, hkn, x2, hall, t8, t9, t10⟩ hR hE
 by_cases hk : k < fs.length
 ·have d2 : decide ((k : Int) < (fs.length : Int)) = true := decide_eq_true (by omega)
  obtain ⟨b, o, cp', hv', hld⟩ := (hv.ext hB x2).load (by omega)
  cases hv'
  have hg := hld k hk
  have n2 := x2.1
  (repeat(first|(simp(disch:=decide)only[push_cast,go_sem_proc,↓ite_only,M_block,t8, t9, t10, d2, hg])|(with_reducible refine⟨by omega,?_⟩)))
  refine callM_of (fits3_ok (fnth fs k)) ?_
  rintro u h3 ⟨rfl, x3⟩
  have x23 : Ext h2 h3 := Ext.trans (Keep.ext (by repeat (first | exact Keep.refl _ _ | assumption | refine Keep.put ?_ (by first | (left; simp; done) | (right; omega)) _ | refine Keep.new ?_ _))) x3
  have htk : (fs.take (k + 1)).all fitF = fitF (fnth fs k) := by
   rw [List.take_add_one, fnth_get hk, List.all_append, hall]
   simp
  cases hf : fitF (fnth fs k) with
  | false =>
   (repeat simp only[push_cast,go_sem_proc,↓ite_only,M_block])
   (with_reducible refine hE _ _ _ _ (nomatch ·) ?_)
   (repeat simp only[push_cast,go_sem_proc,↓ite_only,M_block])
   ((with_reducible refine hX _ _ _ (fun j hj => nomatch hj) ?_); simp only[push_cast,go_sem_proc,↓ite_only,M_block,Tryz.results36])
   refine ⟨?_, x2.trans x23⟩
   have : fs.all fitF = false := by
    rw [Bool.eq_false_iff]
    intro ha
    have := List.all_eq_true.1 ha (fnth fs k) (List.mem_of_getElem? (fnth_get hk))
    rw [hf] at this
    cases this
   rw [this, Bool.and_false]
  | true =>
   (repeat simp(disch:=omega)only[push_cast,go_sem_proc,↓ite_only,M_block,t10])
   refine hR _ _ (n - 1) (by omega) ⟨k + 1, by omega, x2.trans x23, by rw [htk]; exact hf, ‹_›, ‹_›, by rw [Int.natCast_add]; exact (by simp only[zT,Nat.reduceBEq];rfl)⟩
 ·have d2 : decide ((k : Int) < (fs.length : Int)) = false := decide_eq_false (by omega)
  (repeat simp only[push_cast,go_sem_proc,↓ite_only,M_block,t9, t10, d2])
  (with_reducible refine hE _ _ _ _ (nomatch ·) ?_)
  (repeat simp only[push_cast,go_sem_proc,↓ite_only,M_block])
  ((with_reducible refine hX _ _ _ (fun j hj => nomatch hj) ?_); simp only[push_cast,go_sem_proc,↓ite_only,M_block,Tryz.results36])
  refine ⟨?_, x2⟩
  rw [show k = fs.length by omega, List.take_length] at hall
  rw [hall, decide_eq_true (by omega)]
  rfl
theorem fits1_ok (meth target : Str) (code : Int) (reason : Str) (maj min : Int) (fv tv : Value) (ba : Option Addr) (bn bc : Nat) (fs ts : List Fld) (hf : FD h fv fs) (ht : FD h tv ts) :
  ACall Tryz.prog w0 16 [.agg #[S meth, S target, I code, S reason, I maj, I min, fv, .slice ba bn bc, tv]] h (fun u h' => (∃ b, u = .bool b ∧ (b = true → target.length ≤ 2147483647 ∧ reason.length ≤ 2147483647 ∧ bn ≤ 2147483647 ∧ fs.length ≤ 2147483647 ∧ ts.length ≤ 2147483647 ∧ fs.all fitF = true ∧ ts.all fitF = true)) ∧ Ext h h') := by
 obtain ⟨fa, fc, rfl⟩ := hf.len
 obtain ⟨ta, tc, rfl⟩ := ht.len
 refine ACall.known fun hKn => ?_
 obtain ⟨hN, hB⟩ := hKn
 refine ACall.run noCount mixed Tryz.func16 rfl (by kernel_rfl) (Nat.le_of_ble_eq_true rfl) fun X hX => ?_
 have no : ∀ h', Ext h h' → (∃ b, Value.bool false = .bool b ∧ (b = true → target.length ≤ 2147483647 ∧ reason.length ≤ 2147483647 ∧ bn ≤ 2147483647 ∧ fs.length ≤ 2147483647 ∧ ts.length ≤ 2147483647 ∧ fs.all fitF = true ∧ ts.all fitF = true)) ∧ Ext h h' := fun h' x => ⟨⟨false, rfl, fun e => by cases e⟩, x⟩
 by_cases h1 : 2147483647 < meth.length
 ·have d1 : decide ((2147483647 : Int) < (meth.length : Int)) = true := decide_eq_true (by omega)
  (repeat simp(disch:=omega)only[push_cast,go_sem_proc,↓ite_only,M_block,d1])
  ((with_reducible refine hX _ _ _ (fun j hj => nomatch hj) ?_); simp only[push_cast,go_sem_proc,↓ite_only,M_block,Tryz.results16])
  exact no _ (Keep.ext (by repeat (first | exact Keep.refl _ _ | assumption | refine Keep.put ?_ (by first | (left; simp; done) | (right; omega)) _ | refine Keep.new ?_ _)))
 have d1 : decide ((2147483647 : Int) < (meth.length : Int)) = false := decide_eq_false (by omega)
 by_cases h2 : 2147483647 < target.length
 ·have d2 : decide ((2147483647 : Int) < (target.length : Int)) = true := decide_eq_true (by omega)
  (repeat simp(disch:=omega)only[push_cast,go_sem_proc,↓ite_only,M_block,d1, d2])
  ((with_reducible refine hX _ _ _ (fun j hj => nomatch hj) ?_); simp only[push_cast,go_sem_proc,↓ite_only,M_block,Tryz.results16])
  exact no _ (Keep.ext (by repeat (first | exact Keep.refl _ _ | assumption | refine Keep.put ?_ (by first | (left; simp; done) | (right; omega)) _ | refine Keep.new ?_ _)))
 have d2 : decide ((2147483647 : Int) < (target.length : Int)) = false := decide_eq_false (by omega)
 by_cases h3 : 2147483647 < reason.length
 ·have d3 : decide ((2147483647 : Int) < (reason.length : Int)) = true := decide_eq_true (by omega)
  (repeat simp(disch:=omega)only[push_cast,go_sem_proc,↓ite_only,M_block,d1, d2, d3])
  ((with_reducible refine hX _ _ _ (fun j hj => nomatch hj) ?_); simp only[push_cast,go_sem_proc,↓ite_only,M_block,Tryz.results16])
  exact no _ (Keep.ext (by repeat (first | exact Keep.refl _ _ | assumption | refine Keep.put ?_ (by first | (left; simp; done) | (right; omega)) _ | refine Keep.new ?_ _)))
 have d3 : decide ((2147483647 : Int) < (reason.length : Int)) = false := decide_eq_false (by omega)
 (repeat simp(disch:=omega)only[push_cast,go_sem_proc,↓ite_only,M_block,d1, d2, d3])
 generalize hhe : Heap.new h _ = g1
 have x1 : Ext h g1 := by rw [← hhe]; exact Keep.ext (by repeat (first | exact Keep.refl _ _ | assumption | refine Keep.put ?_ (by first | (left; simp; done) | (right; omega)) _ | refine Keep.new ?_ _))
 have n1 : g1.n = h.n + 1 := by rw [← hhe]; rfl
 have m1 : g1.at h.n = some (.cells [S meth, S target, I code, S reason, I maj, I min, .slice fa fs.length fc, .slice ba bn bc, .slice ta ts.length tc] 31 0 0) := by rw [← hhe]; exact at_new_eq _ _
 clear hhe
 refine callM_of (fits2_ok fs _ (hf.ext hB x1)) ?_
 rintro u g2 ⟨rfl, x2⟩
 have m2 := (x2.2 h.n (by omega)).trans m1
 cases hq : decide (fs.length ≤ 2147483647) && fs.all fitF with
 | false =>
  (repeat simp only[push_cast,go_sem_proc,↓ite_only,M_block])
  ((with_reducible refine hX _ _ _ (fun j hj => nomatch hj) ?_); simp only[push_cast,go_sem_proc,↓ite_only,M_block,Tryz.results16])
  exact no _ (x1.trans x2)
 | true =>
  by_cases h4 : 2147483647 < bn
  ·have d4 : decide ((2147483647 : Int) < (bn : Int)) = true := decide_eq_true (by omega)
   (repeat simp(disch:=omega)only[push_cast,go_sem_proc,↓ite_only,M_block,m2, d4])
   ((with_reducible refine hX _ _ _ (fun j hj => nomatch hj) ?_); simp only[push_cast,go_sem_proc,↓ite_only,M_block,Tryz.results16])
   exact no _ (x1.trans x2)
  have d4 : decide ((2147483647 : Int) < (bn : Int)) = false := decide_eq_false (by omega)
  (repeat simp(disch:=omega)only[push_cast,go_sem_proc,↓ite_only,M_block,m2, d4])
  refine callM_of (fits2_ok ts _ (ht.ext hB (x1.trans x2))) ?_
  rintro u g3 ⟨rfl, x3⟩
  cases hq2 : decide (ts.length ≤ 2147483647) && ts.all fitF with
  | false =>
   (repeat simp only[push_cast,go_sem_proc,↓ite_only,M_block])
   ((with_reducible refine hX _ _ _ (fun j hj => nomatch hj) ?_); simp only[push_cast,go_sem_proc,↓ite_only,M_block,Tryz.results16])
   exact no _ (x1.trans (x2.trans x3))
  | true =>
   (repeat simp only[push_cast,go_sem_proc,↓ite_only,M_block])
   ((with_reducible refine hX _ _ _ (fun j hj => nomatch hj) ?_); simp only[push_cast,go_sem_proc,↓ite_only,M_block,Tryz.results16])
   rw [Bool.and_eq_true, decide_eq_true_eq] at hq hq2
   exact ⟨⟨true, rfl, fun _ => ⟨by omega, by omega, by omega, hq.1, hq2.1, hq.2, hq2.2⟩⟩, x1.trans (x2.trans x3)⟩
end Go.Proofs.YtbjaapiliegegaaGreatDoor.Sy
end
section
namespace Go.Proofs.YtbjaapiliegegaaGreatDoor.Sy
open Go
set_option maxRecDepth 100000
variable {w0 : World} {h : Heap}
@[push_cast] def p17_2 : Plan := [(1, []), (2, []), (4, []), (5, []), (8, []), (0, [2, 5]), (3, [5]), (6, []), (7, [])]
def sumF (fs : List Fld) : Nat := (fs.map fun f => f.1.length + f.2.length).sum
theorem sumF_app (a b : List Fld) : sumF (a ++ b) = sumF a + sumF b := by unfold sumF; rw [List.map_append, List.sum_append]
theorem sumF_take {fs : List Fld} {k : Nat} (hk : k < fs.length) : sumF (fs.take (k + 1)) = sumF (fs.take k) + ((fnth fs k).1.length + (fnth fs k).2.length) := by
 rw [List.take_add_one, fnth_get hk, sumF_app]
 simp [sumF]
theorem sumF_bound {n : Nat} : ∀ (fs : List Fld), (∀ f ∈ fs, f.1.length ≤ n ∧ f.2.length ≤ n) → sumF fs ≤ fs.length * (n + n)
 | [], _ => by simp [sumF]
 | f :: fs, hf => by
  have h1 := sumF_bound fs (fun g hg => hf g (List.mem_cons_of_mem _ hg))
  have h2 := hf f List.mem_cons_self
  have : sumF (f :: fs) = (f.1.length + f.2.length) + sumF fs := by simp [sumF]
  rw [this, List.length_cons, Nat.succ_mul]
  omega
theorem fit_all {fs : List Fld} (hf : fs.all fitF = true) : ∀ f ∈ fs, f.1.length ≤ 2147483647 ∧ f.2.length ≤ 2147483647 := fun f hm => by
 have := List.all_eq_true.1 hf f hm
 unfold fitF at this
 rw [Bool.and_eq_true, decide_eq_true_eq, decide_eq_true_eq] at this
 exact this
def SmallM (meth target reason : Str) (code maj min : Int) (bn : Nat) (fs ts : List Fld) : Prop :=
 meth.length + target.length + reason.length + bn + sumF (fs ++ ts) ≤ 5000 ∧ fs.length ≤ 40 ∧ ts.length ≤ 20 ∧ 0 ≤ maj ∧ maj ≤ 9 ∧ 0 ≤ min ∧ min ≤ 9 ∧ 0 ≤ code ∧ code ≤ 999
set_option maxHeartbeats 8000000 in
theorem small_ok (meth target : Str) (code : Int) (reason : Str) (maj min : Int) (fv tv : Value) (ba : Option Addr) (bn bc : Nat) (fs ts : List Fld) (hf : FD h fv fs) (ht : FD h tv ts)
    (g0 : meth.length ≤ 2147483647) (g1 : target.length ≤ 2147483647) (g2 : reason.length ≤ 2147483647) (g3 : bn ≤ 2147483647) (g4 : fs.length ≤ 2147483647) (g5 : ts.length ≤ 2147483647) (g6 : fs.all fitF = true) (g7 : ts.all fitF = true) :
    ACall Tryz.prog w0 17 [.agg #[S meth, S target, I code, S reason, I maj, I min, fv, .slice ba bn bc, tv]] h (fun u h' => (∃ b, u = .bool b ∧ (b = true → SmallM meth target reason code maj min bn fs ts)) ∧ Ext h h') := by
  obtain ⟨fa, fc, rfl⟩ := hf.len
  obtain ⟨ta, tc, rfl⟩ := ht.len
  refine ACall.known fun hKn => ?_
  obtain ⟨hN, hB⟩ := hKn
  refine ACall.run noCount mixed Tryz.func17 rfl (by kernel_rfl) (Nat.le_of_ble_eq_true rfl) fun X hX => ?_
  (repeat(first|(simp(disch:=first|omega|(simp only[zN];omega))only[push_cast,go_sem_proc,↓ite_only,M_block])|(with_reducible refine M_draw (id:=2) p17_2 ?_ ?_;focus kernel_rfl)))
  intro c1
  generalize hhe : Heap.new (Heap.new h _) _ = g1'
  have x1 : Ext h g1' := by rw [← hhe]; exact Keep.ext (by repeat (first | exact Keep.refl _ _ | assumption | refine Keep.put ?_ (by first | (left; simp; done) | (right; omega)) _ | refine Keep.new ?_ _))
  have n1 : g1'.n = h.n + 2 := by rw [← hhe]; rfl
  have m1 : g1'.at h.n = some (.cells [S meth, S target, I code, S reason, I maj, I min, .slice fa fs.length fc, .slice ba bn bc, .slice ta ts.length tc] 31 0 0) := by rw [← hhe, at_new_ne _ _ (by rw [n_new]; omega)]; exact at_new_eq _ _
  have a1 : g1'.at (h.n + 1) = some (.cells [] 60 0 0) := by rw [← hhe]; exact at_new_eq _ _
  clear hhe
  have r1 : Flds (h.n + 1) g1' (.slice (some ⟨h.n + 1, 0, none⟩) 0 0) [] := .inr ⟨h.n + 1, 0, [], rfl, Nat.le_refl _, by omega, a1, rfl, rfl⟩
  obtain ⟨v2, h2, e2, r2, n2, hold2, _⟩ := app_fds (c := c1) (N := w0.heap.size) r1 (by omega) (by omega) (hf.ext hB x1) (by simp; omega)
  rw [e2, List.nil_append] at *
  have x2 : Ext h h2 := ⟨by omega, fun i hi => (hold2 i (by omega) (by show i ≠ h.n + 1; omega)).trans (x1.2 i hi)⟩
  have m2 := (hold2 h.n (by omega) (by show h.n ≠ h.n + 1; omega)).trans m1
  (repeat simp only[push_cast,go_sem_proc,↓ite_only,M_block,m2])
  intro c2
  obtain ⟨v3, h3, e3, r3, n3, hold3, _⟩ := app_fds (c := c2) (N := w0.heap.size) r2 (by omega) (by omega) (ht.ext hB x2) (by omega)
  rw [e3]
  have x3 : Ext h h3 := ⟨by omega, fun i hi => (hold3 i (by omega) (Row.off r2 (by omega))).trans (x2.2 i hi)⟩
  have m3 := (hold3 h.n (by omega) (Row.off r2 (by omega))).trans m2
  obtain ⟨L, hL⟩ : ∃ L, fs ++ ts = L := ⟨_, rfl⟩
  rw [hL] at r3
  have hLl : L.length = fs.length + ts.length := by rw [← hL, List.length_append]
  obtain ⟨a3, c3, rfl⟩ := Row.len r3
  have hLf : ∀ f ∈ L, f.1.length ≤ 2147483647 ∧ f.2.length ≤ 2147483647 := by
    rw [← hL]
    intro f hm
    rcases List.mem_append.1 hm with hm | hm
    · exact fit_all g6 f hm
    · exact fit_all g7 f hm
  (repeat simp only[push_cast,go_sem_proc,↓ite_only,M_block])
  refine M_loop (fun tm h4 n => ∃ (k : Nat) (x : Int), k + n = L.length ∧ Ext h3 h4 ∧ tget tm 1 = ptr h.n 0 ∧ tget tm 27 = .slice a3 L.length c3 ∧ tget tm 28 = I L.length ∧ tget tm 29 = I k ∧ tget tm 3 = .int .i64 x ∧ (L.length ≤ 60 → x = ((meth.length + target.length + reason.length + bn + sumF (L.take k) : Nat) : Int))) L.length
    ⟨0, _, by omega, Ext.refl _, (by simp only[zT,Nat.reduceBEq]), (by simp only[zT,Nat.reduceBEq]), (by simp only[zT,Nat.reduceBEq]), (by simp only[zT,Nat.reduceBEq];rfl), (by simp only[zT,Nat.reduceBEq];rfl), fun _ => by simp [sumF]⟩ ?_
  rintro tm h4 n R ⟨k, x, hkn, x4, t1, t27, t28, t29, t3, hx⟩ hR hE
  have n4 := x4.1
  by_cases hk : k < L.length
  · have d1 : decide ((k : Int) < (L.length : Int)) = true := decide_eq_true (by omega)
    obtain ⟨b, cp', rest, hv, hb1, hb2, hat⟩ := Row.at (Row.ext r3 x4) hk
    cases hv
    have hld := fld_load hat hk
    have hfk := hLf (fnth L k) (List.mem_of_getElem? (fnth_get hk))
    have hsk := sumF_take hk
    have hsb := sumF_bound (L.take k) (fun f hf => hLf f (List.mem_of_mem_take hf))
    rw [List.length_take] at hsb
    by_cases hL60 : L.length ≤ 60
    · have hx' := hx hL60
      (repeat(first|(simp(disch:=first|omega|decide)only[push_cast,go_sem_proc,↓ite_only,M_block,t1, t27, t28, t29, t3, d1, hld])|(with_reducible refine⟨by omega,?_⟩)))
      refine hR _ _ (n - 1) (by omega) ⟨k + 1, _, by omega, x4.trans (Keep.ext (by repeat (first | exact Keep.refl _ _ | assumption | refine Keep.put ?_ (by first | (left; simp; done) | (right; omega)) _ | refine Keep.new ?_ _))), ‹_›, ‹_›, ‹_›, by rw [Int.natCast_add]; exact (by simp only[zT,Nat.reduceBEq];rfl), (by simp only[zT,Nat.reduceBEq];rfl), fun _ => by rw [hsk]; omega⟩
    · (repeat(first|(simp(disch:=first|omega|decide)only[push_cast,go_sem_proc,↓ite_only,M_block,t1, t27, t28, t29, t3, d1, hld])|(with_reducible refine⟨by omega,?_⟩)))
      refine hR _ _ (n - 1) (by omega) ⟨k + 1, _, by omega, x4.trans (Keep.ext (by repeat (first | exact Keep.refl _ _ | assumption | refine Keep.put ?_ (by first | (left; simp; done) | (right; omega)) _ | refine Keep.new ?_ _))), ‹_›, ‹_›, ‹_›, by rw [Int.natCast_add]; exact (by simp only[zT,Nat.reduceBEq];rfl), (by simp only[zT,Nat.reduceBEq];rfl), fun h60 => absurd h60 hL60⟩
  · have d1 : decide ((k : Int) < (L.length : Int)) = false := decide_eq_false (by omega)
    have m4 := (x4.2 h.n (by omega)).trans m3
    rw [show k = L.length by omega, List.take_length] at hx
    (repeat simp only[push_cast,go_sem_proc,↓ite_only,M_block,t28, t29, d1])
    (with_reducible refine hE _ _ _ _ (nomatch ·) ?_)
    (repeat simp only[push_cast,go_sem_proc,↓ite_only,M_block,t1, t3, m4])
    repeat' ((with_reducible(first|refine condM_same ?_ ?_|refine condM_nsame ?_ ?_|refine oneM_same ?_ ?_|refine oneM_nsame ?_ ?_|refine oneP_same ?_ ?_|refine oneP_nsame ?_ ?_|refine condM_dec_ ?_ ?_|refine condM_not_ ?_ ?_|refine oneM_dec_ ?_ ?_|refine oneM_not_ ?_ ?_|refine oneP_dec_ ?_ ?_|refine oneP_not_ ?_ ?_|refine condM_bool ?_ ?_|refine oneM_bool ?_ ?_|refine oneP_bool ?_ ?_)<;>intro c) <;> first | (exfalso; first | contradiction | omega) | (try (repeat simp(disch:=omega)only[push_cast,go_sem_proc,↓ite_only,M_block,t1, t3, m4, c])))
    trace_state
    all_goals
      ((with_reducible refine hX _ _ _ (fun j hj => nomatch hj) ?_); simp only[push_cast,go_sem_proc,↓ite_only,M_block,Tryz.results17])
      refine ⟨⟨_, rfl, fun e => ?_⟩, x3.trans x4⟩
      first
      | (cases e; done)
      | (have := of_decide_eq_true e
         have hx2 := hx (by omega)
         unfold SmallM
         rw [hL]
         omega)
end Go.Proofs.YtbjaapiliegegaaGreatDoor.Sy
end
section
namespace Go.Proofs.YtbjaapiliegegaaGreatDoor.Sy
open Go
set_option maxRecDepth 100000
variable {w0 : World} {h : Heap}
@[push_cast] def p18_2 : Plan := [(0, []), (1, []), (5, []), (6, []), (2, [6]), (3, []), (4, []), (7, []), (8, []), (9, [])]
@[push_cast] def p18_5 : Plan := [(0, []), (1, []), (2, []), (3, []), (4, []), (8, []), (9, []), (5, [9]), (6, []), (7, []), (10, []), (11, []), (12, []), (13, [])]
def firstL (maj min code : Nat) (reason : Str) : Str := [72, 84, 84, 80, 47] ++ (decL maj ++ (46 :: (decL min ++ (32 :: (decL code ++ (32 :: (reason ++ [13, 10])))))))
def lineF (f : Fld) : Str := f.1 ++ (58 :: 32 :: (f.2 ++ [13, 10]))
def linesF (fs : List Fld) : Str := (fs.map lineF).flatten
def headL (maj min code : Nat) (reason : Str) (fs : List Fld) : Str := (firstL maj min code reason ++ linesF fs) ++ [13, 10]
theorem linesF_take {fs : List Fld} {k : Nat} (hk : k < fs.length) : linesF (fs.take (k + 1)) = linesF (fs.take k) ++ lineF (fnth fs k) := by
 unfold linesF
 rw [List.take_add_one, fnth_get hk, List.map_append, List.flatten_append]
 simp
theorem linesF_len : ∀ (fs : List Fld), (linesF fs).length = sumF fs + fs.length * 4
 | [] => rfl
 | f :: fs => by
  have h1 := linesF_len fs
  have h2 : linesF (f :: fs) = lineF f ++ linesF fs := by simp [linesF]
  have h3 : sumF (f :: fs) = (f.1.length + f.2.length) + sumF fs := by simp [sumF]
  rw [h2, List.length_append, h1, h3]
  simp [lineF]
  omega
theorem sumF_mem : ∀ {fs : List Fld} {f : Fld}, f ∈ fs → f.1.length + f.2.length ≤ sumF fs
 | g :: fs, f, hf => by
  have h3 : sumF (g :: fs) = (g.1.length + g.2.length) + sumF fs := by simp [sumF]
  rcases List.mem_cons.1 hf with rfl | hf
  ·omega
  ·have := sumF_mem hf; omega
set_option maxHeartbeats 8000000 in
theorem head_ok (target reason : Str) (code maj min : Nat) (fv tv : Value) (ba : Option Addr) (bn bc : Nat) (fs : List Fld) (hf : FD h fv fs) (g1 : maj ≤ 9) (g2 : min ≤ 9) (g3 : code ≤ 999) (g4 : reason.length ≤ 5000) (g5 : sumF fs ≤ 5000) (g6 : fs.length ≤ 40) (htv : single tv = true) :
  ACall Tryz.prog w0 18 [.agg #[S [], S target, I code, S reason, I maj, I min, fv, .slice ba bn bc, tv]] h (fun u h' => Bts h.n h' u (headL maj min code reason fs) ∧ Ext h h') := by
 obtain ⟨fa, fc, rfl⟩ := hf.len
 refine ACall.known fun hKn => ?_
 obtain ⟨hN, hB⟩ := hKn
 refine ACall.run noCount mixed Tryz.func18 rfl (by kernel_rfl) (Nat.le_of_ble_eq_true rfl) fun X hX => ?_
 have l1 := decL_len maj
 have l2 := decL_len min
 have l3 := decL_len code
 (repeat(first|(simp(disch:=omega)only[push_cast,go_sem_proc,↓ite_only,M_block,htv])|(with_reducible refine M_draw (id:=2) p18_2 ?_ ?_;focus kernel_rfl)))
 generalize hhe : Heap.new h _ = h1
 have x1 : Ext h h1 := by rw [← hhe]; exact Keep.ext (by repeat (first | exact Keep.refl _ _ | assumption | refine Keep.put ?_ (by first | (left; simp; done) | (right; omega)) _ | refine Keep.new ?_ _))
 have n1 : h1.n = h.n + 1 := by rw [← hhe]; rfl
 have m1 : h1.at h.n = some (.cells [S [], S target, I code, S reason, I maj, I min, .slice fa fs.length fc, .slice ba bn bc, tv] 31 0 0) := by rw [← hhe]; exact at_new_eq _ _
 clear hhe
 refine callP_of (decimal_ok maj (by omega)) ?_
 rintro v h2 ⟨rfl, x2⟩
 have m2 := (x2.2 h.n (by omega)).trans m1
 have n2 := x2.1
 (repeat(first|(simp only[push_cast,go_sem_proc,↓ite_only,M_block,m2, List.length_cons, List.length_nil])|(with_reducible refine⟨by omega,?_⟩)))
 refine callP_of (decimal_ok min (by omega)) ?_
 rintro v h3 ⟨rfl, x3⟩
 have m3 := (x3.2 h.n (by omega)).trans m2
 have n3 := x3.1
 have ss : sameL [] [] = true := rfl
 (repeat(first|(simp(disch:=omega)only[push_cast,go_sem_proc,↓ite_only,M_block,m3, ss, List.length_cons, List.length_nil])|(with_reducible refine And.intro ?_ ?_;focus(first|(simp only[zL,m3, ss, List.length_cons, List.length_nil];omega)))|(with_reducible refine M_draw (id:=5) p18_5 ?_ ?_;focus kernel_rfl)))
 refine callP_of (decimal_ok code (by omega)) ?_
 rintro v h4 ⟨rfl, x4⟩
 have m4 := (x4.2 h.n (by omega)).trans m3
 have n4 := x4.1
 (repeat(first|(simp only[push_cast,go_sem_proc,↓ite_only,M_block,m4, List.length_cons, List.length_nil])|(with_reducible refine And.intro ?_ ?_;focus(first|(simp only[zL,m4, List.length_cons, List.length_nil];omega)))))
 intro c1
 have hF : (72 :: 84 :: 84 :: 80 :: 47 :: (decL maj ++ [46] ++ decL min ++ [32] ++ decL code ++ [32] ++ reason ++ [13, 10]) : Str) = firstL maj min code reason := by simp [firstL]
 have hFl : (firstL maj min code reason).length ≤ 7000 := by rw [← hF]; simp only [List.length_append, List.length_cons, List.length_nil]; omega
 rw [hF]
 obtain ⟨v5, h5, e5, r5, n5, hold5, _⟩ := app_text (c := c1) (x := firstL maj min code reason) (N := w0.heap.size) (h := h4) (lo := h.n) (l := []) (v := .slice none 0 0) (.inl ⟨rfl, rfl, rfl⟩) hN (by omega) (by simp; omega)
 rw [e5]
 rw [List.nil_append] at r5
 have x5 : Ext h h5 := ⟨by omega, fun i hi => (hold5 i (by omega) trivial).trans ((x4.2 i (by omega)).trans ((x3.2 i (by omega)).trans ((x2.2 i (by omega)).trans (x1.2 i hi))))⟩
 have m5 := (hold5 h.n (by omega) trivial).trans m4
 (repeat simp(disch:=omega)only[push_cast,go_sem_proc,↓ite_only,M_block,m5])
 refine M_loop (fun tm h6 n => ∃ (k : Nat) (v : Value), k + n = fs.length ∧ Bts h.n h6 v (firstL maj min code reason ++ linesF (fs.take k)) ∧ Ext h h6 ∧ tget tm 3 = v ∧ tget tm 45 = .slice fa fs.length fc ∧ tget tm 46 = I fs.length ∧ tget tm 47 = I k) fs.length
  ⟨0, v5, by omega, by rw [List.take_zero, show linesF [] = [] from rfl, List.append_nil]; exact r5, x5, (by simp only[zT,Nat.reduceBEq]), (by simp only[zT,Nat.reduceBEq]), (by simp only[zT,Nat.reduceBEq]), (by simp only[zT,Nat.reduceBEq];rfl)⟩ ?_
 rintro tm h6 n R ⟨k, v, hkn, bt, x6, t3, t45, t46, t47⟩ hR hE
 obtain ⟨av, cv, rfl⟩ := bt.own.data.len
 by_cases hk : k < fs.length
 ·have d1 : decide ((k : Int) < (fs.length : Int)) = true := decide_eq_true (by omega)
  obtain ⟨b, o, cp', hv', hld⟩ := (hf.ext hB x6).load (by omega)
  cases hv'
  have hg := hld k hk
  have n6 := x6.1
  have hfm := sumF_mem (List.mem_of_getElem? (fnth_get hk))
  have hltk : (linesF (fs.take k)).length ≤ 5000 + 160 := by
   rw [linesF_len]
   have h1 : sumF (fs.take k) ≤ sumF fs := by
    have := sumF_app (fs.take k) (fs.drop k)
    rw [List.take_append_drop] at this
    omega
   rw [List.length_take]
   omega
  have hlf : (lineF (fnth fs k)).length ≤ 5010 := by simp [lineF]; omega
  (repeat(first|(simp(disch:=first|omega|decide)only[push_cast,go_sem_proc,↓ite_only,M_block,t3, t45, t46, t47, d1, hg, List.length_cons, List.length_nil])|(with_reducible refine And.intro ?_ ?_;focus(first|omega|(simp only[zL,t3, t45, t46, t47, d1, hg, List.length_cons, List.length_nil];omega)))))
  intro c2
  have hF2 : ((fnth fs k).1 ++ [58, 32] ++ (fnth fs k).2 ++ [13, 10] : Str) = lineF (fnth fs k) := by simp [lineF]
  rw [hF2]
  generalize hhe : Heap.put _ h6.n _ = h7
  have x7 : Ext h6 h7 := by rw [← hhe]; exact Keep.ext (by repeat (first | exact Keep.refl _ _ | assumption | refine Keep.put ?_ (by first | (left; simp; done) | (right; omega)) _ | refine Keep.new ?_ _))
  have n7 : h7.n = h6.n + 1 := by rw [← hhe]; rfl
  clear hhe
  obtain ⟨v8, h8, e8, r8, n8, hold8, _⟩ := app_text (c := c2) (x := lineF (fnth fs k)) (N := w0.heap.size) (Row.ext bt x7) hN (by omega) (by rw [List.length_append]; omega)
  rw [e8]
  (repeat simp(disch:=omega)only[push_cast,go_sem_proc,↓ite_only,M_block,t47])
  refine hR _ _ (n - 1) (by omega) ⟨k + 1, v8, by omega, by rw [linesF_take hk, ← List.append_assoc]; exact r8, ⟨by omega, fun i hi => (hold8 i (by omega) (Row.off bt hi)).trans ((x7.2 i (by omega)).trans (x6.2 i hi))⟩, (by simp only[zT,Nat.reduceBEq]), ‹_›, ‹_›, by rw [Int.natCast_add]; exact (by simp only[zT,Nat.reduceBEq];rfl)⟩
 ·have d1 : decide ((k : Int) < (fs.length : Int)) = false := decide_eq_false (by omega)
  have n6 := x6.1
  rw [show k = fs.length by omega, List.take_length] at bt
  have hll : (linesF fs).length ≤ 5160 := by rw [linesF_len]; omega
  (repeat simp only[push_cast,go_sem_proc,↓ite_only,M_block,t46, t47, d1])
  (with_reducible refine hE _ _ _ _ (nomatch ·) ?_)
  (repeat simp only[push_cast,go_sem_proc,↓ite_only,M_block,t3])
  intro c2
  obtain ⟨v8, h8, e8, r8, n8, hold8, _⟩ := app_text (c := c2) (x := [13, 10]) (N := w0.heap.size) bt hN (by omega) (by rw [List.length_append]; simp; omega)
  rw [show k = fs.length by omega, List.take_length, e8]
  (repeat simp only[push_cast,go_sem_proc,↓ite_only,M_block])
  ((with_reducible refine hX _ _ _ (fun j hj => nomatch hj) ?_); simp only[push_cast,go_sem_proc,↓ite_only,M_block,Tryz.results18])
  exact ⟨r8, by omega, fun i hi => (hold8 i (by omega) (Row.off bt hi)).trans (x6.2 i hi)⟩
end Go.Proofs.YtbjaapiliegegaaGreatDoor.Sy
end
