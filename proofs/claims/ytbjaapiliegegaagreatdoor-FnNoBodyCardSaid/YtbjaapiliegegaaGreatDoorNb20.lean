/- Of the proof of FnNoBody: ScE ScF ScG. -/
import Derived.Test.YtbjaapiliegegaaGreatDoorNb19
set_option linter.unusedVariables false
set_option linter.unusedSimpArgs false
section
namespace Go.Proofs.YtbjaapiliegegaaGreatDoor.Sy
open Go
set_option maxRecDepth 100000
variable {w0 : World} {h : Heap}
theorem Data.but {h h' : Heap} {v : Value} {l : List UInt8} {r : Nat} (d : Data h v l) (hr : ¬InB r v) (hx : ExtBut r h h') (hB : ∀ b o, h.at b = some o → b < h.n) : Data h' v l :=
 d.keep fun b ⟨o, hb⟩ hin => hx.2 b (hB b o hb) (fun e => hr (e ▸ hin))
theorem ExtBut.trans {b : Nat} {x y z : Heap} (h : ExtBut b x y) (k : ExtBut b y z) : ExtBut b x z := ⟨Nat.le_trans h.1 k.1, fun c hc hb => (k.2 c (Nat.lt_of_lt_of_le hc h.1) hb).trans (h.2 c hc hb)⟩
theorem Ext.but {b : Nat} {x y : Heap} (h : Ext x y) : ExtBut b x y := ⟨h.1, fun c hc _ => h.2 c hc⟩
theorem ExtBut.refl (b : Nat) (x : Heap) : ExtBut b x x := ⟨Nat.le_refl _, fun _ _ _ => rfl⟩
theorem ExtBut.new {b : Nat} {x y : Heap} (h : ExtBut b x y) (o : AO) : ExtBut b x (y.new o) := ⟨Nat.le_succ_of_le h.1, fun c hc hb => (at_new_ne _ _ (Nat.ne_of_lt (Nat.lt_of_lt_of_le hc h.1))).trans (h.2 c hc hb)⟩
theorem ExtBut.putNew {b c : Nat} {x y : Heap} (h : ExtBut b x y) (hc : x.n ≤ c) (o : AO) : ExtBut b x (y.put c o) := ⟨h.1, fun d hd hb => (at_put_ne _ _ (by omega)).trans (h.2 d hd hb)⟩
theorem line_take {m : List UInt8} (h : (lineL m).2.1 = 0) : 0 < (lineL m).2.2 ∧ (lineL m).2.2 ≤ m.length ∧ (lineL m).1.length < m.length := by
 revert h
 unfold lineL lineJ
 generalize (m.takeWhile noLF).length = j
 cases h1 : decide (j < m.length) with
 | false => simp
 | true =>
  have := of_decide_eq_true h1
  cases decide (0 < j ∧ (nth m (j - 1)).toNat = 13) with
  | false => simp
  | true =>
   cases (m.take (j - 1)).contains 13 with
   | true => simp
   | false => simp; omega
def fieldsJ : Nat → Str → List Fld → List Fld × Nat × Nat
 | 0, _, _ => ([], 3, 0)
 | f + 1, m, out =>
  match decide ((lineL m).2.1 = 1), decide ((lineL m).2.1 = 2), (lineL m).1.isEmpty, decide (60 < out.length), decide ((fieldL (lineL m).1 out.isEmpty).2 = 0) with
  | true, _, _, _, _ => ([], 1, (lineL m).2.2)
  | false, true, _, _, _ => ([], 3, (lineL m).2.2)
  | false, false, true, _, _ => (out, 0, (lineL m).2.2)
  | false, false, false, true, _ => ([], 3, (lineL m).2.2)
  | false, false, false, false, false => ([], (fieldL (lineL m).1 out.isEmpty).2, (lineL m).2.2)
  | false, false, false, false, true =>
   ((fieldsJ f (m.drop (lineL m).2.2) (out ++ [(fieldL (lineL m).1 out.isEmpty).1])).1, (fieldsJ f (m.drop (lineL m).2.2) (out ++ [(fieldL (lineL m).1 out.isEmpty).1])).2.1,
    (lineL m).2.2 + (fieldsJ f (m.drop (lineL m).2.2) (out ++ [(fieldL (lineL m).1 out.isEmpty).1])).2.2)
def fieldsL (m : Str) : List Fld × Nat × Nat := fieldsJ (m.length + 1) m []
theorem fault_cases (m : Str) : (lineL m).2.1 = 0 ∨ (lineL m).2.1 = 1 ∨ (lineL m).2.1 = 2 := by
 unfold lineL lineJ
 generalize (m.takeWhile noLF).length = j
 cases decide (j < m.length) with
 | false => simp
 | true =>
  cases decide (0 < j ∧ (nth m (j - 1)).toNat = 13) with
  | false => simp
  | true => cases (m.take (j - 1)).contains 13 <;> simp
set_option maxHeartbeats 4000000 in
theorem fields_ok (l : List UInt8) (d : Value) (r p : Nat) (hr : w0.heap.size ≤ r) (hl : l.length < 1099511627776) (hp : p ≤ l.length)
  (hat : h.at r = some (.cells [d, I p] 64 0 0)) (hd : Data h d l) (hdr : ¬InB r d) :
  ACall Tryz.prog w0 43 [ptr r 0] h (fun v h' => ∃ sv, v = .tuple #[sv, I (fieldsL (l.drop p)).2.1] ∧ Flds h.n h' sv (fieldsL (l.drop p)).1 ∧
   ExtBut r h h' ∧ h'.at r = some (.cells [d, I (p + (fieldsL (l.drop p)).2.2 : Nat)] 64 0 0)) := by
 refine ACall.known fun hKn => ?_
 obtain ⟨hN, hB⟩ := hKn
 refine ACall.run noCount mixed Tryz.func43 rfl (by kernel_rfl) (Nat.le_of_ble_eq_true rfl) fun X hX => ?_
 have hrn := hB _ _ hat
 have hX' : ∀ (tm : Tm) (h2 : Heap) (sv : Value) (fs : List Fld) (vd c : Nat), fieldsL (l.drop p) = (fs, vd, c) → Flds h.n h2 sv fs → ExtBut r h h2 → h2.at r = some (.cells [d, I (p + c : Nat)] 64 0 0) → tget tm 2 = sv → tget tm 3 = I vd → X .ret tm [] h2 := by
  intro tm h2 sv fs vd c e1 e2 e3 e4 e5 e6
  rw [e1] at hX
  ((with_reducible refine hX _ _ _ (fun j hj => nomatch hj) ?_); simp only[push_cast,go_sem_proc,↓ite_only,M_block,Tryz.results43,e5, e6])
  exact ⟨sv, rfl, e2, e3, by rw [e4]; simp⟩
 clear hX
 (repeat simp only[push_cast,go_sem_proc,↓ite_only,M_block])
 refine M_loop (fun tm h1 n => ∃ (q : Nat) (out : List Fld) (sv : Value) (f : Nat), p ≤ q ∧ q ≤ l.length ∧ n = l.length - q ∧ ExtBut r h h1 ∧ h1.at r = some (.cells [d, I q] 64 0 0) ∧ Flds h.n h1 sv out ∧ tget tm 0 = ptr r 0 ∧ tget tm 4 = sv ∧ out.length ≤ 61 ∧ l.length - q ≤ f ∧
   fieldsL (l.drop p) = ((fieldsJ (f + 1) (l.drop q) out).1, (fieldsJ (f + 1) (l.drop q) out).2.1, q - p + (fieldsJ (f + 1) (l.drop q) out).2.2)) (l.length - p)
  ⟨p, [], _, l.length - p, by omega, hp, rfl, .refl _ _, hat, Row.nil _ _ _ _, (by simp only[zT,Nat.reduceBEq]), (by simp only[zT,Nat.reduceBEq]), by simp, Nat.le_refl _, by unfold fieldsL; rw [List.length_drop, Nat.sub_self, Nat.zero_add]⟩ ?_
 rintro tm1 h1 n R ⟨q, out, sv, f, hpq, hq, rfl, hx, hat1, hsv, t0, t4, hol, hfu, hF⟩ hR hE
 (repeat simp only[push_cast,go_sem_proc,↓ite_only,M_block,t0])
 refine callM_of (line_ok l d r q hr hl hq hat1 (hd.but hdr hx hB) hdr) ?_
 rintro v h2 ⟨rfl, hx2, hat2⟩
 obtain ⟨lim, e2⟩ : ∃ m, l.drop q = m := ⟨_, rfl⟩
 rw [e2] at hF hat2 ⊢
 have hfc := fault_cases lim
 obtain ⟨a, cp, rfl⟩ := hsv.len
 have hrn' : r < h.n := hrn
 have hsv2 : Flds h.n h2 (.slice a out.length cp) out := hsv.keep hx2.1 (fun b hb hlo _ => hx2.2 b hb (by omega))
 have hpc : ∀ c : Nat, q + c = p + (q - p + c) := by omega
 (repeat simp only[push_cast,go_sem_proc,↓ite_only,M_block,t0, t4])
 repeat' ((with_reducible(first|refine condM_same ?_ ?_|refine condM_nsame ?_ ?_|refine oneM_same ?_ ?_|refine oneM_nsame ?_ ?_|refine oneP_same ?_ ?_|refine oneP_nsame ?_ ?_|refine condM_dec_ ?_ ?_|refine condM_not_ ?_ ?_|refine oneM_dec_ ?_ ?_|refine oneM_not_ ?_ ?_|refine oneP_dec_ ?_ ?_|refine oneP_not_ ?_ ?_|refine condM_bool ?_ ?_|refine oneM_bool ?_ ?_|refine oneP_bool ?_ ?_)<;>intro c) <;> first | (exfalso; first | contradiction | omega) | (try (repeat simp(disch:=first|omega|decide)only[push_cast,go_sem_proc,↓ite_only,M_block,t0, t4, c])))
 ·have hJ : fieldsJ (f + 1) lim out = ([], 1, (lineL lim).2.2) := by rw [fieldsJ, decide_eq_true (by omega)]
  rw [hJ] at hF
  (with_reducible refine hE _ _ _ _ (nomatch ·) ?_)
  (repeat simp only[push_cast,go_sem_proc,↓ite_only,M_block])
  exact hX' _ _ _ _ _ _ hF (Row.nil _ _ _ _) (hx.trans hx2) (by rw [hat2, hpc]) (by simp only[zT,Nat.reduceBEq]) (by simp only[zT,Nat.reduceBEq];rfl)
 ·have hJ : fieldsJ (f + 1) lim out = ([], 3, (lineL lim).2.2) := by rw [fieldsJ, decide_eq_false (by omega), decide_eq_true (by omega)]
  rw [hJ] at hF
  (with_reducible refine hE _ _ _ _ (nomatch ·) ?_)
  (repeat simp only[push_cast,go_sem_proc,↓ite_only,M_block])
  exact hX' _ _ _ _ _ _ hF (Row.nil _ _ _ _) (hx.trans hx2) (by rw [hat2, hpc]) (by simp only[zT,Nat.reduceBEq]) (by simp only[zT,Nat.reduceBEq];rfl)
 ·have hJ : fieldsJ (f + 1) lim out = (out, 0, (lineL lim).2.2) := by rw [fieldsJ, decide_eq_false (by omega), decide_eq_false (by omega), c]; rfl
  rw [hJ] at hF
  (with_reducible refine hE _ _ _ _ (nomatch ·) ?_)
  (repeat simp only[push_cast,go_sem_proc,↓ite_only,M_block,t4])
  exact hX' _ _ _ _ _ _ hF hsv2 (hx.trans hx2) (by rw [hat2, hpc]) (by simp only[zT,Nat.reduceBEq]) (by simp only[zT,Nat.reduceBEq];rfl)
 ·have hne : (lineL lim).1.isEmpty = false := by cases hl1 : (lineL lim).1 with | nil => exact absurd hl1 (by assumption) | cons _ _ => rfl
  have hJ : fieldsJ (f + 1) lim out = ([], 3, (lineL lim).2.2) := by rw [fieldsJ, decide_eq_false (by omega), decide_eq_false (by omega), hne, decide_eq_true (by omega)]
  rw [hJ] at hF
  (with_reducible refine hE _ _ _ _ (nomatch ·) ?_)
  (repeat simp only[push_cast,go_sem_proc,↓ite_only,M_block])
  exact hX' _ _ _ _ _ _ hF (Row.nil _ _ _ _) (hx.trans hx2) (by rw [hat2, hpc]) (by simp only[zT,Nat.reduceBEq]) (by simp only[zT,Nat.reduceBEq];rfl)
 ·have hne : (lineL lim).1.isEmpty = false := by cases hl1 : (lineL lim).1 with | nil => exact absurd hl1 (by assumption) | cons _ _ => rfl
  have hlen0 : 0 < (lineL lim).1.length := by cases hl1 : (lineL lim).1 with | nil => exact absurd hl1 (by assumption) | cons _ _ => simp
  have hf0 : (lineL lim).2.1 = 0 := by omega
  obtain ⟨g1, g2, g3⟩ := line_take hf0
  have hlm : lim.length = l.length - q := by rw [← e2, List.length_drop]
  have hfirst : decide ((out.length : Int) = 0) = out.isEmpty := by cases out <;> simp; omega
  have gA : q + (lineL lim).2.2 ≤ l.length := by omega
  have gB : l.length - (q + (lineL lim).2.2) < l.length - q := by omega
  have gC : l.length - (q + (lineL lim).2.2) + 1 ≤ l.length - q := by omega
  rw [hfirst]
  refine callM_of (sfield_ok (lineL lim).1 out.isEmpty hlen0 (by omega)) ?_
  rintro v h3 ⟨rfl, hx3⟩
  generalize hfl : fieldL (lineL lim).1 out.isEmpty = fl
  have hrn2 : r < h2.n := by have := hx.1; have := hx2.1; omega
  have hat3 := (hx3.2 r hrn2).trans hat2
  have hx03 : ExtBut r h h3 := (hx.trans hx2).trans hx3.but
  have hsv3 : Flds h.n h3 (.slice a out.length cp) out := hsv2.keep hx3.1 (fun b hb _ _ => hx3.2 b hb)
  have hn3 : h.n ≤ h3.n := hx03.1
  (repeat(first|(simp(disch:=decide)only[push_cast,go_sem_proc,↓ite_only,M_block,t0, t4])|(with_reducible refine⟨by omega,?_⟩)))
  repeat' ((with_reducible(first|refine condM_same ?_ ?_|refine condM_nsame ?_ ?_|refine oneM_same ?_ ?_|refine oneM_nsame ?_ ?_|refine oneP_same ?_ ?_|refine oneP_nsame ?_ ?_|refine condM_dec_ ?_ ?_|refine condM_not_ ?_ ?_|refine oneM_dec_ ?_ ?_|refine oneM_not_ ?_ ?_|refine oneP_dec_ ?_ ?_|refine oneP_not_ ?_ ?_|refine condM_bool ?_ ?_|refine oneM_bool ?_ ?_|refine oneP_bool ?_ ?_)<;>intro c) <;> first | (exfalso; first | contradiction | omega) | (try (repeat simp(disch:=decide)only[push_cast,go_sem_proc,↓ite_only,M_block,t0, t4, c])))
  ·have hJ : fieldsJ (f + 1) lim out = ([], fl.2, (lineL lim).2.2) := by
    rw [fieldsJ, decide_eq_false (by omega), decide_eq_false (by omega), hne, decide_eq_false (by omega), hfl, decide_eq_false (by omega)]
   rw [hJ] at hF
   (with_reducible refine hE _ _ _ _ (nomatch ·) ?_)
   (repeat simp only[push_cast,go_sem_proc,↓ite_only,M_block])
   exact hX' _ _ _ _ _ _ hF (Row.nil _ _ _ _) ((hx03.new _).putNew (by omega) _) (by rw [at_put_ne _ _ (by omega), at_new_ne _ _ (by omega), hat3, hpc]) (by simp only[zT,Nat.reduceBEq]) (by simp only[zT,Nat.reduceBEq])
  ·have hJ : fieldsJ (f + 1) lim out = ((fieldsJ f (lim.drop (lineL lim).2.2) (out ++ [fl.1])).1, (fieldsJ f (lim.drop (lineL lim).2.2) (out ++ [fl.1])).2.1, (lineL lim).2.2 + (fieldsJ f (lim.drop (lineL lim).2.2) (out ++ [fl.1])).2.2) := by
    rw [fieldsJ, decide_eq_false (by omega), decide_eq_false (by omega), hne, decide_eq_false (by omega), hfl, decide_eq_true (by omega)]
   intro c0
   generalize hH : Heap.new (Heap.put _ _ _) _ = h5
   have hat5 : h5.at (h3.n + 1) = some (.cells [S fl.1.1, S fl.1.2] 60 0 0) := by rw [← hH]; exact at_new_eq _ _
   have hn5 : h5.n = h3.n + 2 := by rw [← hH]; rfl
   have hold : ∀ b, b < h3.n → h5.at b = h3.at b := fun b hb => by
    rw [← hH, at_new_ne _ _ (by rw [n_put, n_new]; omega), at_put_ne _ _ (by omega), at_new_ne _ _ (by omega)]
   have hsv5 : Flds h.n h5 (.slice a out.length cp) out := hsv3.keep (by omega) (fun b hb _ _ => hold b hb)
   have hx5 : ExtBut r h h5 := ⟨by omega, fun c hc hb => (hold c (by omega)).trans (hx03.2 c hc hb)⟩
   obtain ⟨sv', h6, e6, hsv6, hn6, hold6, _⟩ := app_fld (c := c0) (N := w0.heap.size) hsv5 hN (by omega) hat5 (by omega)
   rw [e6]
   obtain ⟨a', cp', hsve⟩ := hsv6.len
   have hof : ∀ b, b < h.n → Off b (.slice a out.length cp) := fun b hb => hsv5.off hb
   (repeat simp only[push_cast,go_sem_proc,↓ite_only,M_block])
   refine hR _ _ (l.length - (q + (lineL lim).2.2)) (by omega) ⟨q + (lineL lim).2.2, out ++ [fl.1], sv', f - 1, by omega, by omega, rfl, ?_, ?_, hsv6, ‹_›, (by simp only[zT,Nat.reduceBEq]), by simp; omega, by omega, ?_⟩
   ·exact ⟨by omega, fun c hc hb => (hold6 c (by omega) (hof c hc)).trans (hx5.2 c hc hb)⟩
   ·rw [hold6 r (by omega) (hof r hrn), hold r (by omega), hat3]
   ·rw [hF, hJ, show f - 1 + 1 = f by omega, ← List.drop_drop, e2]
    refine congrArg (Prod.mk _) (congrArg (Prod.mk _) ?_)
    simp only []
    omega
end Go.Proofs.YtbjaapiliegegaaGreatDoor.Sy
end
section
namespace Go.Proofs.YtbjaapiliegegaaGreatDoor.Sy
open Go
set_option maxRecDepth 100000
variable {w0 : World} {h : Heap}
attribute [push_cast] afill_row
def Short (fs : List Fld) : Prop := ∀ f ∈ fs, f.1.length < 1099511627776 ∧ f.2.length < 1099511627776
theorem Short.at {fs : List Fld} (hs : Short fs) {k : Nat} (hk : k < fs.length) : (fnth fs k).1.length < 1099511627776 ∧ (fnth fs k).2.length < 1099511627776 :=
 hs _ (List.mem_of_getElem? (fnth_get hk))
theorem ftake_snoc (l : List Fld) (k : Nat) (hk : k < l.length) : l.take (k + 1) = l.take k ++ [fnth l k] := by
 rw [List.take_add_one, fnth_get hk]
 rfl
theorem stake_snoc (l : List Str) (k : Nat) (hk : k < l.length) : l.take (k + 1) = l.take k ++ [snth l k] := by
 rw [List.take_add_one, snth_get hk]
 rfl
def isName (name : Str) (f : Fld) : Bool := sameL (canonL true f.1) name
def valsL (fs : List Fld) (name : Str) : List Str := (fs.filter (isName name)).map (·.2)
theorem vals_snoc (fs : List Fld) (name : Str) (k : Nat) (hk : k < fs.length) : valsL (fs.take (k + 1)) name = valsL (fs.take k) name ++ (match isName name (fnth fs k) with | true => [(fnth fs k).2] | false => []) := by
 unfold valsL
 rw [ftake_snoc fs k hk, List.filter_append, List.map_append]
 cases hb : isName name (fnth fs k) <;> simp [hb]
theorem vals_len (fs : List Fld) (name : Str) : (valsL fs name).length ≤ fs.length := by
 unfold valsL
 rw [List.length_map]
 exact List.length_filter_le _ _
set_option maxHeartbeats 4000000 in
theorem values_ok (fs : List Fld) (name : Str) (lo : Nat) (v0 : Value) (hv : Flds lo h v0 fs) (hs : Short fs) (hc : fs.length < 1000000) :
  ACall Tryz.prog w0 54 [v0, S name] h (fun v h' => Strs h.n h' v (valsL fs name) ∧ Ext h h') := by
 obtain ⟨a, cp, rfl⟩ := hv.len
 refine ACall.known fun hKn => ?_
 obtain ⟨hN, hB⟩ := hKn
 refine ACall.run noCount mixed Tryz.func54 rfl (by kernel_rfl) (Nat.le_of_ble_eq_true rfl) fun X hX => ?_
 (repeat simp only[push_cast,go_sem_proc,↓ite_only,M_block])
 refine M_loop (fun tm h1 n => ∃ (k : Nat) (sv : Value), k ≤ fs.length ∧ n = fs.length - k ∧ Ext h h1 ∧ Strs h.n h1 sv (valsL (fs.take k) name) ∧ tget tm 10 = I k ∧ tget tm 9 = I fs.length ∧ tget tm 8 = .slice a fs.length cp ∧ tget tm 1 = S name ∧ tget tm 5 = sv) fs.length
  ⟨0, _, by omega, by omega, .refl _, Row.nil _ _ _ _, (by simp only[zT,Nat.reduceBEq];rfl), (by simp only[zT,Nat.reduceBEq]), (by simp only[zT,Nat.reduceBEq]), (by simp only[zT,Nat.reduceBEq]), (by simp only[zT,Nat.reduceBEq])⟩ ?_
 rintro tm1 h1 n R ⟨k, sv, hk, rfl, hx, hsv, t10, t9, t8, t1, t5⟩ hR hE
 rcases Nat.lt_or_ge k fs.length with hlt | hge
 ·obtain ⟨b, cp', rest, hve, _, hbn, hat⟩ := hv.at hlt
  cases hve
  have hat1 := (hx.2 b hbn).trans hat
  have hld := fld_load hat1 hlt
  have hn1 := hx.1
  (repeat simp only[push_cast,go_sem_proc,↓ite_only,M_block,t10, t9, t8, t1, hld])
  repeat' ((with_reducible(first|refine condM_same ?_ ?_|refine condM_nsame ?_ ?_|refine oneM_same ?_ ?_|refine oneM_nsame ?_ ?_|refine oneP_same ?_ ?_|refine oneP_nsame ?_ ?_|refine condM_dec_ ?_ ?_|refine condM_not_ ?_ ?_|refine oneM_dec_ ?_ ?_|refine oneM_not_ ?_ ?_|refine oneP_dec_ ?_ ?_|refine oneP_not_ ?_ ?_|refine condM_bool ?_ ?_|refine oneM_bool ?_ ?_|refine oneP_bool ?_ ?_)<;>intro c) <;> first | (exfalso; first | contradiction | omega) | (try (repeat(first|(simp(disch:=first|omega|decide)only[push_cast,go_sem_proc,↓ite_only,M_block,t10, t9, t8, t1, hld, c])|(with_reducible refine⟨by omega,?_⟩)))))
  refine callM_of (Canonical_ok _ (hs.at hlt).1) ?_
  rintro v h3 ⟨rfl, hx3⟩
  have hn3 : h1.n < h3.n := hx3.1
  have hat7 : h3.at h1.n = some (.cells [S (fnth fs k).1, S (fnth fs k).2] 60 0 0) := (hx3.2 h1.n (Nat.lt_succ_self _)).trans (at_put_eq _ _ _)
  have hx13 : Ext h1 h3 := (((Ext.refl h1).new _).put (Nat.le_refl _) _).trans hx3
  have hx03 : Ext h h3 := hx.trans hx13
  have hsv3 : Strs h.n h3 sv (valsL (fs.take k) name) := hsv.keep hx13.1 (fun b hb _ _ => hx13.2 b hb)
  have hvs := vals_snoc fs name k hlt
  have hvl := vals_len (fs.take k) name
  rw [List.length_take] at hvl
  cases hb : isName name (fnth fs k) with
  | true =>
   rw [hb] at hvs
   have hb' : sameL (canonL true (fnth fs k).1) name = true := hb
   (repeat simp(disch:=omega)only[push_cast,go_sem_proc,↓ite_only,M_block,t10, t1, hb', hat7, t5])
   intro c0
   generalize hH : Heap.new _ _ = h5
   have hat5 : h5.at h3.n = some (.cells [S (fnth fs k).2] 9 0 0) := by rw [← hH]; exact at_new_eq _ _
   have hn5 : h5.n = h3.n + 1 := by rw [← hH]; rfl
   have hold : ∀ b, b < h3.n → h5.at b = h3.at b := fun b hb => by rw [← hH, at_new_ne _ _ (by omega)]
   have hsv5 := hsv3.keep (h' := h5) (by omega) (fun b hb _ _ => hold b hb)
   obtain ⟨sv', h6, e6, hsv6, hn6, hold6, _⟩ := app_str (c := c0) (N := w0.heap.size) hsv5 hN (by omega) hat5 (by omega)
   rw [e6]
   (repeat simp(disch:=omega)only[push_cast,go_sem_proc,↓ite_only,M_block,t10])
   refine hR _ _ (fs.length - (k + 1)) (by omega) ⟨k + 1, sv', by omega, rfl, ⟨by omega, fun c hc => (hold6 c (by omega) (hsv5.off hc)).trans ((hold c (by omega)).trans (hx03.2 c hc))⟩, by rw [hvs]; exact hsv6, (by simp only[zT,Nat.reduceBEq];rfl), ‹_›, ‹_›, ‹_›, (by simp only[zT,Nat.reduceBEq])⟩
  | false =>
   rw [hb, List.append_nil] at hvs
   have hb' : sameL (canonL true (fnth fs k).1) name = false := hb
   (repeat simp(disch:=omega)only[push_cast,go_sem_proc,↓ite_only,M_block,t10, t1, hb', hat7])
   refine hR _ _ (fs.length - (k + 1)) (by omega) ⟨k + 1, sv, by omega, rfl, hx03, by rw [hvs]; exact hsv3, (by simp only[zT,Nat.reduceBEq];rfl), ‹_›, ‹_›, ‹_›, ‹_›⟩
 ·have hke : k = fs.length := by omega
  subst hke
  rw [List.take_length] at hsv
  (repeat simp only[push_cast,go_sem_proc,↓ite_only,M_block,t10, t9, t8])
  repeat' ((with_reducible(first|refine condM_same ?_ ?_|refine condM_nsame ?_ ?_|refine oneM_same ?_ ?_|refine oneM_nsame ?_ ?_|refine oneP_same ?_ ?_|refine oneP_nsame ?_ ?_|refine condM_dec_ ?_ ?_|refine condM_not_ ?_ ?_|refine oneM_dec_ ?_ ?_|refine oneM_not_ ?_ ?_|refine oneP_dec_ ?_ ?_|refine oneP_not_ ?_ ?_|refine condM_bool ?_ ?_|refine oneM_bool ?_ ?_|refine oneP_bool ?_ ?_)<;>intro c) <;> first | (exfalso; first | contradiction | omega) | (try (repeat simp only[push_cast,go_sem_proc,↓ite_only,M_block,t10, t9, t8, c])))
  (with_reducible refine hE _ _ _ _ (nomatch ·) ?_)
  (repeat simp only[push_cast,go_sem_proc,↓ite_only,M_block,t5])
  ((with_reducible refine hX _ _ _ (fun j hj => nomatch hj) ?_); simp only[push_cast,go_sem_proc,↓ite_only,M_block,Tryz.results54])
  exact ⟨hsv, hx⟩
end Go.Proofs.YtbjaapiliegegaaGreatDoor.Sy
end
section
namespace Go.Proofs.YtbjaapiliegegaaGreatDoor.Sy
open Go
set_option maxRecDepth 100000
variable {w0 : World} {h : Heap}
def turned (f : UInt8 → UInt8) (l : List UInt8) (k : Nat) : List UInt8 := (l.take k).map f ++ l.drop k
theorem turned_len (f : UInt8 → UInt8) (l : List UInt8) (k : Nat) : (turned f l k).length = l.length := by
 unfold turned
 rw [List.length_append, List.length_map, List.length_take, List.length_drop]
 omega
theorem turned_nth (f : UInt8 → UInt8) (l : List UInt8) (k : Nat) (hk : k < l.length) : nth (turned f l k) k = nth l k := by
 unfold turned nth
 rw [List.getD_eq_getElem?_getD, List.getD_eq_getElem?_getD, List.getElem?_append_right (by rw [List.length_map, List.length_take]; omega), List.length_map, List.length_take, Nat.min_eq_left (by omega), Nat.sub_self, List.getElem?_drop]
 rfl
theorem turned_set (f : UInt8 → UInt8) (l : List UInt8) (k : Nat) (hk : k < l.length) : (turned f l k).set k (f (nth l k)) = turned f l (k + 1) := by
 unfold turned
 have hkl : ((l.take k).map f).length = k := by rw [List.length_map, List.length_take]; omega
 have hd : l.drop k = nth l k :: l.drop (k + 1) := by
  rw [List.drop_eq_getElem_cons hk]
  congr 1
  unfold nth
  rw [List.getD_eq_getElem?_getD, List.getElem?_eq_getElem hk]
  rfl
 rw [List.set_append_right _ _ (by omega), hkl, Nat.sub_self, hd, List.set_cons_zero, take_snoc l k hk, List.map_append, List.append_assoc]
 rfl
theorem turned_same (f : UInt8 → UInt8) (l : List UInt8) (k : Nat) (hk : k < l.length) (hf : f (nth l k) = nth l k) : turned f l (k + 1) = turned f l k := by
 rw [← turned_set f l k hk, hf]
 refine List.ext_getElem? fun i => ?_
 rw [List.getElem?_set]
 split
 ·rename_i hi
  subst hi
  rw [if_pos (by rw [turned_len]; exact hk), ← turned_nth f l k hk]
  exact (nth_get (by rw [turned_len]; exact hk)).symm
 ·rfl
theorem turned_put (f : UInt8 → UInt8) (l : List UInt8) (k : Nat) (r : List Value) (c : UInt8) (hk : k < l.length) (hc : f (nth l k) = c) :
  splice (byteVals (turned f l k) ++ r) k [.int .u8 (c.toNat : Int)] = byteVals (turned f l (k + 1)) ++ r := by
 rw [splice_byte _ _ _ _ (by rw [turned_len]; exact hk), ← hc, turned_set f l k hk]
theorem low_up {b : UInt8} (h : 65 ≤ (b.toNat : Int) ∧ (b.toNat : Int) ≤ 90) : lowB' b = b + 32 := if_pos (by omega)
theorem low_no {b : UInt8} (h : ¬(65 ≤ (b.toNat : Int) ∧ (b.toNat : Int) ≤ 90)) : lowB' b = b := if_neg (by omega)
set_option maxHeartbeats 2000000 in
theorem lower_ok (l : List UInt8) (hl : l.length < 1099511627776) :
  ACall Tryz.prog w0 74 [S l] h (fun v h' => v = S (l.map lowB') ∧ Ext h h') := by
 refine ACall.known fun hKn => ?_
 obtain ⟨hN, hB⟩ := hKn
 refine ACall.run noCount mixed Tryz.func74 rfl (by kernel_rfl) (Nat.le_of_ble_eq_true rfl) fun X hX => ?_
 (repeat simp only[push_cast,go_sem_proc,↓ite_only,M_block])
 intro c0
 have hge := room_ge l.length c0
 generalize room l.length c0 = cap at hge
 (repeat(first|(simp only[push_cast,go_sem_proc,↓ite_only,M_block])|(with_reducible refine⟨by omega,?_⟩)))
 refine M_loop (fun tm h1 n => ∃ k : Nat, k ≤ l.length ∧ n = l.length - k ∧ Ext h h1 ∧ h1.at h.n = some (.cells (byteVals (turned lowB' l k) ++ List.replicate (cap - l.length) (.int .u8 0)) 5 cap (cap + 1)) ∧
   tget tm 10 = I k ∧ tget tm 9 = I l.length ∧ tget tm 8 = .slice (some ⟨h.n, 0, none⟩) l.length cap ∧ tget tm 3 = .slice (some ⟨h.n, 0, none⟩) l.length cap) l.length
  ⟨0, by omega, by omega, (Ext.refl _).new _, by rw [at_new_eq]; rfl, (by simp only[zT,Nat.reduceBEq];rfl), (by simp only[zT,Nat.reduceBEq]), (by simp only[zT,Nat.reduceBEq]), (by simp only[zT,Nat.reduceBEq])⟩ ?_
 rintro tm1 h1 n R ⟨k, hk, rfl, hx, hat, t10, t9, t8, t3⟩ hR hE
 have hml := turned_len lowB' l k
 have hnm := turned_nth lowB' l k
 (repeat simp only[push_cast,go_sem_proc,↓ite_only,M_block,t10, t9, t8, t3, hat, byteVals_app_get, hml, hnm, u8_add32])
 repeat' ((with_reducible(first|refine condM_same ?_ ?_|refine condM_nsame ?_ ?_|refine oneM_same ?_ ?_|refine oneM_nsame ?_ ?_|refine oneP_same ?_ ?_|refine oneP_nsame ?_ ?_|refine condM_dec_ ?_ ?_|refine condM_not_ ?_ ?_|refine oneM_dec_ ?_ ?_|refine oneM_not_ ?_ ?_|refine oneP_dec_ ?_ ?_|refine oneP_not_ ?_ ?_|refine condM_bool ?_ ?_|refine oneM_bool ?_ ?_|refine oneP_bool ?_ ?_)<;>intro c) <;> first | (exfalso; first | contradiction | omega) | (try (repeat(first|(simp(disch:=omega)only[push_cast,go_sem_proc,↓ite_only,M_block,t10, t9, t8, t3, hat, byteVals_app_get, hml, hnm, u8_add32, c])|(with_reducible refine And.intro ?_ ?_;focus(first|omega|(simp only[zL,t10, t9, t8, t3, hat, byteVals_app_get, hml, hnm, u8_add32, c];omega)))))))
 ·have hlt : k < l.length := by omega
  refine hR _ _ (l.length - (k + 1)) (by omega) ⟨k + 1, by omega, rfl, hx.put (Nat.le_refl _) _, ?_, (by simp only[zT,Nat.reduceBEq];rfl), ‹_›, ‹_›, ‹_›⟩
  rw [at_put_eq, turned_put lowB' l k _ _ hlt (low_up (by omega))]
 ·have hlt : k < l.length := by omega
  refine hR _ _ (l.length - (k + 1)) (by omega) ⟨k + 1, by omega, rfl, hx, ?_, (by simp only[zT,Nat.reduceBEq];rfl), ‹_›, ‹_›, ‹_›⟩
  rw [turned_same lowB' l k hlt (low_no (by omega))]; exact hat
 ·have hlt : k < l.length := by omega
  refine hR _ _ (l.length - (k + 1)) (by omega) ⟨k + 1, by omega, rfl, hx, ?_, (by simp only[zT,Nat.reduceBEq];rfl), ‹_›, ‹_›, ‹_›⟩
  rw [turned_same lowB' l k hlt (low_no (by omega))]; exact hat
 ·have hke : k = l.length := by omega
  subst hke
  have hall : turned lowB' l l.length = l.map lowB' := by unfold turned; rw [List.take_length, List.drop_length, List.append_nil]
  rw [hall] at hat
  have hld := loadN_bytes hat (show l.length = (l.map lowB').length by rw [List.length_map])
  (with_reducible refine hE _ _ _ _ (nomatch ·) ?_)
  (repeat simp only[push_cast,go_sem_proc,↓ite_only,M_block,t3, hld, bytesOf_vals])
  ((with_reducible refine hX _ _ _ (fun j hj => nomatch hj) ?_); simp only[push_cast,go_sem_proc,↓ite_only,M_block,Tryz.results74])
  exact hx
def splitC : Str → List Str
 | [] => [[]]
 | b :: l => match decide (b.toNat = 44), splitC l with
  | true, r => [] :: r
  | false, [] => [[b]]
  | false, x :: r => (b :: x) :: r
def listL (s : Str) : List Str := (splitC s).map trimB
def noCom (c : UInt8) : Bool := decide (c.toNat ≠ 44)
theorem split_end : ∀ (m : Str), m.all noCom = true → splitC m = [m]
 | [], _ => rfl
 | b :: m, h => by
  rw [List.all_cons, Bool.and_eq_true] at h
  have hb : ¬b.toNat = 44 := by simpa [noCom] using h.1
  simp only [splitC, decide_eq_false hb, split_end m h.2]
theorem split_at : ∀ (m : Str) (j : Nat), j < m.length → (m.take j).all noCom = true → (nth m j).toNat = 44 → splitC m = m.take j :: splitC (m.drop (j + 1))
 | [], _, h, _, _ => by simp at h
 | b :: m, 0, _, _, h => by
  have hb : b.toNat = 44 := h
  simp only [splitC, decide_eq_true hb]
  rfl
 | b :: m, j + 1, hj, ha, h => by
  rw [List.take_succ_cons, List.all_cons, Bool.and_eq_true] at ha
  have hb : ¬b.toNat = 44 := by simpa [noCom] using ha.1
  simp only [splitC, decide_eq_false hb, split_at m j (by simpa using hj) ha.2 h]
  rfl
end Go.Proofs.YtbjaapiliegegaaGreatDoor.Sy
end
