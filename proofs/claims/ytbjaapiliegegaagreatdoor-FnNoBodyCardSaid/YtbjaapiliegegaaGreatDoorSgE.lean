/- Of the proof of FnNoBody: SgE. -/
import Derived.Test.YtbjaapiliegegaaGreatDoorScL
import Derived.Test.YtbjaapiliegegaaGreatDoorNb24
set_option linter.unusedVariables false
set_option linter.unusedSimpArgs false
namespace Go.Proofs.YtbjaapiliegegaaGreatDoor.Sy
open Go
set_option maxRecDepth 100000
variable {w0 : World} {h : Heap}
def sHead : Str := [72, 69, 65, 68]
def sConn : Str := [67, 79, 78, 78, 69, 67, 84]
def respV (meth l : Str) : Nat :=
 if (lineL l).2.1 = 1 then 1 else if (lineL l).2.1 ≠ 0 then 3 else
 if (partsL (lineL l).1).2.2.2 = false then 3 else if (partsL (lineL l).1).2.1 = [] then 3 else
 if (versionL (partsL (lineL l).1).1).2.2 = false then 1 else if (versionL (partsL (lineL l).1).1).1 ≠ 1 ∨ 1 < (versionL (partsL (lineL l).1).1).2.1 then 3 else
 if (nth (partsL (lineL l).1).2.1 0).toNat = 43 ∨ (nth (partsL (lineL l).1).2.1 0).toNat = 45 then 3 else
 if (partsL (lineL l).1).2.1.length ≠ 3 ∨ (numberL (partsL (lineL l).1).2.1).2 = false then 1 else
 if (numberL (partsL (lineL l).1).2.1).1 < 100 ∨ contentL (partsL (lineL l).1).2.2.1 = false then 3 else
 if (fieldsL (l.drop (lineL l).2.2)).2.1 ≠ 0 then (fieldsL (l.drop (lineL l).2.2)).2.1 else
 if meth = sConn ∨ (meth ≠ [] ∧ tokL meth = false) then 3 else 0
def respCode (l : Str) : Nat := (numberL (partsL (lineL l).1).2.1).1
def respFs (l : Str) : List Fld := (fieldsL (l.drop (lineL l).2.2)).1
def respAt (l : Str) : Nat := (lineL l).2.2 + (fieldsL (l.drop (lineL l).2.2)).2.2
def respM (l : Str) (sv : Value) : Rd := ⟨[], [], respCode l, (partsL (lineL l).1).2.2.1, (versionL (partsL (lineL l).1).1).1, (versionL (partsL (lineL l).1).1).2.1, sv, .slice none 0 0, .slice none 0 0, [], 0, false, false, 0⟩
def noneR (meth : Str) (n : Nat) : Prop := meth = sHead ∨ n < 200 ∨ n = 204 ∨ n = 304
def RespEnd (meth l : Str) (rd : Rd) (vd : Nat) (h' : Heap) : Prop :=
 (respV meth l ≠ 0 → vd = respV meth l) ∧
 (respV meth l = 0 → ∃ sv, TEnd (respM l sv) (respFs l) ((l.length : Int) - respAt l) (valsL (respFs l) sTE) (valsL (respFs l) sCL) (valsL (respFs l) sCo) (valsL (respFs l) sPr) false rd vd h')
theorem parts_len (s : Str) : (partsL s).1.length ≤ s.length ∧ (partsL s).2.1.length ≤ s.length ∧ (partsL s).2.2.1.length ≤ s.length := by
 have h1 := (List.takeWhile_sublist (l := s) noSp).length_le
 have h2 := (List.takeWhile_sublist (l := s.drop ((s.takeWhile noSp).length + 1)) noSp).length_le
 unfold partsL
 simp only
 cases decide ((s.takeWhile noSp).length + 1 + ((s.drop ((s.takeWhile noSp).length + 1)).takeWhile noSp).length < s.length) with
 | true => exact ⟨h1, by rw [List.length_drop] at h2; simp only; omega, by simp only [List.length_drop]; omega⟩
 | false => simp
theorem line_le (m : Str) : (lineL m).2.2 ≤ m.length := by
 unfold lineL lineJ
 have := (List.takeWhile_sublist (l := m) noLF).length_le
 generalize (m.takeWhile noLF).length = j at *
 cases h1 : decide (j < m.length) with
 | false => simp
 | true =>
  have := of_decide_eq_true h1
  cases decide (0 < j ∧ (nth m (j - 1)).toNat = 13) with
  | false => simp
  | true =>
   cases (m.take (j - 1)).contains 13 with
   | true => simp; omega
   | false => simp; omega
theorem fieldsJ_take : ∀ (f : Nat) (m : Str) (out : List Fld), (fieldsJ f m out).2.2 ≤ m.length
 | 0, m, out => Nat.zero_le _
 | f + 1, m, out => by
  have h1 := line_le m
  have h2 := fieldsJ_take f (m.drop (lineL m).2.2) (out ++ [(fieldL (lineL m).1 out.isEmpty).1])
  rw [List.length_drop] at h2
  unfold fieldsJ
  split <;> simp only <;> omega
theorem fields_take (m : Str) : (fieldsL m).2.2 ≤ m.length := fieldsJ_take _ m []
set_option maxHeartbeats 16000000 in
theorem response_ok (meth l : Str) (d : Value) (hl : l.length < 1000000) (hm : meth.length < 1000000000) (hd : Data h d l) (hdo : ∀ b, InB b d → b < h.n) (hnone : respV meth l = 0 → noneR meth (respCode l)) :
  ACall Tryz.prog w0 19 [S meth, d] h (fun v h' => ∃ (rd : Rd) (vd : Nat), v = .tuple #[rd.val, I vd] ∧ Ext h h' ∧ RespEnd meth l rd vd h' ∧ Sgl rd) := by
 obtain ⟨a, cp, rfl⟩ := hd.len
 refine ACall.known fun hKn => ?_
 obtain ⟨hN, hB⟩ := hKn
 refine ACall.run noCount mixed Tryz.func19 rfl (by kernel_rfl) (Nat.le_of_ble_eq_true rfl) fun X hX => ?_
 have hX' : ∀ (tm : Tm) (h2 : Heap) (rd : Rd) (vd : Nat), Ext h h2 → h2.at h.n = some (.cells rd.cells 35 0 0) → tget tm 4 = ptr h.n 0 → tget tm 5 = I vd → Sgl rd → RespEnd meth l rd vd h2 → X .ret tm [] h2 := by
  intro tm h2 rd vd e1 e2 e3 e4 e6 e5
  unfold Rd.cells at e2
  ((with_reducible refine hX _ _ _ (fun j hj => nomatch hj) ?_); simp only[push_cast,go_sem_proc,↓ite_only,M_block,Tryz.results19,e2, e3, e4])
  exact ⟨rd, vd, rfl, e1, e5, e6⟩
 have hZ : ∀ (tm : Tm) (h2 : Heap) (vd : Nat), Keep [] h h2 → tget tm 4 = ptr h.n 0 → tget tm 5 = I vd → 0 < vd → respV meth l = vd → X .ret tm [] (h2.put h.n (.cells Rd.zero.cells 35 0 0)) := by
  intro tm h2 vd e1 e3 e4 e5 e6
  exact hX' _ _ Rd.zero vd (Ext.put e1.ext (Nat.le_refl _) _) (at_put_eq _ _ _) e3 e4 ⟨rfl, rfl, rfl⟩ ⟨fun _ => e6.symm, fun e => by omega⟩
 clear hX
 (repeat simp only[push_cast,go_sem_proc,↓ite_only,M_block])
 generalize hhe : Heap.new (Heap.new h _) _ = h1
 have n1 : h1.n = h.n + 2 := by rw [← hhe]; rfl
 have x1 : Ext h h1 := by rw [← hhe]; exact ((Ext.refl h).new _).new _
 have z1 : h1.at h.n = some (.cells Rd.zero.cells 35 0 0) := by rw [← hhe, at_new_ne _ _ (by rw [n_new]; omega)]; exact at_new_eq _ _
 have r1 : h1.at (h.n + 1) = some (.cells [.slice a l.length cp, I ((0 : Nat) : Int)] 64 0 0) := by rw [← hhe]; exact at_new_eq _ _
 clear hhe
 unfold Rd.zero Rd.cells at z1
 have hdr : ¬InB (h.n + 1) (.slice a l.length cp) := fun hb => by have := hdo _ hb; omega
 have hdk : ∀ h', ExtBut (h.n + 1) h1 h' → Data h' (.slice a l.length cp) l := fun h' x => hd.keep (fun b ⟨o, ho⟩ hb => by have := hdo b hb; exact (x.2 b (by omega) (by omega)).trans (x1.2 b this))
 refine callM_of (line_ok l _ (h.n + 1) 0 (by omega) (by omega) (Nat.zero_le _) r1 (hdk _ (ExtBut.refl _ _)) hdr) ?_
 rintro v h2 ⟨rfl, x2, r2⟩
 rw [List.drop_zero, Nat.zero_add] at r2
 rw [List.drop_zero]
 have hR3 : ∀ h', Ext h2 h' → Ext h h' := fun h' x => ⟨by have := x1.1; have := x2.1; have := x.1; omega, fun b hb => (x.2 b (by have := x2.1; omega)).trans ((x2.2 b (by omega) (by omega)).trans (x1.2 b hb))⟩
 have n2 := x2.1
 have z2 := (x2.2 _ (by omega) (by omega)).trans z1
 by_cases c0 : (lineL l).2.1 = 0
 rotate_left
 ·have d0 : decide (((lineL l).2.1 : Int) = 0) = false := decide_eq_false (by omega)
  (repeat simp only[push_cast,go_sem_proc,↓ite_only,M_block,d0])
  refine callM_of (fault1_ok _) ?_
  rintro v h3 ⟨rfl, x3⟩
  have z3 := (x3.2 _ (by omega)).trans z2
  have k3 : Keep [] h h3 := (hR3 _ x3).keep []
  by_cases c1 : (lineL l).2.1 = 1
  ·rw [show fault1L ((lineL l).2.1 : Int) = ((1 : Nat) : Int) by unfold fault1L; rw [decide_eq_true (by omega)]; rfl]
   (repeat(first|(simp(disch:=decide)only[push_cast,go_sem_proc,↓ite_only,M_block,z3])|(with_reducible refine⟨by omega,?_⟩)))
   exact hZ _ _ 1 (by repeat (first | exact Keep.refl _ _ | assumption | refine Keep.put ?_ (by first | (left; simp; done) | (right; omega)) _ | refine Keep.new ?_ _)) (by simp only[zT,Nat.reduceBEq]) (by simp only[zT,Nat.reduceBEq];rfl) (by omega) (by unfold respV; rw [if_pos c1])
  ·rw [show fault1L ((lineL l).2.1 : Int) = ((3 : Nat) : Int) by unfold fault1L; rw [decide_eq_false (by omega)]; rfl]
   (repeat(first|(simp(disch:=decide)only[push_cast,go_sem_proc,↓ite_only,M_block,z3])|(with_reducible refine⟨by omega,?_⟩)))
   exact hZ _ _ 3 (by repeat (first | exact Keep.refl _ _ | assumption | refine Keep.put ?_ (by first | (left; simp; done) | (right; omega)) _ | refine Keep.new ?_ _)) (by simp only[zT,Nat.reduceBEq]) (by simp only[zT,Nat.reduceBEq];rfl) (by omega) (by unfold respV; rw [if_neg c1, if_pos c0])
 have d0 : decide (((lineL l).2.1 : Int) = 0) = true := decide_eq_true (by omega)
 have hV0 : ∀ n, (if (partsL (lineL l).1).2.2.2 = false then 3 else if (partsL (lineL l).1).2.1 = [] then 3 else
  if (versionL (partsL (lineL l).1).1).2.2 = false then 1 else if (versionL (partsL (lineL l).1).1).1 ≠ 1 ∨ 1 < (versionL (partsL (lineL l).1).1).2.1 then 3 else
  if (nth (partsL (lineL l).1).2.1 0).toNat = 43 ∨ (nth (partsL (lineL l).1).2.1 0).toNat = 45 then 3 else
  if (partsL (lineL l).1).2.1.length ≠ 3 ∨ (numberL (partsL (lineL l).1).2.1).2 = false then 1 else
  if (numberL (partsL (lineL l).1).2.1).1 < 100 ∨ contentL (partsL (lineL l).1).2.2.1 = false then 3 else
  if (fieldsL (l.drop (lineL l).2.2)).2.1 ≠ 0 then (fieldsL (l.drop (lineL l).2.2)).2.1 else
  if meth = sConn ∨ (meth ≠ [] ∧ tokL meth = false) then 3 else 0) = n → respV meth l = n := by
  intro n hn
  unfold respV
  rw [if_neg (by omega), if_neg (by omega)]
  exact hn
 obtain ⟨lt1, lt2, lt3⟩ := line_take c0
 obtain ⟨p, hp⟩ : ∃ p, (lineL l).2.2 = p := ⟨_, rfl⟩
 rw [hp] at r2 lt1 lt2
 (repeat simp only[push_cast,go_sem_proc,↓ite_only,M_block,d0])
 refine callM_of (parts_ok (lineL l).1 (by omega)) ?_
 rintro v h3 ⟨rfl, x3⟩
 have n3 := x3.1
 have z3 := (x3.2 _ (by omega)).trans z2
 have k3 : Keep [] h h3 := (hR3 _ x3).keep []
 obtain ⟨a', b, c, ok, hP⟩ : ∃ a b c ok, partsL (lineL l).1 = (a, b, c, ok) := ⟨_, _, _, _, rfl⟩
 have hPl : a'.length < 1000000 ∧ b.length < 1000000 ∧ c.length < 1000000 := by
  have := parts_len (lineL l).1
  rw [hP] at this
  simp only at this
  omega
 rw [hP] at hV0 ⊢
 simp only at hV0
 cases ok with
 | false =>
  (repeat(first|(simp(disch:=decide)only[push_cast,go_sem_proc,↓ite_only,M_block,z3])|(with_reducible refine⟨by omega,?_⟩)))
  exact hZ _ _ 3 (by repeat (first | exact Keep.refl _ _ | assumption | refine Keep.put ?_ (by first | (left; simp; done) | (right; omega)) _ | refine Keep.new ?_ _)) (by simp only[zT,Nat.reduceBEq]) (by simp only[zT,Nat.reduceBEq];rfl) (by omega) (hV0 _ (by rw [if_pos rfl]))
 | true =>
  by_cases hb : b = []
  ·have sb : sameL b [] = true := sameL_true hb
   (repeat(first|(simp(disch:=decide)only[push_cast,go_sem_proc,↓ite_only,M_block,sb, z3])|(with_reducible refine⟨by omega,?_⟩)))
   exact hZ _ _ 3 (by repeat (first | exact Keep.refl _ _ | assumption | refine Keep.put ?_ (by first | (left; simp; done) | (right; omega)) _ | refine Keep.new ?_ _)) (by simp only[zT,Nat.reduceBEq]) (by simp only[zT,Nat.reduceBEq];rfl) (by omega) (hV0 _ (by rw [if_neg (by simp), if_pos hb]))
  have sb : sameL b [] = false := sameL_false hb
  (repeat simp only[push_cast,go_sem_proc,↓ite_only,M_block,sb])
  generalize hhe : Heap.new h3 _ = h4
  have n4 : h4.n = h3.n + 1 := by rw [← hhe]; rfl
  have x4 : Ext h3 h4 := by rw [← hhe]; exact (Ext.refl _).new _
  have m4 : h4.at h3.n = some (.cells Rd.zero.cells 35 0 0) := by rw [← hhe]; exact at_new_eq _ _
  clear hhe
  unfold Rd.zero Rd.cells at m4
  refine callM_of (version_ok a') ?_
  rintro v h5 ⟨rfl, x5⟩
  have n5 := x5.1
  have m5 := (x5.2 _ (by omega)).trans m4
  obtain ⟨maj, min, vok, hVe⟩ : ∃ x y z, versionL a' = (x, y, z) := ⟨_, _, _, rfl⟩
  rw [hVe] at hV0 ⊢
  simp only at hV0
  have z5 := (x5.2 _ (by omega)).trans ((x4.2 _ (by omega)).trans z3)
  have k5 : Keep [] h h5 := k3.trans ((x4.trans x5).keep [])
  cases vok with
  | false =>
   (repeat(first|(simp(disch:=first|omega|decide|(simp only[zN];omega))only[push_cast,go_sem_proc,↓ite_only,M_block,m5, z5])|(with_reducible refine⟨by omega,?_⟩)))
   exact hZ _ _ 1 (by repeat (first | exact Keep.refl _ _ | assumption | refine Keep.put ?_ (by first | (left; simp; done) | (right; omega)) _ | refine Keep.new ?_ _)) (by simp only[zT,Nat.reduceBEq]) (by simp only[zT,Nat.reduceBEq];rfl) (by omega) (hV0 _ (by rw [if_neg (by simp), if_neg hb, if_pos rfl]))
  | true =>
   have hV1 : ∀ n, (if maj ≠ 1 ∨ 1 < min then 3 else if (nth b 0).toNat = 43 ∨ (nth b 0).toNat = 45 then 3 else
    if b.length ≠ 3 ∨ (numberL b).2 = false then 1 else if (numberL b).1 < 100 ∨ contentL c = false then 3 else
    if (fieldsL (l.drop (lineL l).2.2)).2.1 ≠ 0 then (fieldsL (l.drop (lineL l).2.2)).2.1 else if meth = sConn ∨ (meth ≠ [] ∧ tokL meth = false) then 3 else 0) = n → respV meth l = n := by
    intro n hn
    refine hV0 n ?_
    rw [if_neg (by simp), if_neg hb, if_neg (by simp)]
    exact hn
   by_cases hmj : maj = 1
   rotate_left
   ·have dm : decide ((maj : Int) = 1) = false := decide_eq_false (by omega)
    (repeat(first|(simp(disch:=first|omega|decide|(simp only[zN];omega))only[push_cast,go_sem_proc,↓ite_only,M_block,m5, z5, dm])|(with_reducible refine⟨by omega,?_⟩)))
    exact hZ _ _ 3 (by repeat (first | exact Keep.refl _ _ | assumption | refine Keep.put ?_ (by first | (left; simp; done) | (right; omega)) _ | refine Keep.new ?_ _)) (by simp only[zT,Nat.reduceBEq]) (by simp only[zT,Nat.reduceBEq];rfl) (by omega) (hV1 _ (by rw [if_pos (.inl hmj)]))
   subst hmj
   by_cases hmn : 1 < min
   ·have dm : decide ((1 : Int) < (min : Int)) = true := decide_eq_true (by omega)
    (repeat(first|(simp(disch:=first|omega|decide)only[push_cast,go_sem_proc,↓ite_only,M_block,m5, z5, dm])|(with_reducible refine⟨by omega,?_⟩)))
    exact hZ _ _ 3 (by repeat (first | exact Keep.refl _ _ | assumption | refine Keep.put ?_ (by first | (left; simp; done) | (right; omega)) _ | refine Keep.new ?_ _)) (by simp only[zT,Nat.reduceBEq]) (by simp only[zT,Nat.reduceBEq];rfl) (by omega) (hV1 _ (by rw [if_pos (.inr hmn)]))
   have dm : decide ((1 : Int) < (min : Int)) = false := decide_eq_false (by omega)
   have hbl0 : 0 < b.length := List.length_pos_iff.2 hb
   by_cases hs1 : (nth b 0).toNat = 43
   ·have d1 : ((nth b 0).toNat : Int) = 43 := by omega
    (repeat(first|(simp(disch:=first|omega|decide)only[push_cast,go_sem_proc,↓ite_only,M_block,m5, z5, dm, d1])|(with_reducible refine⟨by omega,?_⟩)))
    exact hZ _ _ 3 (by repeat (first | exact Keep.refl _ _ | assumption | refine Keep.put ?_ (by first | (left; simp; done) | (right; omega)) _ | refine Keep.new ?_ _)) (by simp only[zT,Nat.reduceBEq]) (by simp only[zT,Nat.reduceBEq];rfl) (by omega) (hV1 _ (by rw [if_neg (by omega), if_pos (.inl hs1)]))
   have d1 : decide (((nth b 0).toNat : Int) = 43) = false := decide_eq_false (by omega)
   by_cases hs2 : (nth b 0).toNat = 45
   ·have d2 : ((nth b 0).toNat : Int) = 45 := by omega
    (repeat(first|(simp(disch:=first|omega|decide)only[push_cast,go_sem_proc,↓ite_only,M_block,m5, z5, dm, d1, d2])|(with_reducible refine⟨by omega,?_⟩)))
    exact hZ _ _ 3 (by repeat (first | exact Keep.refl _ _ | assumption | refine Keep.put ?_ (by first | (left; simp; done) | (right; omega)) _ | refine Keep.new ?_ _)) (by simp only[zT,Nat.reduceBEq]) (by simp only[zT,Nat.reduceBEq];rfl) (by omega) (hV1 _ (by rw [if_neg (by omega), if_pos (.inr hs2)]))
   have d2 : decide (((nth b 0).toNat : Int) = 45) = false := decide_eq_false (by omega)
   have hV2 : ∀ n, (if b.length ≠ 3 ∨ (numberL b).2 = false then 1 else if (numberL b).1 < 100 ∨ contentL c = false then 3 else
    if (fieldsL (l.drop (lineL l).2.2)).2.1 ≠ 0 then (fieldsL (l.drop (lineL l).2.2)).2.1 else if meth = sConn ∨ (meth ≠ [] ∧ tokL meth = false) then 3 else 0) = n → respV meth l = n := by
    intro n hn
    refine hV1 n ?_
    rw [if_neg (by omega), if_neg (by omega)]
    exact hn
   (repeat(first|(simp(disch:=first|omega|decide)only[push_cast,go_sem_proc,↓ite_only,M_block,m5, z5, dm, d1, d2])|(with_reducible refine⟨by omega,?_⟩)))
   generalize hhe : Heap.put _ h3.n _ = h6
   have k6 : Keep [] h h6 := by rw [← hhe]; exact (by repeat (first | exact Keep.refl _ _ | assumption | refine Keep.put ?_ (by first | (left; simp; done) | (right; omega)) _ | refine Keep.new ?_ _))
   have m6 : h6.at h3.n = some (.cells [S [], S [], I 0, S [], I 1, I min, .slice none 0 0, .slice none 0 0, .slice none 0 0, S [], I 0, .bool false, .bool false, I 0] 35 0 0) := by rw [← hhe]; exact at_put_eq _ _ _
   have k56 : Keep [h3.n] h5 h6 := by rw [← hhe]; exact (by repeat (first | exact Keep.refl _ _ | assumption | refine Keep.put ?_ (by first | (left; simp; done) | (right; omega)) _ | refine Keep.new ?_ _))
   clear hhe
   have n6 := k56.1
   have z6 := (k56.2 h.n (by omega) (by simp; omega)).trans z5
   refine callM_of (number_ok b (by omega)) ?_
   rintro v h7 ⟨rfl, x7⟩
   have n7 := x7.1
   have m7 := (x7.2 _ (by omega)).trans m6
   have z7 := (x7.2 _ (by omega)).trans z6
   have k7 : Keep [] h h7 := k6.trans (x7.keep [])
   obtain ⟨n, nok, hN⟩ : ∃ n o, numberL b = (n, o) := ⟨_, _, rfl⟩
   rw [hN] at hV2 ⊢
   simp only at hV2
   by_cases hb3 : b.length = 3
   rotate_left
   ·have d3 : decide ((b.length : Int) = 3) = false := decide_eq_false (by omega)
    (repeat(first|(simp(disch:=decide)only[push_cast,go_sem_proc,↓ite_only,M_block,m7, z7, d3])|(with_reducible refine⟨by omega,?_⟩)))
    exact hZ _ _ 1 (by repeat (first | exact Keep.refl _ _ | assumption | refine Keep.put ?_ (by first | (left; simp; done) | (right; omega)) _ | refine Keep.new ?_ _)) (by simp only[zT,Nat.reduceBEq]) (by simp only[zT,Nat.reduceBEq];rfl) (by omega) (hV2 _ (by rw [if_pos (.inl hb3)]))
   have d3 : decide ((b.length : Int) = 3) = true := decide_eq_true (by omega)
   cases nok with
   | false =>
    (repeat(first|(simp(disch:=decide)only[push_cast,go_sem_proc,↓ite_only,M_block,m7, z7, d3])|(with_reducible refine⟨by omega,?_⟩)))
    exact hZ _ _ 1 (by repeat (first | exact Keep.refl _ _ | assumption | refine Keep.put ?_ (by first | (left; simp; done) | (right; omega)) _ | refine Keep.new ?_ _)) (by simp only[zT,Nat.reduceBEq]) (by simp only[zT,Nat.reduceBEq];rfl) (by omega) (hV2 _ (by rw [if_pos (.inr rfl)]))
   | true =>
    have hV3 : ∀ k, (if n < 100 ∨ contentL c = false then 3 else
     if (fieldsL (l.drop (lineL l).2.2)).2.1 ≠ 0 then (fieldsL (l.drop (lineL l).2.2)).2.1 else if meth = sConn ∨ (meth ≠ [] ∧ tokL meth = false) then 3 else 0) = k → respV meth l = k := by
     intro k hk
     refine hV2 k ?_
     rw [if_neg (by simp; omega)]
     exact hk
    by_cases hn1 : n < 100
    ·have d4 : decide ((n : Int) < 100) = true := decide_eq_true (by omega)
     (repeat(first|(simp(disch:=decide)only[push_cast,go_sem_proc,↓ite_only,M_block,m7, z7, d3, d4])|(with_reducible refine⟨by omega,?_⟩)))
     exact hZ _ _ 3 (by repeat (first | exact Keep.refl _ _ | assumption | refine Keep.put ?_ (by first | (left; simp; done) | (right; omega)) _ | refine Keep.new ?_ _)) (by simp only[zT,Nat.reduceBEq]) (by simp only[zT,Nat.reduceBEq];rfl) (by omega) (hV3 _ (by rw [if_pos (.inl hn1)]))
    have d4 : decide ((n : Int) < 100) = false := decide_eq_false (by omega)
    (repeat simp only[push_cast,go_sem_proc,↓ite_only,M_block,m7, z7, d3, d4])
    refine callM_of (content_ok c (by omega)) ?_
    rintro v h8 ⟨rfl, x8⟩
    have n8 := x8.1
    have m8 := (x8.2 _ (by omega)).trans m7
    have z8 := (x8.2 _ (by omega)).trans z7
    have k8 : Keep [] h h8 := k7.trans (x8.keep [])
    cases hcc : contentL c with
    | false =>
     have hcn : sameL c [] = false := sameL_false (fun e => by rw [e] at hcc; cases hcc)
     (repeat(first|(simp(disch:=decide)only[push_cast,go_sem_proc,↓ite_only,M_block,m8, z8, hcn])|(with_reducible refine⟨by omega,?_⟩)))
     exact hZ _ _ 3 (by repeat (first | exact Keep.refl _ _ | assumption | refine Keep.put ?_ (by first | (left; simp; done) | (right; omega)) _ | refine Keep.new ?_ _)) (by simp only[zT,Nat.reduceBEq]) (by simp only[zT,Nat.reduceBEq];rfl) (by omega) (hV3 _ (by rw [if_pos (.inr hcc)]))
    | true =>
     have hV4 : ∀ k, (if (fieldsL (l.drop p)).2.1 ≠ 0 then (fieldsL (l.drop p)).2.1 else if meth = sConn ∨ (meth ≠ [] ∧ tokL meth = false) then 3 else 0) = k → respV meth l = k := by
      intro k hk
      refine hV3 k ?_
      rw [if_neg (by rw [hcc]; simp; omega), hp]
      exact hk
     (repeat(first|(simp(disch:=first|omega|(simp only[zN];omega))only[push_cast,go_sem_proc,↓ite_only,M_block,m8, z8])|(with_reducible refine⟨by omega,?_⟩)))
     generalize hhe : Heap.put _ h3.n _ = h9
     have k9 : Keep [] h h9 := by rw [← hhe]; exact (by repeat (first | exact Keep.refl _ _ | assumption | refine Keep.put ?_ (by first | (left; simp; done) | (right; omega)) _ | refine Keep.new ?_ _))
     have m9 : h9.at h3.n = some (.cells [S [], S [], I n, S c, I 1, I min, .slice none 0 0, .slice none 0 0, .slice none 0 0, S [], I 0, .bool false, .bool false, I 0] 35 0 0) := by rw [← hhe]; exact at_put_eq _ _ _
     have k89 : Keep [h3.n] h8 h9 := by rw [← hhe]; exact (by repeat (first | exact Keep.refl _ _ | assumption | refine Keep.put ?_ (by first | (left; simp; done) | (right; omega)) _ | refine Keep.new ?_ _))
     clear hhe
     have n9 := k89.1
     have z9 := (k89.2 h.n (by omega) (by simp; omega)).trans z8
     have k29 : Keep [h3.n] h2 h9 := (x3.keep _).trans ((x4.keep _).trans ((x5.keep _).trans (k56.trans ((x7.keep _).trans ((x8.keep _).trans k89)))))
     have r9 := (k29.2 (h.n + 1) (by omega) (by simp; omega)).trans r2
     have d9 : Data h9 (.slice a l.length cp) l := hd.keep (fun b ⟨o, ho⟩ hb => k9.2 b (hdo b hb) (by simp))
     refine callM_of (fields_ok l _ (h.n + 1) p (by omega) (by omega) lt2 r9 d9 hdr) ?_
     rintro v h10 ⟨sv, rfl, fl, x10, r10⟩
     obtain ⟨asv, csv, rfl⟩ := fl.len
     have n10 := x10.1
     have m10 := (x10.2 _ (by omega) (by omega)).trans m9
     have z10 := (x10.2 _ (by omega) (by omega)).trans z9
     have k10 : Keep [] h h10 := ⟨by have := k9.1; omega, fun b hb hX => (x10.2 b (by have := k9.1; omega) (by omega)).trans (k9.2 b hb hX)⟩
     by_cases hfv : (fieldsL (l.drop p)).2.1 = 0
     rotate_left
     ·have d5 : decide (((fieldsL (l.drop p)).2.1 : Int) = 0) = false := decide_eq_false (by omega)
      (repeat(first|(simp(disch:=first|omega|decide|(simp only[zN];omega))only[push_cast,go_sem_proc,↓ite_only,M_block,m10, z10, d5])|(with_reducible refine⟨by omega,?_⟩)))
      exact hZ _ _ (fieldsL (l.drop p)).2.1 (by repeat (first | exact Keep.refl _ _ | assumption | refine Keep.put ?_ (by first | (left; simp; done) | (right; omega)) _ | refine Keep.new ?_ _)) (by simp only[zT,Nat.reduceBEq]) (by simp only[zT,Nat.reduceBEq]) (by omega) (hV4 _ (by rw [if_pos hfv]))
     have d5 : decide (((fieldsL (l.drop p)).2.1 : Int) = 0) = true := decide_eq_true (by omega)
     have hV5 : ∀ k, (if meth = sConn ∨ (meth ≠ [] ∧ tokL meth = false) then 3 else 0) = k → respV meth l = k := by
      intro k hk
      refine hV4 k ?_
      rw [if_neg (by omega)]
      exact hk
     by_cases hcn : meth = sConn
     ·have d6 : sameL meth [67, 79, 78, 78, 69, 67, 84] = true := sameL_true hcn
      (repeat(first|(simp(disch:=first|omega|decide|(simp only[zN];omega))only[push_cast,go_sem_proc,↓ite_only,M_block,m10, z10, d5, d6])|(with_reducible refine⟨by omega,?_⟩)))
      exact hZ _ _ 3 (by repeat (first | exact Keep.refl _ _ | assumption | refine Keep.put ?_ (by first | (left; simp; done) | (right; omega)) _ | refine Keep.new ?_ _)) (by simp only[zT,Nat.reduceBEq]) (by simp only[zT,Nat.reduceBEq];rfl) (by omega) (hV5 _ (by rw [if_pos (.inl hcn)]))
     have d6 : sameL meth [67, 79, 78, 78, 69, 67, 84] = false := sameL_false hcn
     have hz : (meth = [] ∨ tokL meth = true) → respV meth l = 0 := fun hm => hV5 0 (by
      rw [if_neg]
      rintro (h1 | ⟨h1, h2⟩)
      ·exact hcn h1
      ·rcases hm with hm | hm
       ·exact h1 hm
       ·rw [hm] at h2; cases h2)
     have hcode : respCode l = n := by unfold respCode; rw [hP]; simp only; rw [hN]
     have hfs : respFs l = (fieldsL (l.drop p)).1 := by unfold respFs; rw [hp]
     have hat : respAt l = p + (fieldsL (l.drop p)).2.2 := by unfold respAt; rw [hp]
     have hM : ∀ sv, respM l sv = ⟨[], [], n, c, 1, min, sv, .slice none 0 0, .slice none 0 0, [], 0, false, false, 0⟩ := by intro sv; unfold respM; rw [hcode, hP]; simp only; rw [hVe]; rfl
     have hfl := fields_take (l.drop p)
     rw [List.length_drop] at hfl
     have hpp : p + (fieldsL (l.drop p)).2.2 ≤ l.length := by omega
     have hfb : ∀ f ∈ respFs l, f.1.length ≤ l.length ∧ f.2.length ≤ l.length := fun f hf => by
      have := fields_short (l.drop p) f (hfs ▸ hf)
      rw [List.length_drop] at this
      omega
     have hfss : Short (respFs l) := fun f hf => by have := hfb f hf; omega
     have hfsn : ∀ f ∈ respFs l, f.2.length < 1000000 := fun f hf => by have := hfb f hf; omega
     have hfsc : (respFs l).length < 1000000 := by have := fields_count (l.drop p); rw [hfs]; omega
     have none4 : noneR meth n → (sameL meth [72, 69, 65, 68] = true) ∨ (sameL meth [72, 69, 65, 68] = false ∧ decide ((n : Int) < 200) = true) ∨ (sameL meth [72, 69, 65, 68] = false ∧ decide ((n : Int) < 200) = false ∧ decide ((n : Int) = 204) = true) ∨
       (sameL meth [72, 69, 65, 68] = false ∧ decide ((n : Int) < 200) = false ∧ decide ((n : Int) = 204) = false ∧ decide ((n : Int) = 304) = true) := by
      intro hr
      by_cases h1 : meth = sHead
      ·exact .inl (sameL_true h1)
      have g1 : sameL meth [72, 69, 65, 68] = false := sameL_false h1
      by_cases h2 : n < 200
      ·exact .inr (.inl ⟨g1, decide_eq_true (by omega)⟩)
      have g2 : decide ((n : Int) < 200) = false := decide_eq_false (by omega)
      by_cases h3 : n = 204
      ·exact .inr (.inr (.inl ⟨g1, g2, decide_eq_true (by omega)⟩))
      have g3 : decide ((n : Int) = 204) = false := decide_eq_false (by omega)
      refine .inr (.inr (.inr ⟨g1, g2, g3, decide_eq_true ?_⟩))
      rcases hr with h | h | h | h
      ·exact absurd h h1
      all_goals omega
     by_cases hme : meth = []
     ·have hrz := hz (.inl hme)
      have hr := hnone hrz
      rw [hcode] at hr
      have e1 : sameL meth [] = true := sameL_true hme
      rcases none4 hr with f1 | ⟨f1, f2⟩ | ⟨f1, f2, f3⟩ | ⟨f1, f2, f3, f4⟩
      all_goals first
      | (have := f4; (repeat(first|(simp(disch:=first|omega|(simp only[zN];omega))only[push_cast,go_sem_proc,↓ite_only,M_block,m10, d5, d6, e1, f1, f2, f3, f4])|(with_reducible refine⟨by omega,?_⟩))))
      | (have := f3; (repeat(first|(simp(disch:=first|omega|(simp only[zN];omega))only[push_cast,go_sem_proc,↓ite_only,M_block,m10, d5, d6, e1, f1, f2, f3])|(with_reducible refine⟨by omega,?_⟩))))
      | (have := f2; (repeat(first|(simp(disch:=first|omega|(simp only[zN];omega))only[push_cast,go_sem_proc,↓ite_only,M_block,m10, d5, d6, e1, f1, f2])|(with_reducible refine⟨by omega,?_⟩))))
      | (have := f1; (repeat(first|(simp(disch:=first|omega|(simp only[zN];omega))only[push_cast,go_sem_proc,↓ite_only,M_block,m10, d5, d6, e1, f1])|(with_reducible refine⟨by omega,?_⟩))))
      all_goals
       generalize hhe : Heap.put _ h3.n _ = h11
       have k11 : Keep [] h h11 := by rw [← hhe]; exact (by repeat (first | exact Keep.refl _ _ | assumption | refine Keep.put ?_ (by first | (left; simp; done) | (right; omega)) _ | refine Keep.new ?_ _))
       have kk11 : Keep [h3.n] h10 h11 := by rw [← hhe]; exact (by repeat (first | exact Keep.refl _ _ | assumption | refine Keep.put ?_ (by first | (left; simp; done) | (right; omega)) _ | refine Keep.new ?_ _))
       clear hhe
       have n11 := kk11.1
       have r11 := (kk11.2 (h.n + 1) (by omega) (by simp; omega)).trans r10
       have z11 := (kk11.2 h.n (by omega) (by simp; omega)).trans z10
       have d11 : Data h11 (.slice a l.length cp) l := hd.keep (fun b ⟨o, ho⟩ hb => k11.2 b (hdo b hb) (by simp))
       have f11 : Flds h9.n h11 (.slice asv (respFs l).length csv) (respFs l) := by
        have := fl.keep (h' := h11) n11 (fun b hb hlo _ => kk11.2 b hb (by simp; omega))
        rw [← hfs] at this
        exact this
       rw [← hfs]
       refine callM_of (transfer_ok ⟨[], [], n, c, 1, min, .slice asv (respFs l).length csv, .slice none 0 0, .slice none 0 0, [], 0, false, false, 0⟩ (respFs l) h9.n (h.n + 1) (p + (fieldsL (l.drop p)).2.2) l (.slice a l.length cp) false false rfl f11 hfss hfsn hfsc (by omega) r11 d11 hdr hl hpp rfl rfl rfl _ _ _ _ rfl rfl rfl rfl) ?_
       rintro v h12 ⟨rd, vd, rfl, x12, te, sg1, sg2, sg3⟩
       have z12 := (x12.2 h.n (by omega)).trans z11
       have k12 : Keep [] h h12 := k11.trans (x12.keep [])
       (repeat simp(disch:=decide)only[push_cast,go_sem_proc,↓ite_only,M_block,z12, Rd.val, Rd.cells])
       refine ⟨⟨by omega, sg1, sg2, sg3⟩, ?_⟩
       exact hX' _ _ rd vd (Ext.put k12.ext (Nat.le_refl _) _) (at_put_eq _ _ _) (by simp only[zT,Nat.reduceBEq]) (by simp only[zT,Nat.reduceBEq]) ⟨sg1, sg2, sg3⟩ ⟨fun e => absurd hrz e, fun _ => ⟨.slice asv (respFs l).length csv, by rw [hM, hat]; exact te.put z12 _⟩⟩
     have e1 : sameL meth [] = false := sameL_false hme
     (repeat(first|(simp(disch:=first|omega|(simp only[zN];omega))only[push_cast,go_sem_proc,↓ite_only,M_block,m10, d5, d6, e1])|(with_reducible refine⟨by omega,?_⟩)))
     generalize hhe : Heap.put _ h3.n _ = hA
     have kA : Keep [] h hA := by rw [← hhe]; exact (by repeat (first | exact Keep.refl _ _ | assumption | refine Keep.put ?_ (by first | (left; simp; done) | (right; omega)) _ | refine Keep.new ?_ _))
     have kkA : Keep [h3.n] h10 hA := by rw [← hhe]; exact (by repeat (first | exact Keep.refl _ _ | assumption | refine Keep.put ?_ (by first | (left; simp; done) | (right; omega)) _ | refine Keep.new ?_ _))
     have mA : hA.at h3.n = some (.cells [S [], S [], I n, S c, I 1, I min, .slice asv (fieldsL (l.drop p)).1.length csv, .slice none 0 0, .slice none 0 0, S [], I 0, .bool false, .bool false, I 0] 35 0 0) := by rw [← hhe]; exact at_put_eq _ _ _
     clear hhe
     have nA := kkA.1
     have zA := (kkA.2 h.n (by omega) (by simp; omega)).trans z10
     refine callM_of (token_ok meth (by omega)) ?_
     rintro v h11 ⟨rfl, x11⟩
     have m11 := (x11.2 h3.n (by omega)).trans mA
     have k11 : Keep [] h h11 := kA.trans (x11.keep [])
     have kk11 : Keep [h3.n] h10 h11 := kkA.trans (x11.keep _)
     cases htk : tokL meth with
     | false =>
      have z11 := (x11.2 h.n (by omega)).trans zA
      (repeat(first|(simp(disch:=decide)only[push_cast,go_sem_proc,↓ite_only,M_block,z11])|(with_reducible refine⟨by omega,?_⟩)))
      exact hZ _ _ 3 (by repeat (first | exact Keep.refl _ _ | assumption | refine Keep.put ?_ (by first | (left; simp; done) | (right; omega)) _ | refine Keep.new ?_ _)) (by simp only[zT,Nat.reduceBEq]) (by simp only[zT,Nat.reduceBEq];rfl) (by omega) (hV5 _ (by rw [if_pos (.inr ⟨hme, htk⟩)]))
     | true =>
      have hrz := hz (.inr htk)
      have hr := hnone hrz
      rw [hcode] at hr
      rcases none4 hr with f1 | ⟨f1, f2⟩ | ⟨f1, f2, f3⟩ | ⟨f1, f2, f3, f4⟩
      all_goals first
      | (have := f4; (repeat simp only[push_cast,go_sem_proc,↓ite_only,M_block,m11, f1, f2, f3, f4]))
      | (have := f3; (repeat simp only[push_cast,go_sem_proc,↓ite_only,M_block,m11, f1, f2, f3]))
      | (have := f2; (repeat simp only[push_cast,go_sem_proc,↓ite_only,M_block,m11, f1, f2]))
      | (have := f1; (repeat simp only[push_cast,go_sem_proc,↓ite_only,M_block,m11, f1]))
      all_goals
       have n11 := kk11.1
       have r11 := (kk11.2 (h.n + 1) (by omega) (by simp; omega)).trans r10
       have z11 := (kk11.2 h.n (by omega) (by simp; omega)).trans z10
       have d11 : Data h11 (.slice a l.length cp) l := hd.keep (fun b ⟨o, ho⟩ hb => k11.2 b (hdo b hb) (by simp))
       have f11 : Flds h9.n h11 (.slice asv (respFs l).length csv) (respFs l) := by
        have := fl.keep (h' := h11) n11 (fun b hb hlo _ => kk11.2 b hb (by simp; omega))
        rw [← hfs] at this
        exact this
       rw [← hfs]
       refine callM_of (transfer_ok ⟨[], [], n, c, 1, min, .slice asv (respFs l).length csv, .slice none 0 0, .slice none 0 0, [], 0, false, false, 0⟩ (respFs l) h9.n (h.n + 1) (p + (fieldsL (l.drop p)).2.2) l (.slice a l.length cp) false false rfl f11 hfss hfsn hfsc (by omega) r11 d11 hdr hl hpp rfl rfl rfl _ _ _ _ rfl rfl rfl rfl) ?_
       rintro v h12 ⟨rd, vd, rfl, x12, te, sg1, sg2, sg3⟩
       have z12 := (x12.2 h.n (by omega)).trans z11
       have k12 : Keep [] h h12 := k11.trans (x12.keep [])
       (repeat simp(disch:=decide)only[push_cast,go_sem_proc,↓ite_only,M_block,z12, Rd.val, Rd.cells])
       refine ⟨⟨by omega, sg1, sg2, sg3⟩, ?_⟩
       exact hX' _ _ rd vd (Ext.put k12.ext (Nat.le_refl _) _) (at_put_eq _ _ _) (by simp only[zT,Nat.reduceBEq]) (by simp only[zT,Nat.reduceBEq]) ⟨sg1, sg2, sg3⟩ ⟨fun e => absurd hrz e, fun _ => ⟨.slice asv (respFs l).length csv, by rw [hM, hat]; exact te.put z12 _⟩⟩
end Go.Proofs.YtbjaapiliegegaaGreatDoor.Sy
