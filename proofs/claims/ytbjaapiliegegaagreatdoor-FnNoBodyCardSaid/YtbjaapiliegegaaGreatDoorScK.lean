/- Of the proof of FnNoBody: ScK. -/
import Derived.Test.YtbjaapiliegegaaGreatDoorNb21
set_option linter.unusedVariables false
set_option linter.unusedSimpArgs false
namespace Go.Proofs.YtbjaapiliegegaaGreatDoor.Sy
open Go
set_option maxRecDepth 100000
variable {w0 : World} {h : Heap}
structure Rd where
 method : Str
 target : Str
 code : Int
 reason : Str
 major : Int
 minor : Int
 fields : Value
 body : Value
 trailer : Value
 host : Str
 len : Int
 chunked : Bool
 close : Bool
 rest : Int
def Rd.cells (m : Rd) : List Value := [S m.method, S m.target, I m.code, S m.reason, I m.major, I m.minor, m.fields, m.body, m.trailer, S m.host, I m.len, .bool m.chunked, .bool m.close, I m.rest]
def Rd.val (m : Rd) : Value := .agg m.cells.toArray
def sTE : Str := [84, 114, 97, 110, 115, 102, 101, 114, 45, 69, 110, 99, 111, 100, 105, 110, 103]
def sTr : Str := [84, 114, 97, 105, 108, 101, 114]
def sCL : Str := [67, 111, 110, 116, 101, 110, 116, 45, 76, 101, 110, 103, 116, 104]
def decS (s : Str) : Option Nat :=
 match tokL s, sameL (canonL true s) sTE || (sameL (canonL true s) sTr || sameL (canonL true s) sCL) with
 | false, _ => some 3
 | true, true => some 1
 | true, false => none
def declaredL (vs : List Str) (chunked : Bool) : Nat × Bool :=
 match vs.isEmpty, chunked with
 | true, _ => (0, true)
 | false, false => (3, false)
 | false, true => match (vs.flatMap listL).findSome? decS with
  | some v => (v, false)
  | none => (0, true)
theorem vals_short {fs : List Fld} (hs : Short fs) {n : Nat} (hn : ∀ f ∈ fs, f.2.length < 1000000) (name : Str) : ShortS (valsL fs name) := by
 intro x hx
 obtain ⟨f, hf, rfl⟩ := List.mem_map.1 hx
 exact hn f (List.mem_filter.1 hf).1
set_option maxHeartbeats 4000000 in
theorem declared_ok (m : Rd) (fs : List Fld) (lo : Nat) (hv : Flds lo h m.fields fs) (hs : Short fs) (hn : ∀ f ∈ fs, f.2.length < 1000000) (hc : fs.length < 1000000) :
    ACall Tryz.prog w0 75 [m.val] h (fun v h' => v = .tuple #[I (declaredL (valsL fs sTr) m.chunked).1, .bool (declaredL (valsL fs sTr) m.chunked).2] ∧ Ext h h') := by
  refine ACall.known fun hKn => ?_
  obtain ⟨hN, hB⟩ := hKn
  refine ACall.run noCount mixed Tryz.func75 rfl (by kernel_rfl) (Nat.le_of_ble_eq_true rfl) fun X hX => ?_
  obtain ⟨lv, hlv⟩ : ∃ lv, valsL fs sTr = lv := ⟨_, rfl⟩
  have hlvS : ShortS lv := hlv ▸ vals_short hs (n := 0) hn sTr
  have hlvC : lv.length ≤ fs.length := hlv ▸ vals_len fs sTr
  have hX' : ∀ (tm : Tm) (h2 : Heap), Ext h h2 → tget tm 2 = I (declaredL lv m.chunked).1 → tget tm 3 = .bool (declaredL lv m.chunked).2 → X .ret tm [] h2 := by
    intro tm h2 e1 e2 e3
    rw [hlv] at hX
    ((with_reducible refine hX _ _ _ (fun j hj => nomatch hj) ?_); simp only[push_cast,go_sem_proc,↓ite_only,M_block,Tryz.results75,e2, e3])
    exact e1
  clear hX
  (repeat simp(disch:=omega)only[push_cast,go_sem_proc,↓ite_only,M_block,Rd.val, Rd.cells])
  have hfl : Flds lo (h.new (.cells m.cells 35 0 0)) m.fields fs := hv.ext ((Ext.refl h).new _)
  refine callM_of (values_ok fs sTr lo m.fields hfl hs hc) ?_
  rintro v h1 ⟨hsv, hx1⟩
  rw [hlv] at hsv
  have hx01 : Ext h h1 := ((Ext.refl h).new _).trans hx1
  have hn1 : h.n < h1.n := hx1.1
  have hat1 : h1.at h.n = some (.cells m.cells 35 0 0) := (hx1.2 h.n (Nat.lt_succ_self _)).trans (at_new_eq _ _)
  obtain ⟨a, cp, rfl⟩ := hsv.len
  (repeat simp only[push_cast,go_sem_proc,↓ite_only,M_block])
  refine M_loop (fun tm h2 n => ∃ (k : Nat), k ≤ lv.length ∧ n = lv.length - k ∧ Ext h1 h2 ∧ (k = 0 ∨ m.chunked = true) ∧ ((lv.take k).flatMap listL).findSome? decS = none ∧ tget tm 14 = I k ∧ tget tm 13 = I lv.length ∧ tget tm 12 = .slice a lv.length cp ∧ tget tm 1 = ptr h.n 0) lv.length
    ⟨0, by omega, by omega, .refl _, .inl rfl, rfl, (by simp only[zT,Nat.reduceBEq];rfl), (by simp only[zT,Nat.reduceBEq]), (by simp only[zT,Nat.reduceBEq]), (by simp only[zT,Nat.reduceBEq])⟩ ?_
  rintro tm1 h2 n R ⟨k, hk, rfl, hx2, hch, hno, t14, t13, t12, t1⟩ hR hE
  have hx02 := hx01.trans hx2
  have hat2 := (hx2.2 h.n hn1).trans hat1
  unfold Rd.cells at hat2
  rcases Nat.lt_or_ge k lv.length with hlt | hge
  · obtain ⟨b, cp', rest, hve, _, hbn, hat⟩ := hsv.at hlt
    cases hve
    have hat3 := (hx2.2 b hbn).trans hat
    have hg := str_get rest hlt
    have hsk := hlvS.at hlt
    have hne : lv.isEmpty = false := by cases lv with | nil => simp at hlt | cons x y => rfl
    cases hchk : m.chunked with
    | false =>
      have hD : declaredL lv m.chunked = (3, false) := by unfold declaredL; rw [hne, hchk]
      rw [hD] at hX'
      rw [hchk] at hat2
      (repeat simp only[push_cast,go_sem_proc,↓ite_only,M_block,t14, t13, t12, hat3, hg, t1, hat2])
      repeat' ((with_reducible(first|refine condM_same ?_ ?_|refine condM_nsame ?_ ?_|refine oneM_same ?_ ?_|refine oneM_nsame ?_ ?_|refine oneP_same ?_ ?_|refine oneP_nsame ?_ ?_|refine condM_dec_ ?_ ?_|refine condM_not_ ?_ ?_|refine oneM_dec_ ?_ ?_|refine oneM_not_ ?_ ?_|refine oneP_dec_ ?_ ?_|refine oneP_not_ ?_ ?_|refine condM_bool ?_ ?_|refine oneM_bool ?_ ?_|refine oneP_bool ?_ ?_)<;>intro c) <;> first | (exfalso; first | contradiction | omega) | (try (repeat(first|(simp(disch:=omega)only[push_cast,go_sem_proc,↓ite_only,M_block,t14, t13, t12, hat3, hg, t1, hat2, c])|(with_reducible refine⟨by omega,?_⟩)))))
      (with_reducible refine hE _ _ _ _ (nomatch ·) ?_)
      (repeat simp only[push_cast,go_sem_proc,↓ite_only,M_block])
      exact hX' _ _ hx02 (by simp only[zT,Nat.reduceBEq];rfl) (by simp only[zT,Nat.reduceBEq])
    | true =>
      have hD : declaredL lv m.chunked = match (lv.flatMap listL).findSome? decS with
          | some v => (v, false)
          | none => (0, true) := by unfold declaredL; rw [hne, hchk]
      rw [hD] at hX'
      rw [hchk] at hat2
      (repeat simp only[push_cast,go_sem_proc,↓ite_only,M_block,t14, t13, t12, hat3, hg, t1, hat2])
      repeat' ((with_reducible(first|refine condM_same ?_ ?_|refine condM_nsame ?_ ?_|refine oneM_same ?_ ?_|refine oneM_nsame ?_ ?_|refine oneP_same ?_ ?_|refine oneP_nsame ?_ ?_|refine condM_dec_ ?_ ?_|refine condM_not_ ?_ ?_|refine oneM_dec_ ?_ ?_|refine oneM_not_ ?_ ?_|refine oneP_dec_ ?_ ?_|refine oneP_not_ ?_ ?_|refine condM_bool ?_ ?_|refine oneM_bool ?_ ?_|refine oneP_bool ?_ ?_)<;>intro c) <;> first | (exfalso; first | contradiction | omega) | (try (repeat(first|(simp(disch:=omega)only[push_cast,go_sem_proc,↓ite_only,M_block,t14, t13, t12, hat3, hg, t1, hat2, c])|(with_reducible refine⟨by omega,?_⟩)))))
      refine callM_of (list_ok (snth lv k) hsk) ?_
      rintro v h4 ⟨hsv4, hx4⟩
      have hx04 := hx02.trans hx4
      obtain ⟨a2, cp2, rfl⟩ := hsv4.len
      have hsplit : lv = lv.take k ++ snth lv k :: lv.drop (k + 1) := by
        have h1 := List.take_append_drop k lv
        rw [List.drop_eq_getElem_cons hlt] at h1
        have h2 : lv[k] = snth lv k := by
          have := snth_get hlt
          rw [List.getElem?_eq_getElem hlt] at this
          exact Option.some.inj this
        rw [h2] at h1
        exact h1.symm
      have hlist : (listL (snth lv k)).findSome? decS = none → ((lv.take (k + 1)).flatMap listL).findSome? decS = none := fun hh => by
        rw [stake_snoc lv k hlt, List.flatMap_append, List.findSome?_append, hno]
        simpa using hh
      have hbad : ∀ v, (listL (snth lv k)).findSome? decS = some v → (lv.flatMap listL).findSome? decS = some v := fun v hh => by
        rw [hsplit, List.flatMap_append, List.findSome?_append, hno, List.flatMap_cons, List.findSome?_append, hh]
        rfl
      obtain ⟨ls, hls⟩ : ∃ ls, listL (snth lv k) = ls := ⟨_, rfl⟩
      have hlsS : ShortS ls := hls ▸ list_short hsk
      have hlsC : ls.length ≤ (snth lv k).length + 1 := hls ▸ list_count _
      rw [hls] at hsv4 hlist hbad ⊢
      (repeat simp only[push_cast,go_sem_proc,↓ite_only,M_block])
      refine M_loop (fun tm h5 n => ∃ (j : Nat), j ≤ ls.length ∧ n = ls.length - j ∧ Ext h4 h5 ∧ (ls.take j).findSome? decS = none ∧ tget tm 24 = I j ∧ tget tm 23 = I ls.length ∧ tget tm 22 = .slice a2 ls.length cp2 ∧ tget tm 14 = I k ∧ tget tm 13 = I lv.length ∧ tget tm 12 = .slice (some ⟨b, 0, none⟩) lv.length cp ∧ tget tm 1 = ptr h.n 0) ls.length
        ⟨0, by omega, by omega, .refl _, rfl, (by simp only[zT,Nat.reduceBEq];rfl), (by simp only[zT,Nat.reduceBEq]), (by simp only[zT,Nat.reduceBEq]), ‹_›, ‹_›, ‹_›, ‹_›⟩ ?_
      rintro tm2 h5 n R2 ⟨j, hj, rfl, hx5, hno2, t24, t23, t22, t14, t13, t12, t1⟩ hR2 hE2
      rcases Nat.lt_or_ge j ls.length with hlt2 | hge2
      · obtain ⟨b2, cp2', rest2, hve2, _, hbn2, hat4⟩ := hsv4.at hlt2
        cases hve2
        have hat5 := (hx5.2 b2 hbn2).trans hat4
        have hg2 := str_get rest2 hlt2
        have hsj := hlsS.at hlt2
        have hfirst : ∀ v, decS (snth ls j) = some v → ls.findSome? decS = some v := fun v hh => by
          have h1 : ls = ls.take j ++ snth ls j :: ls.drop (j + 1) := by
            have h1 := List.take_append_drop j ls
            rw [List.drop_eq_getElem_cons hlt2] at h1
            have h2 : ls[j] = snth ls j := by
              have := snth_get hlt2
              rw [List.getElem?_eq_getElem hlt2] at this
              exact Option.some.inj this
            rw [h2] at h1
            exact h1.symm
          rw [h1, List.findSome?_append, hno2, List.findSome?_cons, hh]
          rfl
        have hpass : decS (snth ls j) = none → (ls.take (j + 1)).findSome? decS = none := fun hh => by
          rw [stake_snoc ls j hlt2, List.findSome?_append, hno2, List.findSome?_cons, hh]
          rfl
        (repeat simp only[push_cast,go_sem_proc,↓ite_only,M_block,t24, t23, t22, hat5, hg2])
        repeat' ((with_reducible(first|refine condM_same ?_ ?_|refine condM_nsame ?_ ?_|refine oneM_same ?_ ?_|refine oneM_nsame ?_ ?_|refine oneP_same ?_ ?_|refine oneP_nsame ?_ ?_|refine condM_dec_ ?_ ?_|refine condM_not_ ?_ ?_|refine oneM_dec_ ?_ ?_|refine oneM_not_ ?_ ?_|refine oneP_dec_ ?_ ?_|refine oneP_not_ ?_ ?_|refine condM_bool ?_ ?_|refine oneM_bool ?_ ?_|refine oneP_bool ?_ ?_)<;>intro c) <;> first | (exfalso; first | contradiction | omega) | (try (repeat(first|(simp only[push_cast,go_sem_proc,↓ite_only,M_block,t24, t23, t22, hat5, hg2, c])|(with_reducible refine⟨by omega,?_⟩)))))
        refine callM_of (Canonical_ok (snth ls j) (by omega)) ?_
        rintro v h6 ⟨rfl, hx6⟩
        (repeat simp only[push_cast,go_sem_proc,↓ite_only,M_block])
        refine callM_of (token_ok (snth ls j) (by omega)) ?_
        rintro v h7 ⟨rfl, hx7⟩
        have hx07 : Ext h h7 := hx04.trans (hx5.trans (hx6.trans hx7))
        cases ht : tokL (snth ls j) with
        | false =>
          have hdec : decS (snth ls j) = some 3 := by unfold decS; rw [ht]
          rw [hbad 3 (hfirst 3 hdec)] at hX'
          (repeat simp only[push_cast,go_sem_proc,↓ite_only,M_block])
          (with_reducible refine hE2 _ _ _ _ (nomatch ·) ?_)
          (repeat simp only[push_cast,go_sem_proc,↓ite_only,M_block])
          (with_reducible refine hE _ _ _ _ (nomatch ·) ?_)
          (repeat simp only[push_cast,go_sem_proc,↓ite_only,M_block])
          exact hX' _ _ hx07 (by simp only[zT,Nat.reduceBEq];rfl) (by simp only[zT,Nat.reduceBEq])
        | true =>
          cases hA : sameL (canonL true (snth ls j)) sTE <;> cases hB : sameL (canonL true (snth ls j)) sTr <;> cases hC : sameL (canonL true (snth ls j)) sCL
          all_goals
            have hA' := hA
            have hB' := hB
            have hC' := hC
            unfold sTE at hA'
            unfold sTr at hB'
            unfold sCL at hC'
            first
            | (have hdec : decS (snth ls j) = some 1 := by (unfold decS; rw [ht, hA, hB, hC]; rfl)
               rw [hbad 1 (hfirst 1 hdec)] at hX'
               (repeat simp only[push_cast,go_sem_proc,↓ite_only,M_block,hA', hB', hC'])
               (with_reducible refine hE2 _ _ _ _ (nomatch ·) ?_)
               (repeat simp only[push_cast,go_sem_proc,↓ite_only,M_block])
               (with_reducible refine hE _ _ _ _ (nomatch ·) ?_)
               (repeat simp only[push_cast,go_sem_proc,↓ite_only,M_block])
               exact hX' _ _ hx07 (by simp only[zT,Nat.reduceBEq];rfl) (by simp only[zT,Nat.reduceBEq]))
            | (have hdec : decS (snth ls j) = none := by (unfold decS; rw [ht, hA, hB, hC]; rfl)
               (repeat simp(disch:=omega)only[push_cast,go_sem_proc,↓ite_only,M_block,hA', hB', hC', t24])
               refine hR2 _ _ (ls.length - (j + 1)) (by omega) ⟨j + 1, by omega, rfl, hx5.trans (hx6.trans hx7), hpass hdec, (by simp only[zT,Nat.reduceBEq];rfl), ‹_›, ‹_›, ‹_›, ‹_›, ‹_›, ‹_›⟩)
      · have hje : j = ls.length := by omega
        subst hje
        rw [List.take_length] at hno2
        (repeat simp only[push_cast,go_sem_proc,↓ite_only,M_block,t24, t23])
        repeat' ((with_reducible(first|refine condM_same ?_ ?_|refine condM_nsame ?_ ?_|refine oneM_same ?_ ?_|refine oneM_nsame ?_ ?_|refine oneP_same ?_ ?_|refine oneP_nsame ?_ ?_|refine condM_dec_ ?_ ?_|refine condM_not_ ?_ ?_|refine oneM_dec_ ?_ ?_|refine oneM_not_ ?_ ?_|refine oneP_dec_ ?_ ?_|refine oneP_not_ ?_ ?_|refine condM_bool ?_ ?_|refine oneM_bool ?_ ?_|refine oneP_bool ?_ ?_)<;>intro c) <;> first | (exfalso; first | contradiction | omega) | (try (repeat simp only[push_cast,go_sem_proc,↓ite_only,M_block,t24, t23, c])))
        (with_reducible refine hE2 _ _ _ _ (nomatch ·) ?_)
        (repeat simp(disch:=omega)only[push_cast,go_sem_proc,↓ite_only,M_block,t14])
        refine hR _ _ (lv.length - (k + 1)) (by omega) ⟨k + 1, by omega, rfl, hx2.trans (hx4.trans hx5), .inr hchk, hlist hno2, (by simp only[zT,Nat.reduceBEq];rfl), ‹_›, ‹_›, ‹_›⟩
  · have hke : k = lv.length := by omega
    subst hke
    rw [List.take_length] at hno
    have hD : declaredL lv m.chunked = (0, true) := by
      unfold declaredL
      rw [hno]
      rcases hch with hz | hz
      · have : lv = [] := List.eq_nil_of_length_eq_zero hz
        rw [this]
        rfl
      · rw [hz]
        cases lv.isEmpty <;> rfl
    rw [hD] at hX'
    (repeat simp only[push_cast,go_sem_proc,↓ite_only,M_block,t14, t13])
    repeat' ((with_reducible(first|refine condM_same ?_ ?_|refine condM_nsame ?_ ?_|refine oneM_same ?_ ?_|refine oneM_nsame ?_ ?_|refine oneP_same ?_ ?_|refine oneP_nsame ?_ ?_|refine condM_dec_ ?_ ?_|refine condM_not_ ?_ ?_|refine oneM_dec_ ?_ ?_|refine oneM_not_ ?_ ?_|refine oneP_dec_ ?_ ?_|refine oneP_not_ ?_ ?_|refine condM_bool ?_ ?_|refine oneM_bool ?_ ?_|refine oneP_bool ?_ ?_)<;>intro c) <;> first | (exfalso; first | contradiction | omega) | (try (repeat simp only[push_cast,go_sem_proc,↓ite_only,M_block,t14, t13, c])))
    (with_reducible refine hE _ _ _ _ (nomatch ·) ?_)
    (repeat simp only[push_cast,go_sem_proc,↓ite_only,M_block])
    exact hX' _ _ hx02 (by simp only[zT,Nat.reduceBEq];rfl) (by simp only[zT,Nat.reduceBEq])
end Go.Proofs.YtbjaapiliegegaaGreatDoor.Sy
