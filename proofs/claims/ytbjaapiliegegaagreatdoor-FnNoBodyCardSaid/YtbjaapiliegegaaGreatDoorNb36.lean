/- Of the proof of FnNoBody: SfH SfI SfJ. -/
import Derived.Test.YtbjaapiliegegaaGreatDoorNb35
set_option linter.unusedVariables false
set_option linter.unusedSimpArgs false
section
namespace Go.Proofs.YtbjaapiliegegaaGreatDoor.Sy
open Go
set_option maxRecDepth 100000
variable {w0 : World} {h : Heap}
abbrev trC (hd : Value) (code : Nat) (meth : Str) (maj min : Nat) (bd : Value) (len : Int) (ch cl : Bool) (tr : Value) : List Value := [hd, I code, S meth, I maj, I min, bd, .int .i64 len, .bool ch, .bool cl, tr]
def atl11 (maj min : Nat) : Bool := decide (1 < maj) || (decide (maj = 1) && decide (1 ≤ min))
theorem proto_ok {tb code maj min : Nat} {hd bd tr : Value} {meth : Str} {len : Int} {ch cl : Bool} (hat : h.at tb = some (.cells (trC hd code meth maj min bd len ch cl tr) 170 0 0)) :
  ACall Tryz.prog w0 150 [ptr tb 0, I 1, I 1] h (fun v h' => v = .bool (atl11 maj min) ∧ h' = h) := by
 refine ACall.known fun hKn => ?_
 obtain ⟨hN, hB⟩ := hKn
 refine ACall.run noCount mixed Tryz.func150 rfl (by kernel_rfl) (Nat.le_of_ble_eq_true rfl) fun X hX => ?_
 by_cases h1 : 1 < maj
 ·have q1 : decide ((1 : Int) < (maj : Int)) = true := decide_eq_true (by omega)
  (repeat simp(disch:=omega)only[push_cast,go_sem_proc,↓ite_only,M_block,hat, q1])
  ((with_reducible refine hX _ _ _ (fun j hj => nomatch hj) ?_); simp only[push_cast,go_sem_proc,↓ite_only,M_block,Tryz.results150])
  unfold atl11; simp [h1]
 ·have q1 : decide ((1 : Int) < (maj : Int)) = false := decide_eq_false (by omega)
  by_cases h2 : maj = 1
  ·subst h2
   by_cases h3 : 1 ≤ min
   ·have q3 : decide ((1 : Int) ≤ (min : Int)) = true := decide_eq_true (by omega)
    have q0 : decide ((1 : Int) < ((1 : Nat) : Int)) = false := by decide
    (repeat simp(disch:=omega)only[push_cast,go_sem_proc,↓ite_only,M_block,hat, q0, q3])
    ((with_reducible refine hX _ _ _ (fun j hj => nomatch hj) ?_); simp only[push_cast,go_sem_proc,↓ite_only,M_block,Tryz.results150])
    unfold atl11; simp [h3]
   ·have q3 : decide ((1 : Int) ≤ (min : Int)) = false := decide_eq_false (by omega)
    (repeat simp(disch:=omega)only[push_cast,go_sem_proc,↓ite_only,M_block,hat, q3])
    ((with_reducible refine hX _ _ _ (fun j hj => nomatch hj) ?_); simp only[push_cast,go_sem_proc,↓ite_only,M_block,Tryz.results150])
    unfold atl11; simp [h3]
  ·have q2 : decide ((maj : Int) = 1) = false := decide_eq_false (by omega)
   (repeat simp(disch:=omega)only[push_cast,go_sem_proc,↓ite_only,M_block,hat, q1, q2])
   ((with_reducible refine hX _ _ _ (fun j hj => nomatch hj) ?_); simp only[push_cast,go_sem_proc,↓ite_only,M_block,Tryz.results150])
   unfold atl11; simp [h1, h2]
def CodingOut (own : Nat → Prop) (mb tb code maj min : Nat) (hs : Hdr) (bd tr : Value) (meth : Str) (len : Int) (ch cl : Bool) (v : Value) (h' : Heap) : Prop :=
 ∃ hs' ch' cl', h'.at tb = some (.cells (trC (.map (some mb)) code meth maj min bd len ch' cl' tr) 170 0 0) ∧ HMap own h' mb hs' [] ∧ (v = .nilIface ∨ ∃ x, v = .iface 230 x) ∧
   (getH hs sTE = none → v = .nilIface ∧ hs' = hs ∧ ch' = ch ∧ cl' = cl) ∧ ((getH hs sTE).isSome = true → hs' = delH hs sTE) ∧
   ((getH hs sTE).isSome = true → atl11 maj min = false → v = .nilIface ∧ ch' = ch ∧ cl' = true) ∧
   ((getH hs sTE).isSome = true → atl11 maj min = true → (valsH hs sTE).length = 1 → foldEq (snth (valsH hs sTE) 0) sChunked = true → v = .nilIface ∧ ch' = true ∧ cl' = cl) ∧
   ((getH hs sTE).isSome = true → atl11 maj min = true → ¬((valsH hs sTE).length = 1 ∧ foldEq (snth (valsH hs sTE) 0) sChunked = true) → ∃ x, v = .iface 230 x)
set_option maxHeartbeats 8000000 in
theorem coding_ok {own : Nat → Prop} {mb tb code maj min : Nat} {hs : Hdr} {bd tr : Value} {meth : Str} {len : Int} {ch cl : Bool} (m : HMap own h mb hs []) (hNm : w0.heap.size ≤ mb) (hNt : w0.heap.size ≤ tb) (htm : tb ≠ mb) (hto : ¬own tb) (hsh : ∀ x ∈ valsH hs sTE, x.length < 1000000000)
  (hat : h.at tb = some (.cells (trC (.map (some mb)) code meth maj min bd len ch cl tr) 170 0 0)) :
  ACall Tryz.prog w0 109 [ptr tb 0] h (fun v h' => Keep [mb, tb] h h' ∧ CodingOut own mb tb code maj min hs bd tr meth len ch cl v h') := by
 refine ACall.known fun hKn => ?_
 obtain ⟨hN, hB⟩ := hKn
 refine ACall.run noCount mixed Tryz.func109 rfl (by kernel_rfl) (Nat.le_of_ble_eq_true rfl) fun X hX => ?_
 have htl := hB _ _ hat
 obtain ⟨v, hlk, hv, hvo, hvn⟩ := m.val k_85 sTE true
 have hlk2 : alookup Tryz.prog h 85 (.map (some mb)) (.string ⟨#[84, 114, 97, 110, 115, 102, 101, 114, 45, 69, 110, 99, 111, 100, 105, 110, 103]⟩) true = some (.tuple #[v, .bool (getH hs sTE).isSome]) := hlk
 obtain ⟨a, cp, rfl⟩ := hv.len
 have hmt : mb ≠ tb := Ne.symm htm
 cases hg : (getH hs sTE).isSome with
 | false =>
  rw [hg] at hlk2
  have hgn : getH hs sTE = none := by cases hq : getH hs sTE with | none => rfl | some _ => rw [hq] at hg; cases hg
  (repeat simp(disch:=omega)only[push_cast,go_sem_proc,↓ite_only,M_block,hat, hlk2])
  ((with_reducible refine hX _ _ _ (fun j hj => nomatch hj) ?_); simp only[push_cast,go_sem_proc,↓ite_only,M_block,Tryz.results109])
  exact ⟨.refl _ _, hs, ch, cl, hat, m, .inl rfl, fun _ => ⟨rfl, rfl, rfl, rfl⟩, fun e => absurd e (by rw [hg]; simp), fun e => absurd e (by rw [hg]; simp), fun e => absurd e (by rw [hg]; simp), fun e => absurd e (by rw [hg]; simp)⟩
 | true =>
  rw [hg] at hlk2
  have hgn : getH hs sTE ≠ none := fun e => by rw [e] at hg; cases hg
  obtain ⟨ob, d1, d2⟩ := HMap.del (N := w0.heap.size) k_85 m hNm sTE
  have d1' : adelete w0.heap.size Tryz.prog h 85 (.map (some mb)) (.string ⟨#[84, 114, 97, 110, 115, 102, 101, 114, 45, 69, 110, 99, 111, 100, 105, 110, 103]⟩) = some (h.put mb ob) := d1
  have k1 : Keep [mb] h (h.put mb ob) := (Keep.refl _ _).put (.inl (by simp)) _
  have hv1 := hv.keep k1 (hv.ne m)
  generalize h1e : h.put mb ob = h1 at *
  have hat1 : h1.at tb = some (.cells (trC (.map (some mb)) code meth maj min bd len ch cl tr) 170 0 0) := (k1.2 _ htl (by simp; exact htm)).trans hat
  (repeat simp(disch:=omega)only[push_cast,go_sem_proc,↓ite_only,M_block,hat, hlk2, d1'])
  refine callM_of (proto_ok hat1) ?_
  rintro u h2 ⟨rfl, rfl⟩
  have kk : Keep [mb, tb] h h2 := k1.more (by simp)
  cases hp : atl11 maj min with
  | false =>
   (repeat(first|(simp(disch:=first|omega|(simp only[zN];omega))only[push_cast,go_sem_proc,↓ite_only,M_block,hat1])|(with_reducible refine⟨by omega,?_⟩)))
   ((with_reducible refine hX _ _ _ (fun j hj => nomatch hj) ?_); simp only[push_cast,go_sem_proc,↓ite_only,M_block,Tryz.results109])
   refine ⟨kk.put (.inl (by simp)) _, delH hs sTE, ch, true, at_put_eq _ _ _, d2.keep (X := [tb]) ((Keep.refl _ _).put (.inl (by simp)) _) (by simp; exact hto), .inl rfl, fun e => absurd e hgn, fun _ => rfl, fun _ _ => ⟨rfl, rfl, rfl⟩, fun _ e => absurd e (by rw [hp]; simp), fun _ e => absurd e (by rw [hp]; simp)⟩
  | true =>
   by_cases h1l : (valsH hs sTE).length = 1
   ·have q1 : decide (((valsH hs sTE).length : Int) = 1) = true := decide_eq_true (by omega)
    obtain ⟨b, o, cp', cs, hv', hcp, hat', hcl, hget⟩ := hv1.at (by omega)
    cases hv'
    have hgt := hget 0 (by omega)
    rw [Nat.add_zero] at hgt
    have hz : decide ((0 : Int) < ((valsH hs sTE).length : Int)) = true := decide_eq_true (by omega)
    have hmem : snth (valsH hs sTE) 0 ∈ valsH hs sTE := List.mem_of_getElem? (snth_get (by omega))
    (repeat(first|(simp only[push_cast,go_sem_proc,↓ite_only,M_block,q1, hat', hgt, hz])|(with_reducible refine⟨by omega,?_⟩)))
    refine callM_of (equalFold_ok _ _ (hsh _ hmem)) ?_
    rintro u h3 ⟨rfl, rfl⟩
    cases hf : foldEq (snth (valsH hs sTE) 0) sChunked with
    | true =>
     have hf' : foldEq (snth (valsH hs sTE) 0) [99, 104, 117, 110, 107, 101, 100] = true := hf
     (repeat(first|(simp(disch:=first|omega|(simp only[zN];omega))only[push_cast,go_sem_proc,↓ite_only,M_block,hat1, hf'])|(with_reducible refine⟨by omega,?_⟩)))
     ((with_reducible refine hX _ _ _ (fun j hj => nomatch hj) ?_); simp only[push_cast,go_sem_proc,↓ite_only,M_block,Tryz.results109])
     refine ⟨kk.put (.inl (by simp)) _, delH hs sTE, true, cl, at_put_eq _ _ _, d2.keep (X := [tb]) ((Keep.refl _ _).put (.inl (by simp)) _) (by simp; exact hto), .inl rfl, fun e => absurd e hgn, fun _ => rfl, fun _ e => absurd e (by rw [hp]; simp), fun _ _ _ _ => ⟨rfl, rfl, rfl⟩, fun _ _ e => absurd ⟨h1l, hf⟩ e⟩
    | false =>
     have hf' : foldEq (snth (valsH hs sTE) 0) [99, 104, 117, 110, 107, 101, 100] = false := hf
     (repeat simp only[push_cast,go_sem_proc,↓ite_only,M_block,hf'])
     ((with_reducible refine hX _ _ _ (fun j hj => nomatch hj) ?_); simp only[push_cast,go_sem_proc,↓ite_only,M_block,Tryz.results109])
     refine ⟨kk.new _, delH hs sTE, ch, cl, (at_new_ne _ _ (by have := kk.1; omega)).trans hat1, d2.keep (X := []) ((Keep.refl _ _).new _) (by simp), .inr ⟨_, rfl⟩, fun e => absurd e hgn, fun _ => rfl, fun _ e => absurd e (by rw [hp]; simp), fun _ _ _ e => absurd e (by rw [hf]; simp), fun _ _ _ => ⟨_, rfl⟩⟩
   ·have q1 : decide (((valsH hs sTE).length : Int) = 1) = false := decide_eq_false (by omega)
    (repeat simp only[push_cast,go_sem_proc,↓ite_only,M_block,q1])
    ((with_reducible refine hX _ _ _ (fun j hj => nomatch hj) ?_); simp only[push_cast,go_sem_proc,↓ite_only,M_block,Tryz.results109])
    refine ⟨kk.new _, delH hs sTE, ch, cl, (at_new_ne _ _ (by have := kk.1; omega)).trans hat1, d2.keep (X := []) ((Keep.refl _ _).new _) (by simp), .inr ⟨_, rfl⟩, fun e => absurd e hgn, fun _ => rfl, fun _ e => absurd e (by rw [hp]; simp), fun _ _ e => absurd e h1l, fun _ _ _ => ⟨_, rfl⟩⟩
end Go.Proofs.YtbjaapiliegegaaGreatDoor.Sy
end
section
namespace Go.Proofs.YtbjaapiliegegaaGreatDoor.Sy
open Go
set_option maxRecDepth 100000
variable {w0 : World} {h : Heap}
def NumS (s : Str) : Prop := s ≠ [] ∧ s.all figB = true ∧ s.length ≤ 10
theorem uint64_ok (s : Str) (hs : NumS s) : ACall Tryz.prog w0 64 [S s, I 10, I 63] h (fun v h' => v = .tuple #[.int .u64 (decN s), .nilIface] ∧ Ext h h') := by
 obtain ⟨h0, h1, h2⟩ := hs
 refine ACall.known fun hKn => ?_
 obtain ⟨hN, hB⟩ := hKn
 refine ACall.run noCount mixed Tryz.func64 rfl (by kernel_rfl) (Nat.le_of_ble_eq_true rfl) fun X hX => ?_
 (repeat simp only[push_cast,go_sem_proc,↓ite_only,M_block])
 refine callM_of (uint95_ok s h0 (by omega)) ?_
 rintro v h3 ⟨⟨x, e, rfl, _, _, h4, h5⟩, hx⟩
 have he := h5 h1 h2
 subst he
 obtain ⟨_, _, _, rfl⟩ := h4 rfl
 (repeat simp only[push_cast,go_sem_proc,↓ite_only,M_block])
 ((with_reducible refine hX _ _ _ (fun j hj => nomatch hj) ?_); simp only[push_cast,go_sem_proc,↓ite_only,M_block,Tryz.results64])
 exact hx
theorem fig_space {c : UInt8} (h : figB c = true) : spB c = false := by
 unfold figB at h
 unfold spB
 simp at h ⊢
 omega
theorem trimP_fig {s : Str} (h : s.all figB = true) : trimP spB s = s := by
 have h1 : s.dropWhile spB = s := by
  cases s with
  | nil => rfl
  | cons c r => exact dw_stop (.inr (fig_space (List.all_eq_true.1 h c (by simp))))
 unfold trimP
 rw [h1]
 have h2 : s.reverse.dropWhile spB = s.reverse := by
  cases hr : s.reverse with
  | nil => rfl
  | cons c r => exact dw_stop (.inr (fig_space (List.all_eq_true.1 h c (by
    have : c ∈ s.reverse := by rw [hr]; simp
    simpa using this))))
 rw [h2, List.reverse_reverse]
theorem num_lt {s : Str} (h : NumS s) : decN s < 10000000000 := by
 have h3 := decN_lt s.length s (Nat.le_refl _) (by rw [List.take_length]; exact h.2.1)
 rw [List.take_length] at h3
 have : 10 ^ s.length ≤ 10 ^ 10 := Nat.pow_le_pow_right (by omega) h.2.2
 omega
def clenL (ss : List Str) : Int := match ss with | [] => -1 | x :: _ => decN x
theorem clen_ok (v : Value) (ss : List Str) (hv : SVal h v ss) (hs : ∀ x, ss.head? = some x → NumS x) : ACall Tryz.prog w0 111 [v] h (fun u h' => u = .tuple #[.int .i64 (clenL ss), .nilIface] ∧ Ext h h') := by
 refine ACall.known fun hKn => ?_
 obtain ⟨hN, hB⟩ := hKn
 refine ACall.run noCount mixed Tryz.func111 rfl (by kernel_rfl) (Nat.le_of_ble_eq_true rfl) fun X hX => ?_
 obtain ⟨a, cp, rfl⟩ := hv.len
 cases ss with
 | nil =>
  (repeat simp only[push_cast,go_sem_proc,↓ite_only,M_block])
  ((with_reducible refine hX _ _ _ (fun j hj => nomatch hj) ?_); simp only[push_cast,go_sem_proc,↓ite_only,M_block,Tryz.results111])
  exact ⟨rfl, .refl _⟩
 | cons x r =>
  have hx := hs x rfl
  obtain ⟨h0, h1, h2⟩ := id hx
  obtain ⟨b, o, cp', cs, hv', hcp, hat, hcl, hget⟩ := hv.at (by simp)
  cases hv'
  have hgt := hget 0 (by simp)
  rw [Nat.add_zero] at hgt
  have hsx : snth (x :: r) 0 = x := rfl
  rw [hsx] at hgt
  have hz : decide (((r.length : Int) + 1) = 0) = false := decide_eq_false (by omega)
  have hz2 : decide ((0 : Int) < (r.length : Int) + 1) = true := decide_eq_true (by omega)
  (repeat(first|(simp only[push_cast,go_sem_proc,↓ite_only,M_block,hat, hgt, hz, hz2])|(with_reducible refine⟨by omega,?_⟩)))
  refine callM_of (trimString_ok x (by omega)) ?_
  rintro u h3 ⟨rfl, rfl⟩
  rw [trimP_fig h1]
  (repeat simp(disch:=omega)only[push_cast,go_sem_proc,↓ite_only,M_block,h0])
  refine callM_of (uint64_ok x hx) ?_
  rintro u h4 ⟨rfl, hx4⟩
  have hn := num_lt hx
  have hw : IntKind.i64.wrap (decN x : Int) = decN x := wrap64 (by omega) (by omega)
  (repeat simp only[push_cast,go_sem_proc,↓ite_only,M_block,hw])
  ((with_reducible refine hX _ _ _ (fun j hj => nomatch hj) ?_); simp only[push_cast,go_sem_proc,↓ite_only,M_block,Tryz.results111])
  exact ⟨rfl, hx4⟩
def sHEAD : Str := [72, 69, 65, 68]
def flenL (resp : Bool) (code : Nat) (meth : Str) (ch : Bool) (lens : List Str) : Int :=
 match resp && sameL meth sHEAD, decide (code / 100 = 1) || (decide (code = 204) || decide (code = 304)), ch, lens.isEmpty, resp with
 | true, _, _, _, _ => 0
 | false, true, _, _, _ => 0
 | false, false, true, _, _ => -1
 | false, false, false, false, _ => clenL lens
 | false, false, false, true, true => -1
 | false, false, false, true, false => 0
def flenH (resp : Bool) (code : Nat) (meth : Str) (ch : Bool) (hs : Hdr) : Hdr :=
 match resp && sameL meth sHEAD, decide (code / 100 = 1) || (decide (code = 204) || decide (code = 304)), ch || (valsH hs sCL).isEmpty with
 | false, false, true => delH hs sCL
 | _, _, _ => hs
set_option maxHeartbeats 8000000 in
theorem flen_ok {own : Nat → Prop} {mb code : Nat} {hs : Hdr} {meth : Str} {resp ch : Bool} (m : HMap own h mb hs []) (hNm : w0.heap.size ≤ mb) (hc : code < 1000000) (hl : (valsH hs sCL).length ≤ 1) (hn : ∀ x, (valsH hs sCL).head? = some x → NumS x) :
  ACall Tryz.prog w0 110 [.bool resp, I code, S meth, .map (some mb), .bool ch] h (fun v h' => v = .tuple #[.int .i64 (flenL resp code meth ch (valsH hs sCL)), .nilIface] ∧ Keep [mb] h h' ∧ HMap own h' mb (flenH resp code meth ch hs) []) := by
 refine ACall.known fun hKn => ?_
 obtain ⟨hN, hB⟩ := hKn
 refine ACall.run noCount mixed Tryz.func110 rfl (by kernel_rfl) (Nat.le_of_ble_eq_true rfl) fun X hX => ?_
 obtain ⟨v, hlk, hv, hvo, hvn⟩ := m.val k_85 sCL false
 have hlk' : alookup Tryz.prog h 85 (.map (some mb)) (S sCL) false = some v := by simpa using hlk
 have hlk2 : alookup Tryz.prog h 85 (.map (some mb)) (.string ⟨#[67, 111, 110, 116, 101, 110, 116, 45, 76, 101, 110, 103, 116, 104]⟩) false = some v := hlk'
 obtain ⟨a, cp, hve⟩ := hv.len
 have d1 : decide ((1 : Int) < ((valsH hs sCL).length : Int)) = false := decide_eq_false (by omega)
 have hL : flenL resp code meth ch (valsH hs sCL) = flenL resp code meth ch (valsH hs sCL) := rfl
 generalize hlens : valsH hs sCL = lens at *
 subst hve
 (rw [M_seq]; refine M_hide (fun C1 hC1 => ?_))
 (repeat simp only[push_cast,go_sem_proc,↓ite_only,M_block])
 (subst hC1)
 (rw [M_seq]; refine M_hide (fun C1 hC1 => ?_))
 (repeat simp only[push_cast,go_sem_proc,↓ite_only,M_block])
 (subst hC1)
 (rw [M_seq]; refine M_hide (fun C1 hC1 => ?_))
 (repeat simp only[push_cast,go_sem_proc,↓ite_only,M_block,hlk2])
 (subst hC1)
 (rw [M_seq]; refine M_hide (fun C1 hC1 => ?_))
 (repeat simp only[push_cast,go_sem_proc,↓ite_only,M_block,d1])
 (subst hC1)
 rw [M_seq]
 refine M_cut (fun tm h1 => Ext h h1 ∧ tget tm 0 = .bool resp ∧ tget tm 1 = I code ∧ tget tm 2 = S meth ∧ tget tm 3 = .map (some mb) ∧ tget tm 4 = .bool ch ∧ tget tm 12 = .bool (!resp) ∧ tget tm 13 = .slice a lens.length cp ∧ (lens ≠ [] → tget tm 10 = .int .i64 (clenL lens))) (fun R hR hE => ?_) ?_
 ·cases lens with
  | nil =>
   (repeat simp only[push_cast,go_sem_proc,↓ite_only,M_block])
   exact hR _ _ ⟨.refl _, (by simp only[zT,Nat.reduceBEq]), (by simp only[zT,Nat.reduceBEq]), (by simp only[zT,Nat.reduceBEq]), (by simp only[zT,Nat.reduceBEq]), (by simp only[zT,Nat.reduceBEq]), (by simp only[zT,Nat.reduceBEq]), (by simp only[zT,Nat.reduceBEq];rfl), fun e => absurd rfl e⟩
  | cons x r =>
   have d2 : decide ((0 : Int) < (r.length : Int) + 1) = true := decide_eq_true (by omega)
   (repeat simp only[push_cast,go_sem_proc,↓ite_only,M_block,d2])
   have hlc : (r.length + 1) = (x :: r).length := rfl
   refine callM_of (clen_ok _ (x :: r) hv hn) ?_
   rintro u h2 ⟨rfl, hx2⟩
   (repeat simp only[push_cast,go_sem_proc,↓ite_only,M_block])
   exact hR _ _ ⟨hx2, (by simp only[zT,Nat.reduceBEq]), (by simp only[zT,Nat.reduceBEq]), (by simp only[zT,Nat.reduceBEq]), (by simp only[zT,Nat.reduceBEq]), (by simp only[zT,Nat.reduceBEq]), (by simp only[zT,Nat.reduceBEq]), (by simp only[zT,Nat.reduceBEq];rfl), fun _ => (by simp only[zT,Nat.reduceBEq])⟩
 ·rintro tm1 h1 ⟨hx1, t0, t1, t2, t3, t4, t12, t13, t10⟩
  have m1 := m.keep (hx1.keep []) (by simp)
  have fin : ∀ (x : Int) (tm : Tm) (h' : Heap), flenL resp code meth ch lens = x → tget tm 10 = .int .i64 x → tget tm 11 = .nilIface → Keep [mb] h h' → HMap own h' mb (flenH resp code meth ch hs) [] → X .ret tm [] h' := by
   intro x tm h' e1 e2 e3 e4 e5
   rw [e1] at hX
   ((with_reducible refine hX _ _ _ (fun j hj => nomatch hj) ?_); simp only[push_cast,go_sem_proc,↓ite_only,M_block,Tryz.results110,e2, e3])
   exact ⟨e4, e5⟩
  have hq : (code : Int).tdiv 100 = (code : Int) / 100 := Int.tdiv_eq_ediv_of_nonneg (by omega)
  have hqw : IntKind.i64.wrap ((code : Int) / 100) = (code : Int) / 100 := wrap64 (by omega) (by omega)
  cases hr : (resp && sameL meth sHEAD) with
  | true =>
   obtain ⟨hr1, hr2⟩ : resp = true ∧ sameL meth sHEAD = true := by simpa using hr
   subst hr1
   have hr3 : sameL meth [72, 69, 65, 68] = true := hr2
   (repeat simp only[push_cast,go_sem_proc,↓ite_only,M_block,t0, t2])
   refine callM_of (noResp_ok meth) ?_
   rintro u h2 ⟨rfl, rfl⟩
   (repeat simp only[push_cast,go_sem_proc,↓ite_only,M_block,hr3])
   exact fin 0 _ _ (by unfold flenL; rw [hr]) (by simp only[zT,Nat.reduceBEq]) (by simp only[zT,Nat.reduceBEq]) (hx1.keep _) (by unfold flenH; rw [hr]; exact m1)
  | false =>
   rw [M_seq]
   refine M_cut (fun tm h' => h' = h1 ∧ tget tm 0 = .bool resp ∧ tget tm 1 = I code ∧ tget tm 3 = .map (some mb) ∧ tget tm 4 = .bool ch ∧ tget tm 12 = .bool (!resp) ∧ tget tm 13 = .slice a lens.length cp ∧ (lens ≠ [] → tget tm 10 = .int .i64 (clenL lens))) (fun R hR hE => ?_) ?_
   ·cases resp with
    | true =>
     have hr3 : sameL meth [72, 69, 65, 68] = false := by
      have hr4 : sameL meth sHEAD = false := by simpa using hr
      exact hr4
     (repeat simp only[push_cast,go_sem_proc,↓ite_only,M_block,t0, t2])
     refine callM_of (noResp_ok meth) ?_
     rintro u h2 ⟨rfl, rfl⟩
     (repeat simp only[push_cast,go_sem_proc,↓ite_only,M_block,hr3])
     exact hR _ _ ⟨rfl, ‹_›, ‹_›, ‹_›, ‹_›, ‹_›, ‹_›, fun e => by have := t10 e; assumption⟩
    | false =>
     (repeat simp only[push_cast,go_sem_proc,↓ite_only,M_block,t0, t2])
     exact hR _ _ ⟨rfl, ‹_›, ‹_›, ‹_›, ‹_›, ‹_›, ‹_›, fun e => by have := t10 e; assumption⟩
   ·rintro tm2 h2 ⟨rfl, t0, t1, t3, t4, t12, t13, t10⟩
    by_cases hc1 : code / 100 = 1
    ·have q1 : decide ((code : Int) / 100 = 1) = true := decide_eq_true (by omega)
     (repeat simp only[push_cast,go_sem_proc,↓ite_only,M_block,t1, hq, hqw, q1])
     exact fin 0 _ _ (by unfold flenL; rw [hr, decide_eq_true hc1]; rfl) (by simp only[zT,Nat.reduceBEq]) (by simp only[zT,Nat.reduceBEq]) (hx1.keep _) (by unfold flenH; rw [hr, decide_eq_true hc1]; exact m1)
    ·have q1 : decide ((code : Int) / 100 = 1) = false := decide_eq_false (by omega)
     by_cases hc2 : code = 204
     ·have q2 : decide ((code : Int) = 204) = true := decide_eq_true (by omega)
      (repeat simp only[push_cast,go_sem_proc,↓ite_only,M_block,t1, hq, hqw, q1, q2])
      exact fin 0 _ _ (by unfold flenL; rw [hr, decide_eq_true hc2, Bool.true_or, Bool.or_true]) (by simp only[zT,Nat.reduceBEq]) (by simp only[zT,Nat.reduceBEq]) (hx1.keep _) (by unfold flenH; rw [hr, decide_eq_true hc2, Bool.true_or, Bool.or_true]; exact m1)
     ·have q2 : decide ((code : Int) = 204) = false := decide_eq_false (by omega)
      by_cases hc3 : code = 304
      ·have q3 : decide ((code : Int) = 304) = true := decide_eq_true (by omega)
       (repeat simp only[push_cast,go_sem_proc,↓ite_only,M_block,t1, hq, hqw, q1, q2, q3])
       exact fin 0 _ _ (by unfold flenL; rw [hr, decide_eq_true hc3, Bool.or_true, Bool.or_true]) (by simp only[zT,Nat.reduceBEq]) (by simp only[zT,Nat.reduceBEq]) (hx1.keep _) (by unfold flenH; rw [hr, decide_eq_true hc3, Bool.or_true, Bool.or_true]; exact m1)
      ·have q3 : decide ((code : Int) = 304) = false := decide_eq_false (by omega)
       have hno : (decide (code / 100 = 1) || (decide (code = 204) || decide (code = 304))) = false := by
        rw [decide_eq_false hc1, decide_eq_false hc2, decide_eq_false hc3]; rfl
       cases ch with
       | true =>
        (repeat simp only[push_cast,go_sem_proc,↓ite_only,M_block,t1, t3, t4, hq, hqw, q1, q2, q3])
        refine callM_of (hdel_ok m1 hNm sCL (by decide) (by decide)) ?_
        rintro u h3 ⟨k3, m3⟩
        (repeat simp only[push_cast,go_sem_proc,↓ite_only,M_block])
        exact fin (-1) _ _ (by unfold flenL; rw [hr, hno]) (by simp only[zT,Nat.reduceBEq]) (by simp only[zT,Nat.reduceBEq]) ((hx1.keep _).trans k3) (by unfold flenH; rw [hr, hno, Bool.true_or]; exact m3)
       | false =>
        by_cases hle : lens = []
        ·have q4 : decide ((0 : Int) < (lens.length : Int)) = false := decide_eq_false (by rw [hle]; simp)
         (repeat simp only[push_cast,go_sem_proc,↓ite_only,M_block,t1, t3, t4, t13, hq, hqw, q1, q2, q3, q4])
         refine callM_of (hdel_ok m1 hNm sCL (by decide) (by decide)) ?_
         rintro u h3 ⟨k3, m3⟩
         cases resp with
         | true =>
          (repeat simp only[push_cast,go_sem_proc,↓ite_only,M_block,t12])
          exact fin (-1) _ _ (by unfold flenL; rw [hr, hno, hle]; rfl) (by simp only[zT,Nat.reduceBEq]) (by simp only[zT,Nat.reduceBEq]) ((hx1.keep _).trans k3) (by unfold flenH; rw [hr, hno, hlens, hle]; exact m3)
         | false =>
          (repeat simp only[push_cast,go_sem_proc,↓ite_only,M_block,t12])
          exact fin 0 _ _ (by unfold flenL; rw [hr, hno, hle]; rfl) (by simp only[zT,Nat.reduceBEq]) (by simp only[zT,Nat.reduceBEq]) ((hx1.keep _).trans k3) (by unfold flenH; rw [hr, hno, hlens, hle]; exact m3)
        ·have q4 : decide ((0 : Int) < (lens.length : Int)) = true := decide_eq_true (by have := List.length_pos_iff.2 hle; omega)
         have hie : lens.isEmpty = false := by cases lens with | nil => exact absurd rfl hle | cons _ _ => rfl
         have t10' := t10 hle
         (repeat simp only[push_cast,go_sem_proc,↓ite_only,M_block,t1, t4, t13, t10', hq, hqw, q1, q2, q3, q4])
         exact fin (clenL lens) _ _ (by unfold flenL; rw [hr, hno, hie]) (by simp only[zT,Nat.reduceBEq]) (by simp only[zT,Nat.reduceBEq]) (hx1.keep _) (by unfold flenH; rw [hr, hno, hlens, hie]; exact m1)
end Go.Proofs.YtbjaapiliegegaaGreatDoor.Sy
end
section
namespace Go.Proofs.YtbjaapiliegegaaGreatDoor.Sy
open Go
set_option maxRecDepth 100000
variable {w0 : World} {h : Heap}
@[push_cast] def p112_22 : Plan := [(0, []), (1, []), (2, [])]
theorem noTrailer_ok {own : Nat → Prop} {mb : Nat} {hs : Hdr} (m : HMap own h mb hs []) (x : Int) : ACall Tryz.prog w0 112 [.map (some mb), .bool false, .int .i64 x] h (fun v h' => v = .tuple #[.map none, .nilIface] ∧ h' = h) := by
 refine ACall.known fun hKn => ?_
 obtain ⟨hN, hB⟩ := hKn
 refine ACall.run noCount mixed Tryz.func112 rfl (by kernel_rfl) (Nat.le_of_ble_eq_true rfl) fun X hX => ?_
 obtain ⟨v, hlk, hv, hvo, hvn⟩ := m.val k_85 sTr true
 have hlk2 : alookup Tryz.prog h 85 (.map (some mb)) (.string ⟨#[84, 114, 97, 105, 108, 101, 114]⟩) true = some (.tuple #[v, .bool (getH hs sTr).isSome]) := hlk
 cases hg : (getH hs sTr).isSome with
 | false =>
  rw [hg] at hlk2
  (repeat simp only[push_cast,go_sem_proc,↓ite_only,M_block,hlk2])
  ((with_reducible refine hX _ _ _ (fun j hj => nomatch hj) ?_); simp only[push_cast,go_sem_proc,↓ite_only,M_block,Tryz.results112])
 | true =>
  rw [hg] at hlk2
  (repeat simp only[push_cast,go_sem_proc,↓ite_only,M_block,hlk2])
  ((with_reducible refine hX _ _ _ (fun j hj => nomatch hj) ?_); simp only[push_cast,go_sem_proc,↓ite_only,M_block,Tryz.results112])
theorem noBody_ok : ACall Tryz.prog w0 115 [] h (fun v h' => v = .agg #[] ∧ Ext h h') := by
 refine ACall.known fun hKn => ?_
 obtain ⟨hN, hB⟩ := hKn
 refine ACall.run noCount mixed Tryz.func115 rfl (by kernel_rfl) (Nat.le_of_ble_eq_true rfl) fun X hX => ?_
 (repeat(first|(simp only[push_cast,go_sem_proc,↓ite_only,M_block])|(with_reducible refine⟨by omega,?_⟩)))
 ((with_reducible refine hX _ _ _ (fun j hj => nomatch hj) ?_); simp only[push_cast,go_sem_proc,↓ite_only,M_block,Tryz.results115])
 exact ((Ext.refl _).new _).put (Nat.le_refl _) _
theorem get_delH : ∀ (hs : Hdr) (k k' : Str), k ≠ k' → getH (delH hs k) k' = getH hs k'
 | [], _, _, _ => rfl
 | p :: t, k, k', hne => by
  unfold delH
  by_cases hp : p.1 = k
  ·rw [decide_eq_true hp]
   show getH t k' = getH (p :: t) k'
   unfold getH
   rw [decide_eq_false (fun e => hne (hp.symm.trans e))]
   cases t <;> rfl
  ·rw [decide_eq_false hp]
   show getH (p :: delH t k) k' = getH (p :: t) k'
   unfold getH
   cases decide (p.1 = k') with
   | true => rfl
   | false => exact get_delH t k k' hne
theorem get_closeH (maj min : Nat) (rm : Bool) (hs : Hdr) (k : Str) (h : sCo ≠ k) : getH (closeH maj min rm hs) k = getH hs k := by
 unfold closeH
 cases decide (maj < 1) with
 | true => rfl
 | false =>
  cases decide (maj = 1 ∧ min = 0) with
  | true => rfl
  | false =>
   cases (valsH hs sCo).any (tokIn sClose) && rm with
   | true => exact get_delH hs sCo k h
   | false => rfl
theorem vals_closeH (maj min : Nat) (rm : Bool) (hs : Hdr) (k : Str) (h : sCo ≠ k) : valsH (closeH maj min rm hs) k = valsH hs k := by unfold valsH; rw [get_closeH maj min rm hs k h]
end Go.Proofs.YtbjaapiliegegaaGreatDoor.Sy
end
