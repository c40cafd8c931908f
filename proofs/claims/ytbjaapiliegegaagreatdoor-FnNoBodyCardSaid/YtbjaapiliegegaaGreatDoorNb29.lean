/- Of the proof of FnNoBody: SdJ SdK. -/
import Derived.Test.YtbjaapiliegegaaGreatDoorNb28
set_option linter.unusedVariables false
set_option linter.unusedSimpArgs false
section
namespace Go.Proofs.YtbjaapiliegegaaGreatDoor.Sy
open Go
set_option maxRecDepth 100000
variable {w0 : World} {h : Heap}
theorem data_str {a : Option Addr} {cp : Nat} {l : Str} (d : Data h (.slice a l.length cp) l) : strOf h a l.length = some (S l, h) := by
 rcases d with ⟨rfl, a', cp', e⟩ | ⟨b, pre, post, cp', lo, hi, e, hcp, hat⟩
 ·exact strOf_zero a
 ·cases e
  simp only [strOf, strLoad, loadN_mid hat rfl, bytesOf_vals]
def TextOut (g : Bio) (rest : Str) (v : Value) (h' : Heap) : Prop :=
 (∃ line rest', v = .tuple #[S line, .nilIface] ∧ BR h' g rest' ∧ ((idxL rest 10 < rest.length ∧ line = dropCR (rest.take (idxL rest 10)) ∧ rest' = rest.drop (idxL rest 10 + 1)) ∨ (¬idxL rest 10 < rest.length ∧ line = rest ∧ rest ≠ [] ∧ rest' = []))) ∨
 (v = .tuple #[S [], eofV] ∧ ¬idxL rest 10 < rest.length ∧ BR h' g [])
theorem textLine_ok {g : Bio} {tp : Nat} {bv : Value} {rest : Str} (G : g.Ok w0.heap.size) (T : TP h tp g bv) (b : BR h g rest) :
  ACall Tryz.prog w0 79 [ptr tp 0] h (fun v h' => Keep g.X h h' ∧ TextOut g rest v h') := by
 refine ACall.known fun hKn => ?_
 obtain ⟨hN, hB⟩ := hKn
 refine ACall.run noCount mixed Tryz.func79 rfl (by kernel_rfl) (Nat.le_of_ble_eq_true rfl) fun X hX => ?_
 (repeat simp only[push_cast,go_sem_proc,↓ite_only,M_block])
 refine callM_of (readLineSlice_ok (-1) G T b) ?_
 rintro v h1 ⟨k1, hout⟩
 rcases hout with ⟨buf, r, w, lb, lrs, sv, src, vl, line, b1, rfl, hl, hc⟩ | ⟨rfl, hm, b1⟩ | ⟨h0, _⟩
 ·obtain ⟨a, cp, rfl⟩ := hl.len
  have hs := data_str (hl.data b1)
  (repeat simp only[push_cast,go_sem_proc,↓ite_only,M_block,↓hs])
  ((with_reducible refine hX _ _ _ (fun j hj => nomatch hj) ?_); simp only[push_cast,go_sem_proc,↓ite_only,M_block,Tryz.results79])
  exact ⟨k1, .inl ⟨line, _, rfl, ⟨_, _, _, _, _, _, _, b1, rfl⟩, hc⟩⟩
 ·(repeat simp only[push_cast,go_sem_proc,↓ite_only,M_block])
  ((with_reducible refine hX _ _ _ (fun j hj => nomatch hj) ?_); simp only[push_cast,go_sem_proc,↓ite_only,M_block,Tryz.results79])
  exact ⟨k1, .inr ⟨rfl, hm, b1⟩⟩
 ·omega
set_option maxHeartbeats 4000000 in
theorem upcoming_ok {g : Bio} {tp : Nat} {bv : Value} {rest : Str} (G : g.Ok w0.heap.size) (T : TP h tp g bv) (b : BR h g rest) :
  ACall Tryz.prog w0 141 [ptr tp 0] h (fun v h' => ∃ n : Nat, n ≤ 1000 ∧ v = I n ∧ Keep g.X h h' ∧ BR h' g rest) := by
 refine ACall.known fun hKn => ?_
 obtain ⟨hN, hB⟩ := hKn
 refine ACall.run noCount mixed Tryz.func141 rfl (by kernel_rfl) (Nat.le_of_ble_eq_true rfl) fun X hX => ?_
 obtain ⟨buf, r, w, lb, lrs, sv, src, b0, e0⟩ := b
 have T0 := T.at'
 (repeat simp(disch:=omega)only[push_cast,go_sem_proc,↓ite_only,M_block,T0])
 refine callM_of (peek_ok (n := 1) G b0 (by omega)) ?_
 rintro v h1 ⟨k1, buf1, r1, w1, sv1, src1, b1, e1, _, _, sl, rfl, hd1⟩
 have T1 := (T.keep k1 T.off).at'
 (repeat simp(disch:=omega)only[push_cast,go_sem_proc,↓ite_only,M_block,T1])
 refine callM_of (buffered_ok b1) ?_
 rintro v h2 ⟨rfl, rfl⟩
 have hww := b1.ww
 have hrw := b1.rw
 by_cases hz : w1 - r1 = 0
 ·have hz' : decide ((w1 : Int) - (r1 : Int) = 0) = true := decide_eq_true (by omega)
  (repeat simp(disch:=omega)only[push_cast,go_sem_proc,↓ite_only,M_block,hz'])
  ((with_reducible refine hX _ _ _ (fun j hj => nomatch hj) ?_); simp only[push_cast,go_sem_proc,↓ite_only,M_block,Tryz.results141])
  exact ⟨0, by omega, rfl, k1, _, _, _, _, _, _, _, b1, by rw [e0, e1]⟩
 ·have hz' : decide ((w1 : Int) - (r1 : Int) = 0) = false := decide_eq_false (by omega)
  (repeat simp(disch:=omega)only[push_cast,go_sem_proc,↓ite_only,M_block,hz', T1])
  have hI : (w1 : Int) - (r1 : Int) = ((w1 - r1 : Nat) : Int) := by omega
  rw [hI]
  refine callM_of (peek_ok (n := w1 - r1) G b1 (by omega)) ?_
  rintro v h3 ⟨k3, buf3, r3, w3, sv3, src3, b3, e3, hsame, _, sl3, rfl, hd3⟩
  have k13 := k1.trans k3
  have hlen : ((restL buf1 r1 w1 src1).take (w1 - r1)).length ≤ 4096 := by rw [List.length_take]; omega
  generalize (restL buf1 r1 w1 src1).take (w1 - r1) = X0 at hd3 hlen
  (repeat simp(disch:=omega)only[push_cast,go_sem_proc,↓ite_only,M_block])
  refine M_loop (fun tm h4 n => ∃ (x : Str) (u : Value) (c : Nat), n = x.length ∧ x.length ≤ 4096 ∧ h4 = h3 ∧ Data h3 u x ∧ tget tm 4 = u ∧ tget tm 2 = I c ∧ c ≤ 1000) X0.length
   ⟨X0, sl3, 0, rfl, hlen, rfl, hd3, (by simp only[zT,Nat.reduceBEq]), (by simp only[zT,Nat.reduceBEq];rfl), by omega⟩ ?_
  rintro tm1 h4 n R ⟨x, u, c, rfl, hx, rfl, hd, t4, t2, hc⟩ hR hE
  obtain ⟨a, cp, hu⟩ := hd.len
  subst hu
  by_cases hgo : 0 < x.length ∧ c < 1000
  ·have hp : decide ((0 : Int) < (x.length : Int)) = true := decide_eq_true (by omega)
   have hq : decide ((c : Int) < 1000) = true := decide_eq_true (by omega)
   (repeat simp only[push_cast,go_sem_proc,↓ite_only,M_block,t4, t2, hp, hq])
   refine callM_of (cutByte_ok 10 hd (by omega)) ?_
   rintro v h5 ⟨rfl, y, z, rfl, hin, hout⟩
   have hyz : ∃ ly lz, Data h5 y ly ∧ Data h5 z lz ∧ lz.length < x.length ∧ ly.length ≤ x.length := by
    by_cases hit : idxL x 10 < x.length
    ·obtain ⟨s1, s2⟩ := hin hit
     exact ⟨_, _, hd.sub s1, hd.sub s2, by rw [List.length_take, List.length_drop]; omega, by rw [List.length_take, List.length_drop]; omega⟩
    ·obtain ⟨rfl, rfl⟩ := hout hit
     exact ⟨x, [], hd, .inl ⟨rfl, _, _, rfl⟩, by simp; omega, Nat.le_refl _⟩
   obtain ⟨ly, lz, hy, hz2, hlt, hly⟩ := hyz
   obtain ⟨ay, cpy, hy2⟩ := hy.len
   subst hy2
   rcases Nat.eq_zero_or_pos ly.length with h0 | h0
   ·have hl0 : decide ((ly.length : Int) = 0) = true := decide_eq_true (by omega)
    (repeat simp only[push_cast,go_sem_proc,↓ite_only,M_block,t2, hl0])
    (with_reducible refine hE _ _ _ _ (nomatch ·) ?_)
    (repeat simp only[push_cast,go_sem_proc,↓ite_only,M_block,t2])
    ((with_reducible refine hX _ _ _ (fun j hj => nomatch hj) ?_); simp only[push_cast,go_sem_proc,↓ite_only,M_block,Tryz.results141])
    exact ⟨c, by omega, rfl, k13, _, _, _, _, _, _, _, b3, by rw [e0, e3, e1]⟩
   ·obtain ⟨bl, pre, post, cpl, lo, hi, hv, hcpl, hatl⟩ := hy.at h0
    cases hv
    have hl0 : decide ((ly.length : Int) = 0) = false := decide_eq_false (by omega)
    have hg := mid_get pre post ly 0 h0
    rw [Nat.add_zero] at hg
    have hlt0 : decide ((0 : Int) < (ly.length : Int)) = true := decide_eq_true (by omega)
    by_cases h1 : ly.length = 1 ∧ (nth ly 0).toNat = 13
    ·have h11 : decide ((ly.length : Int) = 1) = true := decide_eq_true (by omega)
     have h13 : ((nth ly 0).toNat : Int) = 13 := by omega
     (repeat(first|(simp only[push_cast,go_sem_proc,↓ite_only,M_block,t2, hl0, h11, hg, hatl, h13])|(with_reducible refine⟨by omega,?_⟩)))
     (with_reducible refine hE _ _ _ _ (nomatch ·) ?_)
     (repeat simp only[push_cast,go_sem_proc,↓ite_only,M_block,t2])
     ((with_reducible refine hX _ _ _ (fun j hj => nomatch hj) ?_); simp only[push_cast,go_sem_proc,↓ite_only,M_block,Tryz.results141])
     exact ⟨c, by omega, rfl, k13, _, _, _, _, _, _, _, b3, by rw [e0, e3, e1]⟩
    ·have next : ∀ tm c', c' ≤ 1000 → tget tm 4 = z → tget tm 2 = I (c' : Nat) → R .normal tm [] h5 := fun tm c' hc' t4 t2 =>
      hR _ _ lz.length hlt ⟨lz, z, c', rfl, by omega, rfl, hz2, t4, t2, hc'⟩
     have hcast : ((c + 1 : Nat) : Int) = (c : Int) + 1 := by omega
     by_cases h11 : ly.length = 1
     ·have h11' : decide ((ly.length : Int) = 1) = true := decide_eq_true (by omega)
      have h13 : decide (((nth ly 0).toNat : Int) = 13) = false := decide_eq_false (by omega)
      by_cases h32 : (nth ly 0).toNat = 32
      ·have h32' : ((nth ly 0).toNat : Int) = 32 := by omega
       (repeat(first|(simp only[push_cast,go_sem_proc,↓ite_only,M_block,t2, hl0, h11', hg, hatl, h13, h32'])|(with_reducible refine⟨by omega,?_⟩)))
       exact next _ c hc (by simp only[zT,Nat.reduceBEq]) ‹_›
      ·have h32' : decide (((nth ly 0).toNat : Int) = 32) = false := decide_eq_false (by omega)
       by_cases h9 : (nth ly 0).toNat = 9
       ·have h9' : ((nth ly 0).toNat : Int) = 9 := by omega
        (repeat(first|(simp only[push_cast,go_sem_proc,↓ite_only,M_block,t2, hl0, h11', hg, hatl, h13, h32', h9'])|(with_reducible refine⟨by omega,?_⟩)))
        exact next _ c hc (by simp only[zT,Nat.reduceBEq]) ‹_›
       ·have h9' : decide (((nth ly 0).toNat : Int) = 9) = false := decide_eq_false (by omega)
        (repeat(first|(simp(disch:=omega)only[push_cast,go_sem_proc,↓ite_only,M_block,t2, hl0, h11', hg, hatl, h13, h32', h9'])|(with_reducible refine⟨by omega,?_⟩)))
        exact next _ (c + 1) (by omega) (by simp only[zT,Nat.reduceBEq]) (by rw [hcast]; exact (by simp only[zT,Nat.reduceBEq]))
     ·have h11' : decide ((ly.length : Int) = 1) = false := decide_eq_false (by omega)
      by_cases h32 : (nth ly 0).toNat = 32
      ·have h32' : ((nth ly 0).toNat : Int) = 32 := by omega
       (repeat(first|(simp only[push_cast,go_sem_proc,↓ite_only,M_block,t2, hl0, h11', hg, hatl, h32'])|(with_reducible refine⟨by omega,?_⟩)))
       exact next _ c hc (by simp only[zT,Nat.reduceBEq]) ‹_›
      ·have h32' : decide (((nth ly 0).toNat : Int) = 32) = false := decide_eq_false (by omega)
       by_cases h9 : (nth ly 0).toNat = 9
       ·have h9' : ((nth ly 0).toNat : Int) = 9 := by omega
        (repeat(first|(simp only[push_cast,go_sem_proc,↓ite_only,M_block,t2, hl0, h11', hg, hatl, h32', h9'])|(with_reducible refine⟨by omega,?_⟩)))
        exact next _ c hc (by simp only[zT,Nat.reduceBEq]) ‹_›
       ·have h9' : decide (((nth ly 0).toNat : Int) = 9) = false := decide_eq_false (by omega)
        (repeat(first|(simp(disch:=omega)only[push_cast,go_sem_proc,↓ite_only,M_block,t2, hl0, h11', hg, hatl, h32', h9'])|(with_reducible refine⟨by omega,?_⟩)))
        exact next _ (c + 1) (by omega) (by simp only[zT,Nat.reduceBEq]) (by rw [hcast]; exact (by simp only[zT,Nat.reduceBEq]))
  ·by_cases hp0 : 0 < x.length
   ·have hp : decide ((0 : Int) < (x.length : Int)) = true := decide_eq_true (by omega)
    have hq : decide ((c : Int) < 1000) = false := decide_eq_false (by omega)
    (repeat simp only[push_cast,go_sem_proc,↓ite_only,M_block,t4, t2, hp, hq])
    (with_reducible refine hE _ _ _ _ (nomatch ·) ?_)
    (repeat simp only[push_cast,go_sem_proc,↓ite_only,M_block,t2])
    ((with_reducible refine hX _ _ _ (fun j hj => nomatch hj) ?_); simp only[push_cast,go_sem_proc,↓ite_only,M_block,Tryz.results141])
    exact ⟨c, by omega, rfl, k13, _, _, _, _, _, _, _, b3, by rw [e0, e3, e1]⟩
   ·have hp : decide ((0 : Int) < (x.length : Int)) = false := decide_eq_false (by omega)
    (repeat simp only[push_cast,go_sem_proc,↓ite_only,M_block,t4, t2, hp])
    (with_reducible refine hE _ _ _ _ (nomatch ·) ?_)
    (repeat simp only[push_cast,go_sem_proc,↓ite_only,M_block,t2])
    ((with_reducible refine hX _ _ _ (fun j hj => nomatch hj) ?_); simp only[push_cast,go_sem_proc,↓ite_only,M_block,Tryz.results141])
    exact ⟨c, by omega, rfl, k13, _, _, _, _, _, _, _, b3, by rw [e0, e3, e1]⟩
end Go.Proofs.YtbjaapiliegegaaGreatDoor.Sy
end
section
namespace Go.Proofs.YtbjaapiliegegaaGreatDoor.Sy
open Go
set_option maxRecDepth 100000
variable {w0 : World} {h : Heap}
def RawB (lo : Nat) (h : Heap) (v : Value) : Prop := v = .slice none 0 0 ∨ ∃ b n cp cs, v = .slice (some ⟨b, 0, none⟩) n cp ∧ n ≤ cp ∧ 0 < cp ∧ lo ≤ b ∧ b < h.n ∧ h.at b = some (.cells cs 5 0 0) ∧ cs.length = cp
def blkOf (d : Nat) : Value → Nat
 | .slice (some ⟨b, _, _⟩) _ _ => b
 | _ => d
theorem RawB.keep {lo : Nat} {h h' : Heap} {v : Value} {d : Nat} {X : List Nat} (r : RawB lo h v) (k : Keep X h h') (hX : blkOf d v ∉ X) : RawB lo h' v := by
 rcases r with r | ⟨b, n, cp, cs, rfl, h1, h2, h3, h4, h5, h6⟩
 ·exact .inl r
 ·exact .inr ⟨b, n, cp, cs, rfl, h1, h2, h3, Nat.lt_of_lt_of_le h4 k.1, (k.2 b h4 hX).trans h5, h6⟩
theorem RawB.lt {lo : Nat} {v : Value} {d : Nat} (r : RawB lo h v) (hd : d < h.n) : blkOf d v < h.n := by
 rcases r with rfl | ⟨b, n, cp, cs, rfl, _, _, _, h4, _⟩
 ·exact hd
 ·exact h4
theorem RawB.ge {lo : Nat} {v : Value} {d : Nat} (r : RawB lo h v) (hd : lo ≤ d + 1) : lo ≤ blkOf d v + 1 := by
 rcases r with rfl | ⟨b, n, cp, cs, rfl, _, _, h3, _⟩
 ·exact hd
 ·show lo ≤ b + 1; omega
theorem Bts.raw {lo : Nat} {v : Value} {l : Str} (r : Bts lo h v l) (h0 : ∀ a n, v = .slice a n 0 → v = .slice none 0 0) : RawB lo h v := by
 rcases r with ⟨rfl, _⟩ | ⟨b, cp, rest, rfl, h1, h2, h3, h4, h5⟩
 ·exact .inl rfl
 ·have hcp : cp ≠ 0 := fun e => by
   subst e
   have := h0 _ _ rfl
   cases this
  exact .inr ⟨b, _, cp, _, rfl, by rw [byteVals_length] at h5; omega, by omega, h1, h2, h3, by rw [List.length_append]; omega⟩
theorem Bts.raw' {lo : Nat} {v : Value} {l : Str} (r : Bts lo h v l) (h0 : l ≠ []) : RawB lo h v := by
 refine r.raw fun a n e => ?_
 subst e
 rcases r with ⟨e, _⟩ | ⟨b, cp, rest, e, h1, h2, h3, h4, h5⟩
 ·exact e
 ·cases e
  rw [byteVals_length] at h5
  have := List.length_pos_iff.2 h0
  omega
theorem RawB.anew {lo : Nat} {v : Value} (r : RawB lo h v) : (v = .slice none 0 0 ∧ Bts lo h (.slice none 0 0) []) ∨ ∃ b n cp, v = .slice (some ⟨b, 0, none⟩) n cp ∧ n ≤ cp ∧ 0 < cp ∧ Bts lo h (.slice (some ⟨b, 0, none⟩) 0 cp) [] := by
 rcases r with rfl | ⟨b, n, cp, cs, rfl, h1, h2, h3, h4, h5, h6⟩
 ·exact .inl ⟨rfl, Row.nil _ _ _ _⟩
 ·exact .inr ⟨b, n, cp, rfl, h1, h2, .inr ⟨b, cp, cs, rfl, h3, h4, h5, rfl, by simp [byteVals, h6]⟩⟩
theorem app_raw {lo c cp : Nat} {a : Option Addr} {x : Value} {m : Str} {N : Nat} (r : Bts lo h (.slice a 0 cp) []) (hcp : (a = none ∧ cp = 0) ∨ 0 < cp) (hN : N ≤ lo) (hlo : lo ≤ h.n) (hx : Data h x m) (hbig : m.length ≤ 2 ^ 32) :
  ∃ v' h', aappend N Tryz.prog h #[27, 27] (.slice a 0 cp) x c = some (v', h') ∧ Bts lo h' v' m ∧ RawB lo h' v' ∧ h.n ≤ h'.n ∧ (∀ b, b < h.n → Off b (.slice a 0 cp) → h'.at b = h.at b) ∧ (∀ d, blkOf d v' = blkOf d (.slice a 0 cp) ∨ h.n ≤ blkOf d v' ∨ blkOf d v' = d) := by
 obtain ⟨v', h', e, r', h1, h2, h3⟩ := app_bytes (c := c) r hN hlo hx (by simpa using hbig)
 rw [List.nil_append] at r'
 refine ⟨v', h', e, r', ?_, h1, h2, fun d => ?_⟩
 ·by_cases hm : m = []
  ·subst hm
   refine r'.raw fun a' n' e' => ?_
   subst e'
   have ht := data_tail hx
   have e0 : aappend N Tryz.prog h #[27, 27] (.slice a 0 cp) x c =
     if 0 + 0 ≤ cp then
      match putAt N h a (0 * 1) [] with
      | some h' => some (.slice a (0 + 0) cp, h')
      | none => none
     else if 0 + 0 ≤ 2 ^ 32 then
      match firstN h 1 0 (.slice a 0 cp) with
      | some old => if old.length = 0 * 1 then some (.slice (some ⟨h.n, 0, none⟩) (0 + 0) (room (0 + 0) c), h.new (.cells (old ++ [] ++ zeros [Value.int .u8 0] (room (0 + 0) c - (0 + 0))) 5 0 0)) else none
      | none => none
     else none := by
    unfold aappend
    simp only [List.getElem?_toArray, List.getElem?_cons_zero, List.getElem?_cons_succ, Tryz.underlying27, s_5, b_5, z_5, ht]
    rfl
   rw [e0, if_pos (Nat.zero_le _)] at e
   split at e
   ·cases e
    rcases hcp with ⟨rfl, _⟩ | hcp
    ·rfl
    ·omega
   ·cases e
  ·exact r'.raw' hm
 ·rcases r' with ⟨rfl, _⟩ | ⟨b, cp', rest, rfl, g1, g2, g3, g4, g5⟩
  ·exact .inr (.inr rfl)
  ·rcases h3 b (fun ho => ho rfl) with hb | hb
   ·left
    cases a with
    | none => exact absurd trivial hb
    | some a =>
     obtain ⟨b2, o, p⟩ := a
     exact Classical.not_not.1 hb
   ·exact .inr (.inl hb)
end Go.Proofs.YtbjaapiliegegaaGreatDoor.Sy
end
