/- Of the proof of FnNoBody: SgC. -/
import Derived.Test.YtbjaapiliegegaaGreatDoorNb38
set_option linter.unusedVariables false
set_option linter.unusedSimpArgs false
namespace Go.Proofs.YtbjaapiliegegaaGreatDoor.Sy
open Go
set_option maxRecDepth 100000
variable {w0 : World} {h : Heap}
@[push_cast] def p120_5 : Plan := [(0, []), (1, []), (2, []), (3, []), (4, []), (5, []), (6, []), (7, []), (8, []), (9, []), (10, []), (11, []), (12, []), (13, []), (14, []), (15, [])]
theorem room_lt {n c : Nat} (hn : n < 9223372036854775808) : room n c < 9223372036854775808 := by
 unfold room
 have := Nat.mod_lt c (show 0 < 2 ^ 63 - n by omega)
 omega
theorem zeros_bytes (n : Nat) : zeros (Value.int .u8 0).cells.toList n = byteVals (List.replicate n 0) := by
 unfold zeros byteVals
 rw [List.map_replicate]
 induction n with
 | zero => rfl
 | succ n ih => rw [List.replicate_succ, List.replicate_succ, List.flatten_cons, ih]; rfl
theorem tail_int {n : Nat} (hn : n < 4294967296) : tailOf h (.int .i64) 1 (.int .u8 0) (I n) = some (n, byteVals (List.replicate n 0)) := by
  unfold tailOf
  dsimp only
  rw [if_pos ⟨Int.natCast_nonneg n, by have : (n : Int) < 4294967296 := by omega
                                       exact this⟩, Int.toNat_natCast, zeros_bytes]
theorem app_new0 {P : Program} {n c N z y e t t2 : Nat} {zv x : Value} {xd : TypeDesc} {new : List Value} (u27 : P.underlying t = some (.slice e)) (u3 : P.underlying t2 = some xd) (s5 : sizeT P e = some z) (b5 : bytesT P e = some y) (z5 : zeroT P e = some zv) (hzz : z = zv.cells.size) (hy : y ≤ 64)
  (e1 : tailOf h xd z zv x = some (n, new)) (hnew : new.length = n * z) (hn0 : 0 < n) (hn : n ≤ 2 ^ 32) :
  aappend N P h #[t, t2] (.slice none 0 0) x c = some (.slice (some ⟨h.n, 0, none⟩) n (room n c), h.new (.cells (new ++ zeros zv.cells.toList (room n c - n)) e 0 0)) := by
 have e0 : aappend N P h #[t, t2] (.slice none 0 0) x c =
   if 0 + n ≤ 0 then
    match putAt N h none (0 * z) new with
    | some h' => some (.slice none (0 + n) 0, h')
    | none => none
   else if 0 + n ≤ 2 ^ 32 then
    match firstN h z 0 (.slice none 0 0) with
    | some old => if old.length = 0 * z then some (.slice (some ⟨h.n, 0, none⟩) (0 + n) (room (0 + n) c), h.new (.cells (old ++ new ++ zeros zv.cells.toList (room (0 + n) c - (0 + n))) e 0 0)) else none
    | none => none
   else none := by
  unfold aappend
  simp only [List.getElem?_toArray, List.getElem?_cons_zero, List.getElem?_cons_succ, u27, u3, s5, b5, z5, e1]
  rw [if_pos ⟨hzz, hnew, hy⟩]
  rfl
 have hf : firstN h z 0 (.slice none 0 0) = some [] := rfl
 rw [e0, if_neg (by omega), if_pos (by rw [Nat.zero_add]; exact hn), hf]
 simp only [List.length_nil, Nat.zero_mul, if_true, Nat.zero_add, List.nil_append]
theorem app_new {n c N : Nat} (h0 : 0 < n) (hn : n < 4294967296) :
  aappend N Tryz.prog h #[27, 3] (.slice none 0 0) (I n) c = some (.slice (some ⟨h.n, 0, none⟩) n (room n c), h.new (.cells (byteVals (List.replicate (room n c) 0)) 5 0 0)) := by
 have hr := room_ge n c
 rw [app_new0 Tryz.underlying27 Tryz.underlying3 s_5 b_5 z_5 rfl (by decide) (tail_int hn) (by rw [byteVals_length, List.length_replicate, Nat.mul_one]) h0 (Nat.le_of_lt hn), zeros_bytes, ← byteVals_app, List.replicate_append_replicate, show n + (room n c - n) = room n c by omega]
def ErrOk (e : Value) : Prop := e = eofV ∨ (∃ t x, e = .iface t x ∧ t ≠ 132) ∨ ∃ s, e = .iface 132 (S s) ∧ s ≠ [69, 79, 70]
def AllOut (E : (Nat → Prop) → Heap → Value → Prop) (O : Nat → Prop) (s : Str) (e : Value) (h : Heap) (v : Value) (h' : Heap) : Prop :=
 ∃ (O' : Nat → Prop) (d er : Value), v = .tuple #[d, er] ∧ (∀ i, O' i → O i ∨ (h.n ≤ i ∧ i < h'.n)) ∧ h.n ≤ h'.n ∧ (∀ i, i < h.n → ¬O i → h'.at i = h.at i) ∧ E O' h' e ∧ ((e = eofV ∧ er = .nilIface) ∨ (e ≠ eofV ∧ er = e)) ∧
  ∃ b cp tail, d = .slice (some ⟨b, 0, none⟩) s.length cp ∧ h'.at b = some (.cells (byteVals s ++ tail) 5 0 0) ∧ s.length ≤ cp ∧ h.n ≤ b ∧ b < h'.n ∧ ¬O' b
abbrev Cks := List (Value × Str)
def cksB (l : Cks) : Str := (l.map (·.2)).flatten
def CkOk (lo : Nat) (h : Heap) (bad : Nat → Prop) (l : Cks) : Prop := ∀ x ∈ l, 0 < x.2.length ∧ ∃ b cp tail, x.1 = .slice (some ⟨b, 0, none⟩) x.2.length cp ∧ x.2.length ≤ cp ∧ lo ≤ b ∧ b < h.n ∧ ¬bad b ∧ h.at b = some (.cells (byteVals x.2 ++ tail) 5 0 0)
theorem CkOk.keep {lo : Nat} {h h' : Heap} {bad bad' : Nat → Prop} {l : Cks} (c : CkOk lo h bad l) (hn : h.n ≤ h'.n) (hk : ∀ i, i < h.n → ¬bad i → h'.at i = h.at i) (hb : ∀ i, i < h.n → bad' i → bad i) : CkOk lo h' bad' l := by
 intro x hx
 obtain ⟨h0, b, cp, tail, e1, e2, e3, e4, e5, e6⟩ := c x hx
 exact ⟨h0, b, cp, tail, e1, e2, e3, by omega, fun hb' => e5 (hb _ e4 hb'), (hk b e4 e5).trans e6⟩
theorem cksB_app (a b : Cks) : cksB (a ++ b) = cksB a ++ cksB b := by simp [cksB]
theorem cks_len {lo : Nat} {bad : Nat → Prop} {l : Cks} (c : CkOk lo h bad l) : l.length ≤ (cksB l).length := by
 induction l with
 | nil => simp
 | cons x t ih =>
  have h1 := (c x (by simp)).1
  have h2 := ih (fun y hy => c y (by simp [hy]))
  simp only [cksB, List.map_cons, List.flatten_cons, List.length_append, List.length_cons] at h2 ⊢
  omega
theorem firstN_one {v : Value} {b : Nat} {e : TypeId} (hat : h.at b = some (.cells [v] e 0 0)) : tailOf h (.slice 27) 1 (.slice none 0 0) (.slice (some ⟨b, 0, none⟩) 1 1) = some (1, [v]) := by
 simp only [tailOf, lenOf, firstN, loadN_eq, hat, loadC_some]
 rw [only_pos (by simp)]
 rfl
theorem app_sl {lo c b n : Nat} {v y : Value} {vs : List Value} {N : Nat} (r : Row lo h 27 1 v n vs) (hN : N ≤ lo) (hlo : lo ≤ h.n) (hat : h.at b = some (.cells [y] 27 0 0)) (hy : single y = true) (hbig : n + 1 ≤ 2 ^ 32) :
  ∃ v' h', aappend N Tryz.prog h #[253, 253] v (.slice (some ⟨b, 0, none⟩) 1 1) c = some (v', h') ∧ Row lo h' 27 1 v' (n + 1) (vs ++ [y]) ∧ h.n ≤ h'.n ∧ (∀ b, b < h.n → Off b v → h'.at b = h.at b) ∧ (∀ b, ¬Off b v' → ¬Off b v ∨ h.n ≤ b) :=
 aappend_row (c := c) Tryz.underlying253 s_27 b_27 z_27 rfl (by decide) (by decide) hN hlo r (firstN_one hat) rfl (by intro v hv; simp at hv; subst hv; exact hy) hbig
structure RAI (R : (Nat → Prop) → Heap → Str → Value → Nat → Prop) (O : Nat → Prop) (s : Str) (e : Value) (ty : TypeId) (val : Value) (h : Heap) (tm : Tm) (h1 : Heap) (n : Nat) (O' : Nat → Prop) (cur rem : Str) (cks : Cks) (b c : Nat) (tail : List Value) (cv : Value) (nx : Nat) : Prop where
 fr : h.n ≤ h1.n
 fk : ∀ i, i < h.n → ¬O i → h1.at i = h.at i
 fo : ∀ i, O' i → O i ∨ (h.n ≤ i ∧ i < h1.n)
 rd : R O' h1 rem e n
 sp : s = cksB cks ++ (cur ++ rem)
 t0 : tget tm 0 = .iface ty val
 t4 : tget tm 4 = .slice (some ⟨b, 0, none⟩) cur.length c
 ab : h1.at b = some (.cells (byteVals cur ++ tail) 5 0 0)
 tl : cur.length + tail.length = c
 cl : cur.length < c
 cb : c < 9223372036854775808
 lb : h.n ≤ b
 ub : b < h1.n
 ob : ¬O' b
 t5 : tget tm 5 = I nx
 t7 : tget tm 7 = I (cksB cks).length
 t6 : tget tm 6 = cv
 row : Row h.n h1 27 1 cv cks.length (cks.map (·.1))
 orow : ∀ i, O' i → Off i cv
 brow : Off b cv
 ck : CkOk h.n h1 (fun i => O' i ∨ i = b ∨ ¬Off i cv) cks
 n1 : 256 ≤ nx
 n2 : nx ≤ (cksB cks).length + 256
 n3 : 2 * nx ≤ 3 * c
set_option maxHeartbeats 16000000 in
theorem readAll_ok {ty : TypeId} {f : FuncId} {F : Func} {fc : Code} {val : Value} {R : (Nat → Prop) → Heap → Str → Value → Nat → Prop} {E : (Nat → Prop) → Heap → Value → Prop} (hm : amethod Tryz.prog ty "Read" = some f) (hF : Tryz.prog.funcs[f]? = some F) (hfc : F.body = some fc) (D : Rdr w0 f val R E)
    {O : Nat → Prop} {s : Str} {e : Value} {k : Nat} (r : R O h s e k) (he : ErrOk e) (hs : s.length < 1000000000) (hO_ : ∀ i, O i → i < h.n) :
    ACall Tryz.prog w0 120 [.iface ty val] h (fun v h' => AllOut E O s e h v h') := by
  refine ACall.known fun hKn => ?_
  obtain ⟨hN, hB⟩ := hKn
  refine ACall.run noCount mixed Tryz.func120 rfl (by kernel_rfl) (Nat.le_of_ble_eq_true rfl) fun X hX => ?_
  (repeat simp only[push_cast,go_sem_proc,↓ite_only,M_block])
  generalize hhe : Heap.new (Heap.new h _) _ = hh
  have n0 : hh.n = h.n + 2 := by rw [← hhe]; rfl
  have k0 : Keep [] h hh := by rw [← hhe]; exact (by repeat (first | exact Keep.refl _ _ | assumption | refine Keep.put ?_ (by first | (left; simp; done) | (right; omega)) _ | refine Keep.new ?_ _))
  have a0 : hh.at h.n = some (.cells (byteVals [] ++ byteVals (List.replicate 512 0)) 5 0 0) := by
    rw [← hhe, at_new_ne _ _ (by rw [n_new]; omega), at_new_eq, ← zeros_bytes]; rfl
  have c0 : hh.at (h.n + 1) = some (.cells ([] ++ zeros [.slice none 0 0] 4) 27 0 0) := by
    rw [← hhe]; exact at_new_eq _ _
  clear hhe
  refine M_loop (fun tm h1 n => ∃ O' cur rem cks b c tail cv nx, RAI R O s e ty val h tm h1 n O' cur rem cks b c tail cv nx) k
    ⟨O, [], s, [], h.n, 512, byteVals (List.replicate 512 0), .slice (some ⟨h.n + 1, 0, none⟩) 0 4, 256, ⟨k0.1, fun i hi _ => k0.2 i hi (by simp), fun i hi => .inl hi, D.keep r k0.1 (fun i hi _ => k0.2 i hi (by simp)), rfl, (by simp only[zT,Nat.reduceBEq]), (by simp only[zT,Nat.reduceBEq];rfl), a0, by rw [byteVals_length, List.length_replicate]; rfl, by simp, by omega, Nat.le_refl _, by omega, fun ho => Nat.lt_irrefl _ (hO_ _ ho), (by simp only[zT,Nat.reduceBEq];rfl), (by simp only[zT,Nat.reduceBEq];rfl), (by simp only[zT,Nat.reduceBEq]),
      .inr ⟨h.n + 1, 4, zeros [.slice none 0 0] 4, rfl, by omega, by omega, c0, rfl, by simp [zeros_length]⟩, fun i hi => (show i ≠ h.n + 1 by have := hO_ i hi; omega), (show h.n ≠ h.n + 1 by omega), fun x hx => by simp at hx, by omega, by simp [cksB], by omega⟩⟩ ?_
  rintro tm h1 n Rr ⟨O', cur, rem, cks, b, c, tail, cv, nx, J⟩ hR hE
  have t0 := J.t0
  have t4 := J.t4
  have hcl := J.cl
  have hcb := J.cb
  have htl := J.tl
  have hce : (c = cur.length) = False := eq_false (by omega)
  have hrd := D.read (pre := byteVals cur) (mid := tail) (post := []) (cp := c - cur.length) J.rd J.ob (Nat.le_trans hN J.lb) (by rw [List.append_nil]; exact J.ab) (by omega) (by omega) (by omega)
  rw [byteVals_length, show tail.length = c - cur.length by omega] at hrd
  (repeat(first|(simp only[push_cast,go_sem_proc,↓ite_only,M_block,t0, t4, hm, hF, hfc, hce, List.map_toArray])|(with_reducible refine⟨by omega,?_⟩)|(with_reducible refine M_draw (id:=5) p120_5 ?_ ?_;focus kernel_rfl)))
  refine callP_of hrd ?_
  rintro v h2 ⟨O2, m, er, ho2, n2, fk2, hm1, hm2, rfl, ab2, hcase⟩
  obtain ⟨acv, ccv, hcv⟩ := J.row.len
  have hrow2 : Row h.n h2 27 1 cv cks.length (cks.map (·.1)) := J.row.keep n2 (fun i hi hlo ho => fk2 i hi (fun hO => ho (J.orow i hO)) (fun e => ho (e ▸ J.brow)))
  have hck2 : CkOk h.n h2 (fun i => O2 i ∨ i = b ∨ ¬Off i cv) cks := J.ck.keep n2 (fun i hi hb => fk2 i hi (fun hO => hb (.inl hO)) (fun e => hb (.inr (.inl e)))) (fun i hi hb => by
    rcases hb with hb | hb
    · rcases ho2 i hb with h' | h'
      · exact .inl h'
      · omega
    · exact .inr hb)
  have hfr := J.fr
  have hub := J.ub
  have hlb := J.lb
  have hob2 : ¬O2 b := fun hb => by
    rcases ho2 b hb with h' | h'
    · exact J.ob h'
    · omega
  have hfo2 : ∀ i, O2 i → O i ∨ (h.n ≤ i ∧ i < h2.n) := fun i hi => by
    rcases ho2 i hi with h' | h'
    · rcases J.fo i h' with h'' | h''
      · exact .inl h''
      · exact .inr ⟨h''.1, by omega⟩
    · exact .inr ⟨by omega, h'.2⟩
  have hfk2 : ∀ i, i < h.n → ¬O i → h2.at i = h.at i := fun i hi hO => (fk2 i (by omega) (fun h' => by
    rcases J.fo i h' with h'' | h''
    · exact hO h''
    · omega) (by omega)).trans (J.fk i hi hO)
  have horow2 : ∀ i, O2 i → Off i cv := fun i hi => by
    rcases ho2 i hi with h' | h'
    · exact J.orow i h'
    · rcases J.row with ⟨hv, _⟩ | ⟨d, cp', rest', hv, _, hd, _⟩
      · rw [hv]; trivial
      · rw [hv]; show i ≠ d; omega
  have hcur : byteVals cur ++ (byteVals (rem.take m) ++ (tail.drop m ++ [])) = byteVals (cur ++ rem.take m) ++ tail.drop m := by rw [byteVals_app, List.append_nil, List.append_assoc]
  rw [hcur] at ab2
  have hlm : (rem.take m).length = m := by rw [List.length_take]; omega
  have hcl2 : (cur ++ rem.take m).length = cur.length + m := by rw [List.length_append, hlm]
  have htl2 : (tail.drop m).length = tail.length - m := List.length_drop
  have hsp2 : s = cksB cks ++ ((cur ++ rem.take m) ++ rem.drop m) := by rw [J.sp, List.append_assoc, List.take_append_drop]
  have hst : (cksB cks).length + (cur.length + m) ≤ s.length := by
    have := congrArg List.length hsp2
    simp only [List.length_append, List.length_drop, hlm] at this
    omega
  have t5 := J.t5
  have t6 := J.t6
  have t7 := J.t7
  have q1 := J.n1
  have q2 := J.n2
  have q3 := J.n3
  have hckl := cks_len J.ck
  rw [hcv] at t6
  have htd : (c : Int).tdiv 16 = (c : Int) / 16 := Int.tdiv_eq_ediv_of_nonneg (by omega)
  have hnd : (nx : Int).tdiv 2 = (nx : Int) / 2 := Int.tdiv_eq_ediv_of_nonneg (by omega)
  have htn : ((cur.length : Int) + (m : Int)).toNat = cur.length + m := by omega
  have hc0 : (c = 0) = False := eq_false (by omega)
  rcases hcase with ⟨rfl, k', hk', r2⟩ | ⟨hrem, rfl, hE2⟩
  · by_cases hfull : (c : Int) - ((cur.length : Int) + m) < (c : Int) / 16
    · have d1 : decide ((c : Int) - ((cur.length : Int) + (m : Int)) < (c : Int) / 16) = true := decide_eq_true hfull
      (repeat(first|(simp(disch:=omega)only[push_cast,go_sem_proc,↓ite_only,M_block,t0, t4, t5, t6, t7, htd, d1, htn, hc0])|(with_reducible refine⟨by omega,?_⟩)))
      intro c1
      generalize hH : Heap.new h2 _ = h3
      have a3 : h3.at h2.n = some (.cells [.slice (some ⟨b, 0, none⟩) (cur.length + m) c] 27 0 0) := by rw [← hH]; exact at_new_eq _ _
      have n3 : h3.n = h2.n + 1 := by rw [← hH]; rfl
      have x3 : Ext h2 h3 := by rw [← hH]; exact Keep.ext (by repeat (first | exact Keep.refl _ _ | assumption | refine Keep.put ?_ (by first | (left; simp; done) | (right; omega)) _ | refine Keep.new ?_ _))
      clear hH
      have hrow3 := Row.ext hrow2 x3
      obtain ⟨cv', h4, e4, r4, n4, hold4, hoff4⟩ := app_sl (c := c1) (N := w0.heap.size) hrow3 hN (by omega) a3 rfl (by omega)
      rw [hcv] at e4
      rw [e4]
      (repeat simp(disch:=omega)only[push_cast,go_sem_proc,↓ite_only,M_block,t5, t7])
      intro c2
      rw [app_new (by omega) (by omega)]
      have hrg := room_ge nx c2
      have hrl := room_lt (n := nx) (c := c2) (by omega)
      have hroom0 : (room nx c2 = 0) = False := eq_false (by omega)
      (repeat(first|(simp(disch:=omega)only[push_cast,go_sem_proc,↓ite_only,M_block,t5, hroom0, hnd])|(with_reducible refine⟨by omega,?_⟩)))
      have hcvb : ∀ i, ¬Off i cv' → i < h4.n := by
        intro i hi
        rcases r4 with ⟨hv, _⟩ | ⟨d, cp', rest', hv, _, hd, _⟩
        · rw [hv] at hi; exact absurd trivial hi
        · rw [hv] at hi
          have : i = d := Classical.not_not.1 hi
          omega
      have hkp : ∀ i, i < h2.n → Off i cv → (h4.new (.cells (byteVals (List.replicate (room nx c2) 0)) 5 0 0)).at i = h2.at i := fun i hi ho => (at_new_ne _ _ (by omega)).trans ((hold4 i (by omega) ho).trans (x3.2 i hi))
      have htot : (cksB (cks ++ [(.slice (some ⟨b, 0, none⟩) (cur.length + m) c, cur ++ rem.take m)])).length = (cksB cks).length + (cur.length + m) := by
        rw [cksB_app, List.length_append]; simp only [cksB, List.map_cons, List.map_nil, List.flatten_cons, List.flatten_nil, List.append_nil, hcl2]
      refine hR _ _ k' hk' ⟨O2, [], rem.drop m, cks ++ [(.slice (some ⟨b, 0, none⟩) (cur.length + m) c, cur ++ rem.take m)], h4.n, room nx c2, byteVals (List.replicate (room nx c2) 0), cv', nx + nx / 2,
        ⟨?_, ?_, ?_, ?_, ?_, ‹_›, (by simp only[zT,Nat.reduceBEq];rfl), at_new_eq _ _, ?_, ?_, hrl, by omega, Nat.lt_succ_self _, ?_, ?_, ?_, (by simp only[zT,Nat.reduceBEq]), ?_, ?_, ?_, ?_, by omega, ?_, by omega⟩⟩
      · show h.n ≤ h4.n + 1; omega
      · intro i hi hO
        exact (hkp i (by omega) (Row.off hrow2 hi)).trans (hfk2 i hi hO)
      · intro i hi
        rcases hfo2 i hi with h' | h'
        · exact .inl h'
        · exact .inr ⟨h'.1, by show i < h4.n + 1; omega⟩
      · exact D.keep r2 (by show h2.n ≤ h4.n + 1; omega) (fun i hi hO => hkp i hi (horow2 i hO))
      · rw [cksB_app, hsp2]
        simp [cksB]
      · rw [byteVals_length, List.length_replicate, List.length_nil, Nat.zero_add]
      · show 0 < room nx c2; omega
      · intro hO
        rcases hfo2 _ hO with h' | h'
        · have := hO_ _ h'; omega
        · omega
      · rw [show ((nx + nx / 2 : Nat) : Int) = (nx : Int) + (nx : Int) / 2 by omega]; exact (by simp only[zT,Nat.reduceBEq])
      · rw [htot, show (((cksB cks).length + (cur.length + m) : Nat) : Int) = ((cksB cks).length : Int) + ((cur.length : Int) + (m : Int)) by omega]; exact (by simp only[zT,Nat.reduceBEq])
      · have := Row.ext r4 (Keep.ext (Keep.new (Keep.refl [] h4) (.cells (byteVals (List.replicate (room nx c2) 0)) 5 0 0)))
        rw [List.length_append, List.map_append]
        exact this
      · intro i hO
        refine Classical.byContradiction fun hno => ?_
        rcases hoff4 i hno with h' | h'
        · exact h' (horow2 i hO)
        · rcases hfo2 i hO with h'' | h''
          · have := hO_ _ h''; omega
          · omega
      · exact Classical.byContradiction fun hno => by have := hcvb _ hno; omega
      · intro x hx
        rcases List.mem_append.1 hx with hx | hx
        · refine (hck2.keep (by show h2.n ≤ h4.n + 1; omega) (fun i hi hb => hkp i hi (Classical.byContradiction fun hno => hb (.inr (.inr hno)))) (fun i hi hb => ?_)) x hx
          rcases hb with hb | hb | hb
          · exact .inl hb
          · omega
          · rcases hoff4 i hb with h' | h'
            · exact .inr (.inr h')
            · omega
        · rw [List.mem_singleton.1 hx]
          refine ⟨by rw [hcl2]; omega, b, c, tail.drop m, by rw [hcl2], by rw [hcl2]; omega, hlb, by show b < h4.n + 1; omega, ?_, (hkp b (by omega) J.brow).trans ab2⟩
          rintro (hb | hb | hb)
          · exact hob2 hb
          · omega
          · rcases hoff4 b hb with h' | h'
            · exact h' J.brow
            · omega
      · rw [htot]; omega
    · have d1 : decide ((c : Int) - ((cur.length : Int) + (m : Int)) < (c : Int) / 16) = false := decide_eq_false hfull
      (repeat(first|(simp(disch:=omega)only[push_cast,go_sem_proc,↓ite_only,M_block,t0, t4, t5, t6, t7, htd, d1, htn, hc0])|(with_reducible refine⟨by omega,?_⟩)))
      refine hR _ _ k' hk' ⟨O2, cur ++ rem.take m, rem.drop m, cks, b, c, tail.drop m, cv, nx, ⟨by omega, hfk2, hfo2, r2, hsp2, ‹_›, ?_, ab2, by omega, by omega, hcb, hlb, by omega, hob2, ‹_›, ‹_›, ?_, hrow2, horow2, J.brow, hck2, q1, q2, q3⟩⟩
      · rw [hcl2]; exact (by simp only[zT,Nat.reduceBEq])
      · rw [hcv]; assumption
  · have hs2 : s = cksB cks ++ (cur ++ rem.take m) := by rw [hsp2, hrem, List.append_nil]
    have hslen : s.length = (cksB cks).length + (cur.length + m) := by rw [hs2, List.length_append, hcl2]
    have hfin : ∀ (d er' : Value) (h' : Heap), (er = eofV ∧ er' = .nilIface) ∨ (er ≠ eofV ∧ er' = er) → h2.n ≤ h'.n → (∀ j, j < h2.n → h'.at j = h2.at j) → (∃ b cp tail, d = .slice (some ⟨b, 0, none⟩) s.length cp ∧ h'.at b = some (.cells (byteVals s ++ tail) 5 0 0) ∧ s.length ≤ cp ∧ h.n ≤ b ∧ b < h'.n ∧ ¬O2 b) →
        AllOut E O s er h (.tuple #[d, er']) h' := fun d er' h' hh hn hk hd =>
      ⟨O2, d, er', rfl, fun i hi => by
        rcases hfo2 i hi with h' | h'
        · exact .inl h'
        · exact .inr ⟨h'.1, by omega⟩, by omega, fun i hi hO => (hk i (by omega)).trans (hfk2 i hi hO), D.ekeep hE2 hn (fun i hi _ => hk i hi), hh, hd⟩
    by_cases hc : cks.length = 0
    · obtain rfl := List.eq_nil_of_length_eq_zero hc
      have hsl : s.length = cur.length + m := by rw [hslen]; simp [cksB]
      have hsr : s = cur ++ rem.take m := by rw [hs2]; rfl
      have hd : ∃ b' cp tail', (Value.slice (some ⟨b, 0, none⟩) (cur.length + m) c) = .slice (some ⟨b', 0, none⟩) s.length cp ∧ h2.at b' = some (.cells (byteVals s ++ tail') 5 0 0) ∧ s.length ≤ cp ∧ h.n ≤ b' ∧ b' < h2.n ∧ ¬O2 b' :=
        ⟨b, c, tail.drop m, by rw [hsl], by rw [hsr]; exact ab2, by omega, hlb, by omega, hob2⟩
      have hz : decide ((([] : Cks).length : Int) = 0) = true := rfl
      rcases he with rfl | ⟨t, x, rfl, ht⟩ | ⟨y, rfl, hy⟩
      · (repeat(first|(simp(disch:=omega)only[push_cast,go_sem_proc,↓ite_only,M_block,t0, t4, t5, t6, t7, htn, hc0, hz])|(with_reducible refine⟨by omega,?_⟩)))
        (with_reducible refine hE _ _ _ _ (nomatch ·) ?_)
        (repeat simp only[push_cast,go_sem_proc,↓ite_only,M_block])
        ((with_reducible refine hX _ _ _ (fun j hj => nomatch hj) ?_); simp only[push_cast,go_sem_proc,↓ite_only,M_block,Tryz.results120])
        exact hfin _ _ _ (.inl ⟨rfl, rfl⟩) (Nat.le_refl _) (fun _ _ => rfl) hd
      · have ht' : (t = 132) = False := eq_false ht
        (repeat(first|(simp(disch:=omega)only[push_cast,go_sem_proc,↓ite_only,M_block,t0, t4, t5, t6, t7, htn, hc0, hz, ht'])|(with_reducible refine⟨by omega,?_⟩)))
        (with_reducible refine hE _ _ _ _ (nomatch ·) ?_)
        (repeat simp only[push_cast,go_sem_proc,↓ite_only,M_block])
        ((with_reducible refine hX _ _ _ (fun j hj => nomatch hj) ?_); simp only[push_cast,go_sem_proc,↓ite_only,M_block,Tryz.results120])
        exact hfin _ _ _ (.inr ⟨fun e => by cases e; exact ht rfl, rfl⟩) (Nat.le_refl _) (fun _ _ => rfl) hd
      · have hy' : (y == [69, 79, 70]) = false := by simpa using hy
        (repeat(first|(simp(disch:=omega)only[push_cast,go_sem_proc,↓ite_only,M_block,t0, t4, t5, t6, t7, htn, hc0, hz, hy'])|(with_reducible refine⟨by omega,?_⟩)))
        (with_reducible refine hE _ _ _ _ (nomatch ·) ?_)
        (repeat simp only[push_cast,go_sem_proc,↓ite_only,M_block])
        ((with_reducible refine hX _ _ _ (fun j hj => nomatch hj) ?_); simp only[push_cast,go_sem_proc,↓ite_only,M_block,Tryz.results120])
        exact hfin _ _ _ (.inr ⟨fun e => by cases e; exact hy rfl, rfl⟩) (Nat.le_refl _) (fun _ _ => rfl) hd
    · have hz : decide ((cks.length : Int) = 0) = false := decide_eq_false (by omega)
      have hT : ((cksB cks).length : Int) + ((cur.length : Int) + (m : Int)) = ((s.length : Nat) : Int) := by omega
      have hpos : 0 < s.length := by omega
      have hcps : ∀ er', (er = eofV ∧ er' = .nilIface) ∨ (er ≠ eofV ∧ er' = er) → ∀ (tm' : Tm) (Rr' : Post), (∀ d h', (AllOut E O s er h (.tuple #[d, er']) h') → ∀ tm, tget tm 2 = d → tget tm 3 = er' → Rr' .ret tm [] h') → True := fun _ _ _ _ _ => trivial
      have he3 : (er = eofV) ∨ (∃ t x, er = .iface t x ∧ t ≠ 132) ∨ ∃ s, er = .iface 132 (S s) ∧ s ≠ [69, 79, 70] := he
      have hne1 : ∀ t x, t ≠ 132 → (Value.iface t x) ≠ eofV := fun t x ht e => by cases e; exact ht rfl
      have hne2 : ∀ y : Str, y ≠ [69, 79, 70] → (Value.iface 132 (S y)) ≠ eofV := fun y hy e => by cases e; exact hy rfl
      clear hcps he
      rcases he3 with heq | ⟨t, x, heq, ht⟩ | ⟨y, heq, hy⟩
      all_goals first
      | (have hy' : (y == [69, 79, 70]) = false := by simpa using hy
         have hh : ∀ e' : Value, e' = .iface 132 (S y) → (er = eofV ∧ e' = .nilIface) ∨ (er ≠ eofV ∧ e' = er) := fun e' h => .inr ⟨by rw [heq]; exact hne2 y hy, h.trans heq.symm⟩
         (repeat(first|(simp(disch:=omega)only[push_cast,go_sem_proc,↓ite_only,M_block,t0, t4, t5, t6, t7, htn, hc0, hz, hy', hT, heq])|(with_reducible refine⟨by omega,?_⟩))))
      | (have ht' : (t = 132) = False := eq_false ht
         have hh : ∀ e' : Value, e' = .iface t x → (er = eofV ∧ e' = .nilIface) ∨ (er ≠ eofV ∧ e' = er) := fun e' h => .inr ⟨by rw [heq]; exact hne1 t x ht, h.trans heq.symm⟩
         (repeat(first|(simp(disch:=omega)only[push_cast,go_sem_proc,↓ite_only,M_block,t0, t4, t5, t6, t7, htn, hc0, hz, ht', hT, heq])|(with_reducible refine⟨by omega,?_⟩))))
      | (have hh : ∀ e' : Value, e' = .nilIface → (er = eofV ∧ e' = .nilIface) ∨ (er ≠ eofV ∧ e' = er) := fun e' h => .inl ⟨heq, h⟩
         (repeat(first|(simp(disch:=omega)only[push_cast,go_sem_proc,↓ite_only,M_block,t0, t4, t5, t6, t7, htn, hc0, hz, hT, heq])|(with_reducible refine⟨by omega,?_⟩))))
      all_goals
        intro c3
        rw [app_new hpos (by omega)]
        have hrg := room_ge s.length c3
        have hrl := room_lt (n := s.length) (c := c3) (by omega)
        have hroom0 : (room s.length c3 = 0) = False := eq_false (by omega)
        (repeat(first|(simp only[push_cast,go_sem_proc,↓ite_only,M_block,hroom0, t6])|(with_reducible refine⟨by omega,?_⟩)))
        generalize hhe : Heap.new h2 _ = h3
        have n3 : h3.n = h2.n + 1 := by rw [← hhe]; rfl
        have x3 : Ext h2 h3 := by rw [← hhe]; exact Keep.ext (by repeat (first | exact Keep.refl _ _ | assumption | refine Keep.put ?_ (by first | (left; simp; done) | (right; omega)) _ | refine Keep.new ?_ _))
        have a3 : h3.at h2.n = some (.cells (byteVals [] ++ byteVals (List.replicate (room s.length c3) 0)) 5 0 0) := by rw [← hhe]; exact at_new_eq _ _
        clear hhe
        have hD : Data h2 (.slice (some ⟨b, 0, none⟩) (cur ++ rem.take m).length c) (cur ++ rem.take m) := .inr ⟨b, [], tail.drop m, c, 0, 0, rfl, by omega, ab2⟩
        rw [hcl2] at hD
        refine M_loop (fun tm h4 n => ∃ (i : Nat) (dv : Value), i + n = cks.length ∧ Bts h2.n h4 dv (cksB (cks.take i)) ∧ Ext h2 h4 ∧ tget tm 52 = cv ∧ tget tm 53 = I cks.length ∧ tget tm 54 = I i ∧ tget tm 10 = dv ∧ tget tm 4 = .slice (some ⟨b, 0, none⟩) (cur.length + m) c ∧ ∃ er', tget tm 9 = er' ∧ ((er = eofV ∧ er' = .nilIface) ∨ (er ≠ eofV ∧ er' = er))) cks.length
          ⟨0, .slice (some ⟨h2.n, 0, none⟩) 0 (room s.length c3), by omega, .inr ⟨h2.n, room s.length c3, byteVals (List.replicate (room s.length c3) 0), rfl, Nat.le_refl _, by omega, a3, rfl, by simp [byteVals_length, cksB]⟩, x3, by rw [hcv]; exact (by simp only[zT,Nat.reduceBEq]), (by simp only[zT,Nat.reduceBEq]), (by simp only[zT,Nat.reduceBEq];rfl), (by simp only[zT,Nat.reduceBEq]), (by simp only[zT,Nat.reduceBEq]), _, (by simp only[zT,Nat.reduceBEq]), hh _ rfl⟩ ?_
        rintro tm5 h4 n5 R5 ⟨i, dv, hin, bt, x4, t52, t53, t54, t10, t4', er', t9, her⟩ hR5 hE5
        have n4 := x4.1
        have hD4 : Data h4 (.slice (some ⟨b, 0, none⟩) (cur.length + m) c) (cur ++ rem.take m) := hD.keep (fun d ⟨o, ho⟩ hd => x4.2 d (by rw [show d = b from hd.symm]; omega))
        by_cases hi : i < cks.length
        · have d1 : decide ((i : Int) < (cks.length : Int)) = true := decide_eq_true (by omega)
          obtain ⟨bb, cpb, rest, hv, hb1, hb2, hatb⟩ := Row.at (Row.ext hrow2 x4) hi
          obtain ⟨xc, hxc⟩ : ∃ x, cks[i]? = some x := ⟨_, List.getElem?_eq_getElem hi⟩
          have hxm : xc ∈ cks := List.mem_of_getElem? hxc
          obtain ⟨hx0, bx, cpx, tlx, e1, e2, e3, e4, e5, e6⟩ := hck2 xc hxm
          have hg : (cks.map (·.1) ++ rest)[i]? = some (.slice (some ⟨bx, 0, none⟩) xc.2.length cpx) := by
            rw [List.getElem?_append_left (by rw [List.length_map]; exact hi), List.getElem?_map, hxc, ← e1]; rfl
          rw [hv] at t52
          have hDx : Data h4 (.slice (some ⟨bx, 0, none⟩) xc.2.length cpx) xc.2 := .inr ⟨bx, [], tlx, cpx, 0, 0, rfl, e2, (x4.2 bx (by omega)).trans e6⟩
          have htk : cksB (cks.take (i + 1)) = cksB (cks.take i) ++ xc.2 := by
            rw [List.take_add_one, hxc, cksB_app]; simp [cksB]
          have hle : (cksB (cks.take i)).length + xc.2.length ≤ (cksB cks).length := by
            have h1 : cksB cks = cksB (cks.take (i + 1)) ++ cksB (cks.drop (i + 1)) := by rw [← cksB_app, List.take_append_drop]
            have h2 := congrArg List.length h1
            rw [htk] at h2
            simp only [List.length_append] at h2
            omega
          obtain ⟨adv, cdv, rfl⟩ := bt.own.data.len
          (repeat(first|(simp only[push_cast,go_sem_proc,↓ite_only,M_block,t52, t53, t54, t10, d1, hatb, hg])|(with_reducible refine⟨by omega,?_⟩)))
          intro c6
          obtain ⟨dv', h5, e7, bt5, n5', hold5, _⟩ := app_bytes (c := c6) (N := w0.heap.size) bt (by omega) (by omega) hDx (by omega)
          rw [e7]
          (repeat simp(disch:=omega)only[push_cast,go_sem_proc,↓ite_only,M_block,t54])
          refine hR5 _ _ (n5 - 1) (by omega) ⟨i + 1, dv', by omega, by rw [htk]; exact bt5, ⟨by omega, fun j hj => (hold5 j (by omega) (Row.off bt (by omega))).trans (x4.2 j hj)⟩, by rw [hv]; assumption, ‹_›, by rw [Int.natCast_add]; exact (by simp only[zT,Nat.reduceBEq];rfl), (by simp only[zT,Nat.reduceBEq]), ‹_›, er', ‹_›, her⟩
        · have d1 : decide ((i : Int) < (cks.length : Int)) = false := decide_eq_false (by omega)
          obtain ⟨adv, cdv, rfl⟩ := bt.own.data.len
          (repeat simp only[push_cast,go_sem_proc,↓ite_only,M_block,t53, t54, d1])
          (with_reducible refine hE5 _ _ _ _ (nomatch ·) ?_)
          (repeat simp only[push_cast,go_sem_proc,↓ite_only,M_block,t10, t4'])
          intro c6
          rw [show i = cks.length by omega, List.take_length] at bt
          obtain ⟨dv', h5, e7, bt5, n5', hold5, _⟩ := app_bytes (c := c6) (N := w0.heap.size) bt (by omega) (by omega) hD4 (by omega)
          rw [show i = cks.length by omega, List.take_length, e7]
          (repeat simp only[push_cast,go_sem_proc,↓ite_only,M_block,t9])
          rw [← hs2] at bt5
          have hd5 : ∃ b cp tail, dv' = .slice (some ⟨b, 0, none⟩) s.length cp ∧ h5.at b = some (.cells (byteVals s ++ tail) 5 0 0) ∧ s.length ≤ cp ∧ h.n ≤ b ∧ b < h5.n ∧ ¬O2 b := by
            rcases bt5 with ⟨_, h0, _⟩ | ⟨d, cp', rest', hv, h1, h2, h3, h4', h5'⟩
            · omega
            · refine ⟨d, cp', rest', hv, h3, ?_, by omega, h2, fun hO => ?_⟩
              · rw [byteVals_length] at h5'; omega
              · rcases hfo2 d hO with h' | h'
                · have := hO_ _ h'; omega
                · omega
          (with_reducible refine hE _ _ _ _ (nomatch ·) ?_)
          (repeat simp only[push_cast,go_sem_proc,↓ite_only,M_block])
          ((with_reducible refine hX _ _ _ (fun j hj => nomatch hj) ?_); simp only[push_cast,go_sem_proc,↓ite_only,M_block,Tryz.results120])
          exact hfin _ _ _ her (by omega) (fun j hj => (hold5 j (by omega) (Row.off bt (by omega))).trans (x4.2 j hj)) hd5
end Go.Proofs.YtbjaapiliegegaaGreatDoor.Sy
