/- Of the proof of FnNoBody: ScL. -/
import Derived.Test.YtbjaapiliegegaaGreatDoorScK
set_option linter.unusedVariables false
set_option linter.unusedSimpArgs false
namespace Go.Proofs.YtbjaapiliegegaaGreatDoor.Sy
open Go
set_option maxRecDepth 100000
variable {w0 : World} {h : Heap}
@[push_cast] def p44_1 : Plan := [(0, []), (1, []), (2, []), (4, []), (5, []), (6, []), (8, []), (9, []), (10, []), (3, [6, 10]), (7, [10]), (11, []), (12, []), (13, []), (14, [])]
@[push_cast] def p44_27 : Plan := [(0, []), (1, []), (2, []), (3, []), (4, []), (5, []), (6, []), (7, []), (8, []), (9, []), (10, []), (11, [])]
@[push_cast] def p44_34 : Plan := [(0, []), (1, []), (2, []), (3, []), (4, []), (5, []), (6, []), (7, []), (8, []), (9, []), (10, []), (11, []), (12, [])]
@[push_cast] def p44_36 : Plan := [(0, []), (1, []), (2, []), (3, []), (4, []), (5, []), (6, []), (7, []), (8, []), (9, []), (10, []), (11, []), (12, []), (13, []), (14, []), (15, []), (16, []), (17, []), (18, [])]
@[push_cast] def p44_37 : Plan := [(0, []), (1, []), (2, []), (3, []), (4, []), (5, []), (6, []), (7, []), (8, []), (9, [])]
@[push_cast] def p44_40 : Plan := [(0, []), (1, []), (2, []), (3, []), (4, []), (5, []), (6, []), (7, []), (8, []), (9, []), (10, []), (11, [])]
@[push_cast] def p44_42 : Plan := [(0, []), (1, []), (2, []), (3, []), (4, []), (5, []), (6, []), (7, []), (8, []), (9, []), (10, []), (11, [])]
def sCo : Str := [67, 111, 110, 110, 101, 99, 116, 105, 111, 110]
def sPr : Str := [80, 114, 97, 103, 109, 97]
def sClose : Str := [99, 108, 111, 115, 101]
def sKeep : Str := [107, 101, 101, 112, 45, 97, 108, 105, 118, 101]
def sChunked : Str := [99, 104, 117, 110, 107, 101, 100]
def TooMany (cds lns cns prs : List Str) (minor : Int) : Prop := 1 < cds.length ∨ 1 < lns.length ∨ 1 < cds.length + lns.length ∨ 1 < cns.length ∨ 0 < prs.length ∨ (minor = 0 ∧ 0 < cds.length)
instance (a b c d : List Str) (n : Int) : Decidable (TooMany a b c d n) := by unfold TooMany; infer_instance
def headV (cds lns cns prs trs : List Str) (minor : Int) : Nat :=
 match decide (TooMany cds lns cns prs minor), listedL cns sClose && listedL cns sKeep, decide (cds.length = 1) && !sameL ((snth cds 0).map lowB') sChunked, decide (lns.length = 1) && !(numberL (snth lns 0)).2 with
 | true, _, _, _ => 3
 | false, true, _, _ => 3
 | false, false, true, _ => 1
 | false, false, false, true => (match decide (snth lns 0 = [] ∨ 10 < (snth lns 0).length) with | true => 3 | false => 1)
 | false, false, false, false => (match (declaredL trs (decide (cds.length = 1))).2 with | true => 0 | false => (declaredL trs (decide (cds.length = 1))).1)
def Rd.zero : Rd := ⟨[], [], 0, [], 0, 0, .slice none 0 0, .slice none 0 0, .slice none 0 0, [], 0, false, false, 0⟩
theorem Strs.lower {lo lo' : Nat} {v : Value} {ss : List Str} (r : Strs lo h v ss) (hl : lo' ≤ lo) : Strs lo' h v ss := by
 rcases r with r | ⟨b, cp, rest, h1, h2, h3⟩
 ·exact .inl r
 ·exact .inr ⟨b, cp, rest, h1, Nat.le_trans hl h2, h3⟩
theorem Row.lower {lo lo' e z n : Nat} {v : Value} {cs : List Value} (r : Row lo h e z v n cs) (hl : lo' ≤ lo) : Row lo' h e z v n cs := by
 rcases r with r | ⟨b, cp, rest, h1, h2, h3⟩
 ·exact .inl r
 ·exact .inr ⟨b, cp, rest, h1, Nat.le_trans hl h2, h3⟩
theorem vals_without (fs : List Fld) {n1 n2 : Str} (hne : ¬n1 = n2) : valsL (withoutL fs [n2]) n1 = valsL fs n1 := by
 unfold valsL withoutL
 rw [List.filter_filter]
 refine congrArg (List.map _) (List.filter_congr fun f _ => ?_)
 cases hi : isName n1 f with
 | false => rfl
 | true =>
  have h1 : canonL true f.1 = n1 := of_same hi
  have h2 : sameL (canonL true f.1) n2 = false := sameL_false (by rw [h1]; exact hne)
  simp [notName, h2]
theorem decS_pos {s : Str} {v : Nat} (h : decS s = some v) : 0 < v := by
 revert h
 unfold decS
 cases tokL s with
 | false => intro h; cases h; decide
 | true =>
  cases (sameL (canonL true s) sTE || (sameL (canonL true s) sTr || sameL (canonL true s) sCL)) with
  | true => intro h; cases h; decide
  | false => intro h; cases h
theorem declared_pos (vs : List Str) (ch : Bool) (d : Nat) (h : declaredL vs ch = (d, false)) : 0 < d := by
 revert h
 unfold declaredL
 cases vs.isEmpty with
 | true => intro h; cases h
 | false =>
  cases ch with
  | false => intro h; cases h; decide
  | true =>
   cases hf : (vs.flatMap listL).findSome? decS with
   | none => intro h; cases h
   | some v =>
    intro h
    cases h
    obtain ⟨x, _, hx⟩ := List.exists_of_findSome?_eq_some hf
    exact decS_pos hx
def Sgl (rd : Rd) : Prop := single rd.fields = true ∧ single rd.body = true ∧ single rd.trailer = true
def TEnd (m : Rd) (fs : List Fld) (left : Int) (cds lns cns prs : List Str) (request : Bool) (rd : Rd) (vd : Nat) (h' : Heap) : Prop :=
 (headV cds lns cns prs (valsL fs sTr) m.minor ≠ 0 → vd = headV cds lns cns prs (valsL fs sTr) m.minor) ∧
 (headV cds lns cns prs (valsL fs sTr) m.minor = 0 → cds.length = 1 → vd = 3) ∧
 (headV cds lns cns prs (valsL fs sTr) m.minor = 0 → ¬cds.length = 1 → vd = 0 ∧
  rd = { m with close := listedL cns sClose || (decide (m.minor = 0) && !listedL cns sKeep), len := (match decide (lns.length = 1) with | true => ((numberL (snth lns 0)).1 : Int) | false => m.len), fields := rd.fields, rest := left } ∧
  ∃ lo4, Flds lo4 h' rd.fields (match listedL cns sClose && !request && decide (m.minor = 1) with | true => withoutL fs [sCo] | false => fs))
theorem TEnd.put {m : Rd} {fs : List Fld} {left : Int} {cds lns cns prs : List Str} {request : Bool} {rd : Rd} {vd : Nat} {h' : Heap} (te : TEnd m fs left cds lns cns prs request rd vd h') {b : Nat} {cs : List Value} (hat : h'.at b = some (.cells cs 35 0 0)) (o : AO) :
  TEnd m fs left cds lns cns prs request rd vd (h'.put b o) := by
 obtain ⟨t1, t2, t3⟩ := te
 refine ⟨t1, t2, fun e1 e2 => ?_⟩
 obtain ⟨q1, q2, lo4, fl⟩ := t3 e1 e2
 refine ⟨q1, q2, lo4, fl.keep (Nat.le_refl _) (fun d _ _ ho => at_put_ne _ _ ?_)⟩
 intro hbd
 rcases fl with ⟨hv, _⟩ | ⟨c, cp, rest, hv, _, _, hc, _⟩
 ·rw [hv] at ho; exact ho trivial
 ·rw [hv] at ho
  have hdc : d = c := Classical.not_not.1 ho
  rw [← hdc, hbd, hat] at hc
  cases hc
structure TI (h : Heap) (r : Nat) (request may : Bool) (cds lns cns : List Str) (mm : Rd) (fs : List Fld) (lo : Nat) (tm : Tm) (h' : Heap) : Prop where
 ext : Ext h h'
 big : h.n + 1 < h'.n
 box : h'.at h.n = some (.cells mm.cells 35 0 0)
 res : h'.at (h.n + 1) = some (.cells Rd.zero.cells 35 0 0)
 flds : Flds lo h' mm.fields fs
 off1 : Off h.n mm.fields
 off2 : Off (h.n + 1) mm.fields
 cds : ∃ v, tget tm 10 = v ∧ Strs (h.n + 2) h' v cds
 lns : ∃ v, tget tm 11 = v ∧ Strs (h.n + 2) h' v lns
 cns : ∃ v, tget tm 12 = v ∧ Strs (h.n + 2) h' v cns
 t1 : tget tm 1 = ptr r 0
 t2 : tget tm 2 = .bool request
 t3 : tget tm 3 = .bool may
 t4 : tget tm 4 = ptr h.n 0
 t8 : tget tm 8 = ptr (h.n + 1) 0
theorem TI.next {r : Nat} {request may : Bool} {cds lns cns : List Str} {mm : Rd} {fs : List Fld} {lo : Nat} {tm tm' : Tm} {h1 h2 : Heap} (T : TI h r request may cds lns cns mm fs lo tm h1) (hx : Ext h1 h2)
  (e1 : tget tm' 1 = tget tm 1) (e2 : tget tm' 2 = tget tm 2) (e3 : tget tm' 3 = tget tm 3) (e4 : tget tm' 4 = tget tm 4) (e8 : tget tm' 8 = tget tm 8) (e10 : tget tm' 10 = tget tm 10) (e11 : tget tm' 11 = tget tm 11) (e12 : tget tm' 12 = tget tm 12) : TI h r request may cds lns cns mm fs lo tm' h2 := by
 obtain ⟨v1, a1, b1⟩ := T.cds
 obtain ⟨v2, a2, b2⟩ := T.lns
 obtain ⟨v3, a3, b3⟩ := T.cns
 have hb := T.big
 have hn := hx.1
 exact ⟨T.ext.trans hx, by omega, (hx.2 _ (by omega)).trans T.box, (hx.2 _ hb).trans T.res, T.flds.ext hx, T.off1, T.off2, ⟨v1, e10.trans a1, b1.ext hx⟩, ⟨v2, e11.trans a2, b2.ext hx⟩, ⟨v3, e12.trans a3, b3.ext hx⟩, e1.trans T.t1, e2.trans T.t2, e3.trans T.t3, e4.trans T.t4, e8.trans T.t8⟩
theorem TI.put {r : Nat} {request may : Bool} {cds lns cns : List Str} {mm mm' : Rd} {fs : List Fld} {lo : Nat} {tm tm' : Tm} {h1 : Heap} (T : TI h r request may cds lns cns mm fs lo tm h1) (hf : mm'.fields = mm.fields)
  (e1 : tget tm' 1 = tget tm 1) (e2 : tget tm' 2 = tget tm 2) (e3 : tget tm' 3 = tget tm 3) (e4 : tget tm' 4 = tget tm 4) (e8 : tget tm' 8 = tget tm 8) (e10 : tget tm' 10 = tget tm 10) (e11 : tget tm' 11 = tget tm 11) (e12 : tget tm' 12 = tget tm 12) : TI h r request may cds lns cns mm' fs lo tm' (h1.put h.n (.cells mm'.cells 35 0 0)) := by
 obtain ⟨v1, a1, b1⟩ := T.cds
 obtain ⟨v2, a2, b2⟩ := T.lns
 obtain ⟨v3, a3, b3⟩ := T.cns
 have hk : ∀ b, h.n + 2 ≤ b → (h1.put h.n (.cells mm'.cells 35 0 0)).at b = h1.at b := fun b hb => at_put_ne _ _ (by omega)
 refine ⟨T.ext.put (Nat.le_refl _) _, T.big, at_put_eq _ _ _, (at_put_ne _ _ (by omega)).trans T.res, ?_, hf ▸ T.off1, hf ▸ T.off2, ⟨v1, e10.trans a1, b1.keep (Nat.le_refl _) (fun b _ hb _ => hk b hb)⟩, ⟨v2, e11.trans a2, b2.keep (Nat.le_refl _) (fun b _ hb _ => hk b hb)⟩, ⟨v3, e12.trans a3, b3.keep (Nat.le_refl _) (fun b _ hb _ => hk b hb)⟩, e1.trans T.t1, e2.trans T.t2, e3.trans T.t3, e4.trans T.t4, e8.trans T.t8⟩
 rw [hf]
 refine T.flds.keep (Nat.le_refl _) (fun b _ _ ho => at_put_ne _ _ ?_)
 rintro rfl
 exact ho T.off1
theorem TI.putF {r : Nat} {request may : Bool} {cds lns cns : List Str} {mm mm' : Rd} {fs fs' : List Fld} {lo lo' : Nat} {tm tm' : Tm} {h1 : Heap} (T : TI h r request may cds lns cns mm fs lo tm h1) (hf : Flds lo' h1 mm'.fields fs') (o1 : Off h.n mm'.fields) (o2 : Off (h.n + 1) mm'.fields)
  (e1 : tget tm' 1 = tget tm 1) (e2 : tget tm' 2 = tget tm 2) (e3 : tget tm' 3 = tget tm 3) (e4 : tget tm' 4 = tget tm 4) (e8 : tget tm' 8 = tget tm 8) (e10 : tget tm' 10 = tget tm 10) (e11 : tget tm' 11 = tget tm 11) (e12 : tget tm' 12 = tget tm 12) : TI h r request may cds lns cns mm' fs' lo' tm' (h1.put h.n (.cells mm'.cells 35 0 0)) := by
 obtain ⟨v1, a1, b1⟩ := T.cds
 obtain ⟨v2, a2, b2⟩ := T.lns
 obtain ⟨v3, a3, b3⟩ := T.cns
 have hk : ∀ b, h.n + 2 ≤ b → (h1.put h.n (.cells mm'.cells 35 0 0)).at b = h1.at b := fun b hb => at_put_ne _ _ (by omega)
 refine ⟨T.ext.put (Nat.le_refl _) _, T.big, at_put_eq _ _ _, (at_put_ne _ _ (by omega)).trans T.res, ?_, o1, o2, ⟨v1, e10.trans a1, b1.keep (Nat.le_refl _) (fun b _ hb _ => hk b hb)⟩, ⟨v2, e11.trans a2, b2.keep (Nat.le_refl _) (fun b _ hb _ => hk b hb)⟩, ⟨v3, e12.trans a3, b3.keep (Nat.le_refl _) (fun b _ hb _ => hk b hb)⟩, e1.trans T.t1, e2.trans T.t2, e3.trans T.t3, e4.trans T.t4, e8.trans T.t8⟩
 refine hf.keep (Nat.le_refl _) (fun b _ _ ho => at_put_ne _ _ ?_)
 rintro rfl
 exact ho o1
set_option maxHeartbeats 8000000 in
theorem transfer_ok (m : Rd) (fs : List Fld) (lo r p : Nat) (l : List UInt8) (d : Value) (request may : Bool) (hmay : may = false) (hv : Flds lo h m.fields fs) (hs : Short fs) (hn : ∀ f ∈ fs, f.2.length < 1000000) (hc : fs.length < 1000000)
    (hr : w0.heap.size ≤ r) (hat : h.at r = some (.cells [d, I p] 64 0 0)) (hd : Data h d l) (hdr : ¬InB r d) (hl : l.length < 1000000) (hp : p ≤ l.length) (hmc : m.chunked = false) (hbody : single m.body = true) (htrl : single m.trailer = true)
    (cds lns cns prs : List Str) (hcds : valsL fs sTE = cds) (hlns : valsL fs sCL = lns) (hcns : valsL fs sCo = cns) (hprs : valsL fs sPr = prs) :
    ACall Tryz.prog w0 44 [m.val, ptr r 0, .bool request, .bool may] h (fun v h' => ∃ (rd : Rd) (vd : Nat), v = .tuple #[rd.val, I vd] ∧ Ext h h' ∧ TEnd m fs ((l.length : Int) - p) cds lns cns prs request rd vd h' ∧ Sgl rd) := by
  refine ACall.known fun hKn => ?_
  obtain ⟨hN, hB⟩ := hKn
  refine ACall.run noCount mixed Tryz.func44 rfl (by kernel_rfl) (Nat.le_of_ble_eq_true rfl) fun X hX => ?_
  have hrn := hB _ _ hat
  have hcdsS : ShortS cds := hcds ▸ vals_short hs (n := 0) hn _
  have hlnsS : ShortS lns := hlns ▸ vals_short hs (n := 0) hn _
  have hcnsS : ShortS cns := hcns ▸ vals_short hs (n := 0) hn _
  have hcdsC : cds.length ≤ fs.length := hcds ▸ vals_len fs _
  have hlnsC : lns.length ≤ fs.length := hlns ▸ vals_len fs _
  have hcnsC : cns.length ≤ fs.length := hcns ▸ vals_len fs _
  have hprsC : prs.length ≤ fs.length := hprs ▸ vals_len fs _
  have hoff : ∀ b, h.n ≤ b → Off b m.fields := fun b hb => by
    rcases hv with ⟨h1, _⟩ | ⟨c, cp, rest, h1, _, h2, _⟩
    · rw [h1]; trivial
    · rw [h1]; show b ≠ c; omega
  have hX' : ∀ (tm : Tm) (h2 : Heap) (rd : Rd) (vd : Nat), Ext h h2 → h2.at (h.n + 1) = some (.cells rd.cells 35 0 0) → tget tm 8 = ptr (h.n + 1) 0 → tget tm 9 = I vd → Sgl rd → TEnd m fs ((l.length : Int) - p) cds lns cns prs request rd vd h2 → X .ret tm [] h2 := by
    intro tm h2 rd vd e1 e2 e3 e4 e6 e5
    unfold Rd.cells at e2
    ((with_reducible refine hX _ _ _ (fun j hj => nomatch hj) ?_); simp only[push_cast,go_sem_proc,↓ite_only,M_block,Tryz.results44,e2, e3, e4])
    exact ⟨rd, vd, rfl, e1, e5, e6⟩
  clear hX
  have hTE : ∀ (n vd : Nat) (h2 : Heap), 0 < n → headV cds lns cns prs (valsL fs sTr) m.minor = n → vd = n → TEnd m fs ((l.length : Int) - p) cds lns cns prs request Rd.zero vd h2 := fun n vd h2 h0 e1 e2 =>
    ⟨fun _ => e2.trans e1.symm, fun e => by omega, fun e => by omega⟩
  rw [M_seq]
  refine M_cut (fun tm h1 => h1 = (h.new (.cells m.cells 35 0 0)).new (.cells Rd.zero.cells 35 0 0) ∧ tget tm 1 = ptr r 0 ∧ tget tm 2 = .bool request ∧ tget tm 3 = .bool may ∧ tget tm 4 = ptr h.n 0 ∧ tget tm 8 = ptr (h.n + 1) 0) (fun R hR hE => ?_) ?_
  · (repeat simp only[push_cast,go_sem_proc,↓ite_only,M_block,Rd.val, Rd.cells])
    exact hR _ _ ⟨rfl, (by simp only[zT,Nat.reduceBEq]), (by simp only[zT,Nat.reduceBEq]), (by simp only[zT,Nat.reduceBEq]), (by simp only[zT,Nat.reduceBEq]), (by simp only[zT,Nat.reduceBEq])⟩
  rintro tm0 h0 ⟨e0, t1, t2, t3, t4, t8⟩
  have hx0 : Ext h h0 := e0 ▸ ((Ext.refl h).new _).new _
  have hn0 : h0.n = h.n + 2 := by rw [e0]; rfl
  have hm0 : h0.at h.n = some (.cells m.cells 35 0 0) := by rw [e0, at_new_ne _ _ (by rw [n_new]; omega)]; exact at_new_eq _ _
  have hz0 : h0.at (h.n + 1) = some (.cells Rd.zero.cells 35 0 0) := by rw [e0]; exact at_new_eq _ _
  have hmX : ∀ h', Ext h0 h' → h'.at h.n = some (.cells m.cells 35 0 0) := fun h' hx => (hx.2 h.n (by omega)).trans hm0
  clear e0
  rw [M_seq]
  refine M_cut (fun tm h1 => TI h r request may cds lns cns m fs lo tm h1) (fun R hR hE => ?_) ?_
  · unfold Rd.cells at hmX
    have hm0' := hmX h0 (.refl _)
    (repeat(first|(simp(disch:=omega)only[push_cast,go_sem_proc,↓ite_only,M_block,t4, hm0'])|(with_reducible refine M_draw (id:=1) p44_1 ?_ ?_;focus kernel_rfl)))
    refine callP_of (values_ok fs sTE lo m.fields (hv.ext hx0) hs hc) ?_
    rintro v h1 ⟨hsv1, hx1⟩
    rw [hcds] at hsv1
    have hm1 := hmX h1 hx1
    (repeat simp only[push_cast,go_sem_proc,↓ite_only,M_block,hm1, t4])
    refine callP_of (values_ok fs sCL lo m.fields (hv.ext (hx0.trans hx1)) hs hc) ?_
    rintro v2 h2 ⟨hsv2, hx2⟩
    rw [hlns] at hsv2
    have hm2 := hmX h2 (hx1.trans hx2)
    (repeat simp only[push_cast,go_sem_proc,↓ite_only,M_block,hm2, t4])
    refine callP_of (values_ok fs sCo lo m.fields (hv.ext (hx0.trans (hx1.trans hx2))) hs hc) ?_
    rintro v3 h3 ⟨hsv3, hx3⟩
    rw [hcns] at hsv3
    have hx03 : Ext h0 h3 := hx1.trans (hx2.trans hx3)
    have hm3 := hmX h3 hx03
    have hnn1 := hx1.1
    have hnn2 := hx2.1
    have hnn3 := hx3.1
    (repeat simp only[push_cast,go_sem_proc,↓ite_only,M_block,hm3, t4])
    refine hR _ _ ⟨hx0.trans hx03, by omega, hmX h3 hx03, (hx03.2 _ (by omega)).trans hz0, hv.ext (hx0.trans hx03), hoff _ (by omega), hoff _ (by omega),
      ⟨v, (by simp only[zT,Nat.reduceBEq]), Strs.ext (Strs.lower hsv1 (by rw [hn0]; exact Nat.le_refl _)) (hx2.trans hx3)⟩, ⟨v2, (by simp only[zT,Nat.reduceBEq]), Strs.ext (Strs.lower hsv2 (by omega)) hx3⟩, ⟨v3, (by simp only[zT,Nat.reduceBEq]), Strs.lower hsv3 (by omega)⟩, ‹_›, ‹_›, ‹_›, ‹_›, ‹_›⟩
  clear hmX hz0 hm0 hn0 hx0 t1 t2 t3 t4 t8 tm0 h0
  rintro tm1 h1 T1
  rw [M_seq]
  refine M_cut (fun tm h1 => TI h r request may cds lns cns m fs lo tm h1 ∧ ¬TooMany cds lns cns prs m.minor) (fun R hR hE => ?_) ?_
  · obtain ⟨v1, t10, hsv1⟩ := T1.cds
    obtain ⟨v2, t11, hsv2⟩ := T1.lns
    obtain ⟨v3, t12, hsv3⟩ := T1.cns
    obtain ⟨a1, cp1, rfl⟩ := hsv1.len
    obtain ⟨a2, cp2, rfl⟩ := hsv2.len
    obtain ⟨a3, cp3, rfl⟩ := hsv3.len
    have t4 := T1.t4
    have hbox := T1.box
    unfold Rd.cells at hbox
    have t8 := T1.t8
    have hres := T1.res
    unfold Rd.zero Rd.cells at hres
    (repeat simp only[push_cast,go_sem_proc,↓ite_only,M_block,t4, t10, t11, t12, hbox, t8, hres])
    repeat' ((with_reducible(first|refine condM_same ?_ ?_|refine condM_nsame ?_ ?_|refine oneM_same ?_ ?_|refine oneM_nsame ?_ ?_|refine oneP_same ?_ ?_|refine oneP_nsame ?_ ?_|refine condM_dec_ ?_ ?_|refine condM_not_ ?_ ?_|refine oneM_dec_ ?_ ?_|refine oneM_not_ ?_ ?_|refine oneP_dec_ ?_ ?_|refine oneP_not_ ?_ ?_|refine condM_bool ?_ ?_|refine oneM_bool ?_ ?_|refine oneP_bool ?_ ?_)<;>intro c) <;> first | (exfalso; first | contradiction | omega) | (try (repeat(first|(simp(disch:=first|omega|decide)only[push_cast,go_sem_proc,↓ite_only,M_block,t4, t10, t11, t12, hbox, t8, hres, c])|(with_reducible refine⟨by omega,?_⟩)))))
    · refine callM_of (values_ok fs sPr lo m.fields T1.flds hs hc) ?_
      rintro v h2 ⟨hsv4, hx4⟩
      rw [hprs] at hsv4
      obtain ⟨a4, cp4, rfl⟩ := hsv4.len
      have hT2 : ∀ tm', tget tm' 1 = tget tm1 1 → tget tm' 2 = tget tm1 2 → tget tm' 3 = tget tm1 3 → tget tm' 4 = tget tm1 4 → tget tm' 8 = tget tm1 8 → tget tm' 10 = tget tm1 10 → tget tm' 11 = tget tm1 11 → tget tm' 12 = tget tm1 12 → TI h r request may cds lns cns m fs lo tm' h2 := fun tm' x1 x2 x3 x4 x5 x6 x7 x8 => T1.next hx4 x1 x2 x3 x4 x5 x6 x7 x8
      have hbox2 := (hx4.2 h.n (by have := T1.big; omega)).trans hbox
      have hres2 := (hx4.2 (h.n + 1) T1.big).trans hres
      (repeat simp only[push_cast,go_sem_proc,↓ite_only,M_block,t4, t10, t11, t12, hbox2, t8, hres2])
      repeat' ((with_reducible(first|refine condM_same ?_ ?_|refine condM_nsame ?_ ?_|refine oneM_same ?_ ?_|refine oneM_nsame ?_ ?_|refine oneP_same ?_ ?_|refine oneP_nsame ?_ ?_|refine condM_dec_ ?_ ?_|refine condM_not_ ?_ ?_|refine oneM_dec_ ?_ ?_|refine oneM_not_ ?_ ?_|refine oneP_dec_ ?_ ?_|refine oneP_not_ ?_ ?_|refine condM_bool ?_ ?_|refine oneM_bool ?_ ?_|refine oneP_bool ?_ ?_)<;>intro c) <;> first | (exfalso; first | contradiction | omega) | (try (repeat(first|(simp(disch:=first|omega|decide)only[push_cast,go_sem_proc,↓ite_only,M_block,t4, t10, t11, t12, hbox2, t8, hres2, c])|(with_reducible refine⟨by omega,?_⟩)))))
      all_goals first
      | (have hbad : TooMany cds lns cns prs m.minor := by unfold TooMany; omega
         have hV : headV cds lns cns prs (valsL fs sTr) m.minor = 3 := by unfold headV; rw [decide_eq_true hbad]
         (with_reducible refine hE _ _ _ _ (nomatch ·) ?_)
         (repeat simp only[push_cast,go_sem_proc,↓ite_only,M_block])
         exact hX' _ _ Rd.zero 3 (Ext.put (T1.ext.trans hx4) (Nat.le_succ _) _) (at_put_eq _ _ _) ‹_› (by simp only[zT,Nat.reduceBEq];rfl) ⟨rfl, rfl, rfl⟩ (hTE 3 3 _ (by decide) hV rfl))
      | (refine hR _ _ ⟨hT2 _ (by simp only [tget_cons, Nat.reduceBEq, tsel_true, tsel_false]) (by simp only [tget_cons, Nat.reduceBEq, tsel_true, tsel_false]) (by simp only [tget_cons, Nat.reduceBEq, tsel_true, tsel_false]) (by simp only [tget_cons, Nat.reduceBEq, tsel_true, tsel_false]) (by simp only [tget_cons, Nat.reduceBEq, tsel_true, tsel_false]) (by simp only [tget_cons, Nat.reduceBEq, tsel_true, tsel_false]) (by simp only [tget_cons, Nat.reduceBEq, tsel_true, tsel_false]) (by simp only [tget_cons, Nat.reduceBEq, tsel_true, tsel_false]), ?_⟩
         unfold TooMany
         omega)
    all_goals
      have hbad : TooMany cds lns cns prs m.minor := by unfold TooMany; omega
      have hV : headV cds lns cns prs (valsL fs sTr) m.minor = 3 := by unfold headV; rw [decide_eq_true hbad]
      (with_reducible refine hE _ _ _ _ (nomatch ·) ?_)
      (repeat simp only[push_cast,go_sem_proc,↓ite_only,M_block])
      exact hX' _ _ Rd.zero 3 (Ext.put T1.ext (Nat.le_succ _) _) (at_put_eq _ _ _) ‹_› (by simp only[zT,Nat.reduceBEq];rfl) ⟨rfl, rfl, rfl⟩ (hTE 3 3 _ (by decide) hV rfl)
  clear T1 h1 tm1
  rintro tm2 h2 ⟨T2, hmany⟩
  obtain ⟨closes, hcl⟩ : ∃ b, listedL cns sClose = b := ⟨_, rfl⟩
  obtain ⟨keeps, hke⟩ : ∃ b, listedL cns sKeep = b := ⟨_, rfl⟩
  rw [M_seq]
  refine M_cut (fun tm h1 => TI h r request may cds lns cns m fs lo tm h1 ∧ tget tm 13 = .bool closes ∧ tget tm 14 = .bool keeps) (fun R hR hE => ?_) ?_
  · obtain ⟨v3, t12, hsv3⟩ := T2.cns
    obtain ⟨a3, cp3, rfl⟩ := hsv3.len
    (repeat simp only[push_cast,go_sem_proc,↓ite_only,M_block,t12])
    refine callM_of (listed_ok cns sClose _ _ hsv3 hcnsS (by omega)) ?_
    rintro v h3 ⟨rfl, hx3⟩
    rw [hcl]
    (repeat simp only[push_cast,go_sem_proc,↓ite_only,M_block,t12])
    refine callM_of (listed_ok cns sKeep _ _ (hsv3.ext hx3) hcnsS (by omega)) ?_
    rintro v h4 ⟨rfl, hx4⟩
    rw [hke]
    (repeat simp only[push_cast,go_sem_proc,↓ite_only,M_block])
    exact hR _ _ ⟨T2.next (hx3.trans hx4) (by simp only [tget_cons, Nat.reduceBEq, tsel_true, tsel_false]) (by simp only [tget_cons, Nat.reduceBEq, tsel_true, tsel_false]) (by simp only [tget_cons, Nat.reduceBEq, tsel_true, tsel_false]) (by simp only [tget_cons, Nat.reduceBEq, tsel_true, tsel_false]) (by simp only [tget_cons, Nat.reduceBEq, tsel_true, tsel_false]) (by simp only [tget_cons, Nat.reduceBEq, tsel_true, tsel_false]) (by simp only [tget_cons, Nat.reduceBEq, tsel_true, tsel_false]) (by simp only [tget_cons, Nat.reduceBEq, tsel_true, tsel_false]), (by simp only[zT,Nat.reduceBEq]), (by simp only[zT,Nat.reduceBEq])⟩
  clear T2 h2 tm2
  rintro tm2 h2 ⟨T2, t13, t14⟩
  rw [M_seq]
  refine M_cut (fun tm h1 => TI h r request may cds lns cns { m with close := closes || (decide (m.minor = 0) && !keeps) } fs lo tm h1 ∧ tget tm 13 = .bool closes ∧ tget tm 14 = .bool keeps) (fun R hR hE => ?_) ?_
  · have t4 := T2.t4
    have hbox := T2.box
    unfold Rd.cells at hbox
    cases closes with
    | true =>
      (repeat(first|(simp(disch:=first|omega|(simp only[zN];omega))only[push_cast,go_sem_proc,↓ite_only,M_block,t13, t14, t4, hbox])|(with_reducible refine⟨by omega,?_⟩)))
      refine hR _ _ ⟨?_, ‹_›, ‹_›⟩
      exact T2.put (mm' := { m with close := true }) rfl (by simp only [tget_cons, Nat.reduceBEq, tsel_true, tsel_false]) (by simp only [tget_cons, Nat.reduceBEq, tsel_true, tsel_false]) (by simp only [tget_cons, Nat.reduceBEq, tsel_true, tsel_false]) (by simp only [tget_cons, Nat.reduceBEq, tsel_true, tsel_false]) (by simp only [tget_cons, Nat.reduceBEq, tsel_true, tsel_false]) (by simp only [tget_cons, Nat.reduceBEq, tsel_true, tsel_false]) (by simp only [tget_cons, Nat.reduceBEq, tsel_true, tsel_false]) (by simp only [tget_cons, Nat.reduceBEq, tsel_true, tsel_false])
    | false =>
      cases keeps with
      | true =>
        (repeat simp(disch:=omega)only[push_cast,go_sem_proc,↓ite_only,t13, t14, t4, hbox])
        (with_reducible(first|refine condM_same ?_ ?_|refine condM_nsame ?_ ?_|refine oneM_same ?_ ?_|refine oneM_nsame ?_ ?_|refine oneP_same ?_ ?_|refine oneP_nsame ?_ ?_|refine condM_dec_ ?_ ?_|refine condM_not_ ?_ ?_|refine oneM_dec_ ?_ ?_|refine oneM_not_ ?_ ?_|refine oneP_dec_ ?_ ?_|refine oneP_not_ ?_ ?_|refine condM_bool ?_ ?_|refine oneM_bool ?_ ?_|refine oneP_bool ?_ ?_)<;>intro c)
        · have hd := decide_eq_true c
          (repeat(first|(simp(disch:=first|omega|(simp only[zN];omega))only[push_cast,go_sem_proc,↓ite_only,M_block,t13, t14, t4, hbox, hd])|(with_reducible refine⟨by omega,?_⟩)))
          refine hR _ _ ⟨?_, ‹_›, ‹_›⟩
          rw [hd]
          exact T2.put (mm' := { m with close := false }) rfl (by simp only [tget_cons, Nat.reduceBEq, tsel_true, tsel_false]) (by simp only [tget_cons, Nat.reduceBEq, tsel_true, tsel_false]) (by simp only [tget_cons, Nat.reduceBEq, tsel_true, tsel_false]) (by simp only [tget_cons, Nat.reduceBEq, tsel_true, tsel_false]) (by simp only [tget_cons, Nat.reduceBEq, tsel_true, tsel_false]) (by simp only [tget_cons, Nat.reduceBEq, tsel_true, tsel_false]) (by simp only [tget_cons, Nat.reduceBEq, tsel_true, tsel_false]) (by simp only [tget_cons, Nat.reduceBEq, tsel_true, tsel_false])
        · have hd := decide_eq_false c
          (repeat(first|(simp(disch:=first|omega|(simp only[zN];omega))only[push_cast,go_sem_proc,↓ite_only,M_block,t13, t14, t4, hbox, hd])|(with_reducible refine⟨by omega,?_⟩)))
          refine hR _ _ ⟨?_, ‹_›, ‹_›⟩
          rw [hd]
          exact T2.put (mm' := { m with close := false }) rfl (by simp only [tget_cons, Nat.reduceBEq, tsel_true, tsel_false]) (by simp only [tget_cons, Nat.reduceBEq, tsel_true, tsel_false]) (by simp only [tget_cons, Nat.reduceBEq, tsel_true, tsel_false]) (by simp only [tget_cons, Nat.reduceBEq, tsel_true, tsel_false]) (by simp only [tget_cons, Nat.reduceBEq, tsel_true, tsel_false]) (by simp only [tget_cons, Nat.reduceBEq, tsel_true, tsel_false]) (by simp only [tget_cons, Nat.reduceBEq, tsel_true, tsel_false]) (by simp only [tget_cons, Nat.reduceBEq, tsel_true, tsel_false])
      | false =>
        (repeat simp(disch:=omega)only[push_cast,go_sem_proc,↓ite_only,t13, t14, t4, hbox])
        (with_reducible(first|refine condM_same ?_ ?_|refine condM_nsame ?_ ?_|refine oneM_same ?_ ?_|refine oneM_nsame ?_ ?_|refine oneP_same ?_ ?_|refine oneP_nsame ?_ ?_|refine condM_dec_ ?_ ?_|refine condM_not_ ?_ ?_|refine oneM_dec_ ?_ ?_|refine oneM_not_ ?_ ?_|refine oneP_dec_ ?_ ?_|refine oneP_not_ ?_ ?_|refine condM_bool ?_ ?_|refine oneM_bool ?_ ?_|refine oneP_bool ?_ ?_)<;>intro c)
        · have hd := decide_eq_true c
          (repeat(first|(simp(disch:=first|omega|(simp only[zN];omega))only[push_cast,go_sem_proc,↓ite_only,M_block,t13, t14, t4, hbox, hd])|(with_reducible refine⟨by omega,?_⟩)))
          refine hR _ _ ⟨?_, ‹_›, ‹_›⟩
          rw [hd]
          exact T2.put (mm' := { m with close := true }) rfl (by simp only [tget_cons, Nat.reduceBEq, tsel_true, tsel_false]) (by simp only [tget_cons, Nat.reduceBEq, tsel_true, tsel_false]) (by simp only [tget_cons, Nat.reduceBEq, tsel_true, tsel_false]) (by simp only [tget_cons, Nat.reduceBEq, tsel_true, tsel_false]) (by simp only [tget_cons, Nat.reduceBEq, tsel_true, tsel_false]) (by simp only [tget_cons, Nat.reduceBEq, tsel_true, tsel_false]) (by simp only [tget_cons, Nat.reduceBEq, tsel_true, tsel_false]) (by simp only [tget_cons, Nat.reduceBEq, tsel_true, tsel_false])
        · have hd := decide_eq_false c
          (repeat(first|(simp(disch:=first|omega|(simp only[zN];omega))only[push_cast,go_sem_proc,↓ite_only,M_block,t13, t14, t4, hbox, hd])|(with_reducible refine⟨by omega,?_⟩)))
          refine hR _ _ ⟨?_, ‹_›, ‹_›⟩
          rw [hd]
          exact T2.put (mm' := { m with close := false }) rfl (by simp only [tget_cons, Nat.reduceBEq, tsel_true, tsel_false]) (by simp only [tget_cons, Nat.reduceBEq, tsel_true, tsel_false]) (by simp only [tget_cons, Nat.reduceBEq, tsel_true, tsel_false]) (by simp only [tget_cons, Nat.reduceBEq, tsel_true, tsel_false]) (by simp only [tget_cons, Nat.reduceBEq, tsel_true, tsel_false]) (by simp only [tget_cons, Nat.reduceBEq, tsel_true, tsel_false]) (by simp only [tget_cons, Nat.reduceBEq, tsel_true, tsel_false]) (by simp only [tget_cons, Nat.reduceBEq, tsel_true, tsel_false])
  clear T2 h2 tm2 t13 t14
  obtain ⟨m1, em1⟩ : ∃ x, { m with close := closes || (decide (m.minor = 0) && !keeps) } = x := ⟨_, rfl⟩
  have hm1f : m1.fields = m.fields := by rw [← em1]
  have hm1m : m1.minor = m.minor := by rw [← em1]
  have hm1c : m1.chunked = false := by rw [← em1]; exact hmc
  rw [em1]
  rintro tm2 h2 ⟨T2, t13, t14⟩
  rw [M_seq]
  refine M_cut (fun tm h1 => TI h r request may cds lns cns m1 fs lo tm h1 ∧ tget tm 13 = .bool closes ∧ (closes && keeps) = false) (fun R hR hE => ?_) ?_
  · have t8 := T2.t8
    have hres := T2.res
    unfold Rd.zero Rd.cells at hres
    cases hck : closes && keeps with
    | true =>
      rw [Bool.and_eq_true] at hck
      obtain ⟨rfl, rfl⟩ := hck
      have hV : headV cds lns cns prs (valsL fs sTr) m.minor = 3 := by unfold headV; rw [decide_eq_false hmany, hcl, hke]; rfl
      (repeat(first|(simp(disch:=decide)only[push_cast,go_sem_proc,↓ite_only,M_block,t13, t14, t8, hres])|(with_reducible refine⟨by omega,?_⟩)))
      (with_reducible refine hE _ _ _ _ (nomatch ·) ?_)
      (repeat simp only[push_cast,go_sem_proc,↓ite_only,M_block])
      exact hX' _ _ Rd.zero 3 (Ext.put T2.ext (Nat.le_succ _) _) (at_put_eq _ _ _) ‹_› (by simp only[zT,Nat.reduceBEq];rfl) ⟨rfl, rfl, rfl⟩ (hTE 3 3 _ (by decide) hV rfl)
    | false =>
      cases closes with
      | false =>
        (repeat simp only[push_cast,go_sem_proc,↓ite_only,M_block,t13, t14])
        exact hR _ _ ⟨T2.next (.refl _) (by simp only [tget_cons, Nat.reduceBEq, tsel_true, tsel_false]) (by simp only [tget_cons, Nat.reduceBEq, tsel_true, tsel_false]) (by simp only [tget_cons, Nat.reduceBEq, tsel_true, tsel_false]) (by simp only [tget_cons, Nat.reduceBEq, tsel_true, tsel_false]) (by simp only [tget_cons, Nat.reduceBEq, tsel_true, tsel_false]) (by simp only [tget_cons, Nat.reduceBEq, tsel_true, tsel_false]) (by simp only [tget_cons, Nat.reduceBEq, tsel_true, tsel_false]) (by simp only [tget_cons, Nat.reduceBEq, tsel_true, tsel_false]), ‹_›, hck⟩
      | true =>
        cases keeps with
        | true => cases hck
        | false =>
          (repeat simp only[push_cast,go_sem_proc,↓ite_only,M_block,t13, t14])
          exact hR _ _ ⟨T2.next (.refl _) (by simp only [tget_cons, Nat.reduceBEq, tsel_true, tsel_false]) (by simp only [tget_cons, Nat.reduceBEq, tsel_true, tsel_false]) (by simp only [tget_cons, Nat.reduceBEq, tsel_true, tsel_false]) (by simp only [tget_cons, Nat.reduceBEq, tsel_true, tsel_false]) (by simp only [tget_cons, Nat.reduceBEq, tsel_true, tsel_false]) (by simp only [tget_cons, Nat.reduceBEq, tsel_true, tsel_false]) (by simp only [tget_cons, Nat.reduceBEq, tsel_true, tsel_false]) (by simp only [tget_cons, Nat.reduceBEq, tsel_true, tsel_false]), ‹_›, hck⟩
  clear T2 h2 tm2 t13 t14
  rintro tm2 h2 ⟨T2, t13, hck⟩
  have hcds1 : cds.length ≤ 1 := by unfold TooMany at hmany; omega
  have hlns1 : lns.length ≤ 1 := by unfold TooMany at hmany; omega
  obtain ⟨m2, em2⟩ : ∃ x, { m1 with chunked := decide (cds.length = 1) } = x := ⟨_, rfl⟩
  have hm2f : m2.fields = m.fields := by rw [← em2]; exact hm1f
  have hm2m : m2.minor = m.minor := by rw [← em2]; exact hm1m
  have hm2c : m2.chunked = decide (cds.length = 1) := by rw [← em2]
  rw [M_seq]
  refine M_cut (fun tm h1 => TI h r request may cds lns cns m2 fs lo tm h1 ∧ tget tm 13 = .bool closes ∧ (decide (cds.length = 1) && !sameL ((snth cds 0).map lowB') sChunked) = false) (fun R hR hE => ?_) ?_
  · have t8 := T2.t8
    have t4 := T2.t4
    have hres := T2.res
    unfold Rd.zero Rd.cells at hres
    have hbox := T2.box
    unfold Rd.cells at hbox
    obtain ⟨v1, t10, hsv1⟩ := T2.cds
    obtain ⟨a1, cp1, rfl⟩ := hsv1.len
    rcases Nat.lt_or_ge 0 cds.length with hlt | hge
    · have h1 : cds.length = 1 := by omega
      obtain ⟨b, cp', rest, hve, _, hbn, hat1⟩ := hsv1.at hlt
      cases hve
      have hg := str_get rest hlt
      have hs0 := hcdsS.at hlt
      (repeat simp only[push_cast,go_sem_proc,↓ite_only,M_block,t10, h1, hat1, hg])
      refine callM_of (lower_ok (snth cds 0) (by omega)) ?_
      rintro v h3 ⟨rfl, hx3⟩
      have hbox3 := (hx3.2 h.n (by have := T2.big; omega)).trans hbox
      have hres3 := (hx3.2 (h.n + 1) T2.big).trans hres
      cases hb : sameL ((snth cds 0).map lowB') sChunked with
      | true =>
        have hb' := hb
        unfold sChunked at hb'
        (repeat(first|(simp(disch:=first|omega|(simp only[zN];omega))only[push_cast,go_sem_proc,↓ite_only,M_block,hb', t4, hbox3])|(with_reducible refine⟨by omega,?_⟩)))
        refine hR _ _ ⟨?_, ‹_›, by rw [hb, Bool.not_true, Bool.and_false]⟩
        rw [← em2, decide_eq_true h1]
        exact (T2.next (tm' := tm2) hx3 rfl rfl rfl rfl rfl rfl rfl rfl).put (mm' := { m1 with chunked := true }) rfl (by simp only [tget_cons, Nat.reduceBEq, tsel_true, tsel_false]) (by simp only [tget_cons, Nat.reduceBEq, tsel_true, tsel_false]) (by simp only [tget_cons, Nat.reduceBEq, tsel_true, tsel_false]) (by simp only [tget_cons, Nat.reduceBEq, tsel_true, tsel_false]) (by simp only [tget_cons, Nat.reduceBEq, tsel_true, tsel_false]) (by simp only [tget_cons, Nat.reduceBEq, tsel_true, tsel_false]) (by simp only [tget_cons, Nat.reduceBEq, tsel_true, tsel_false]) (by simp only [tget_cons, Nat.reduceBEq, tsel_true, tsel_false])
      | false =>
        have hb' := hb
        unfold sChunked at hb'
        have hV : headV cds lns cns prs (valsL fs sTr) m.minor = 1 := by unfold headV; rw [decide_eq_false hmany, hcl, hke, hck, decide_eq_true h1, hb]; rfl
        (repeat(first|(simp(disch:=decide)only[push_cast,go_sem_proc,↓ite_only,M_block,hb', t8, hres3])|(with_reducible refine⟨by omega,?_⟩)))
        (with_reducible refine hE _ _ _ _ (nomatch ·) ?_)
        (repeat simp only[push_cast,go_sem_proc,↓ite_only,M_block])
        exact hX' _ _ Rd.zero 1 (Ext.put (T2.ext.trans hx3) (Nat.le_succ _) _) (at_put_eq _ _ _) ‹_› (by simp only[zT,Nat.reduceBEq];rfl) ⟨rfl, rfl, rfl⟩ (hTE 1 1 _ (by decide) hV rfl)
    · have h0 : cds.length = 0 := by omega
      (repeat simp only[push_cast,go_sem_proc,↓ite_only,M_block,t10, h0])
      refine hR _ _ ⟨?_, ‹_›, by rw [decide_eq_false (by omega)]; rfl⟩
      have e : m2 = m1 := by rw [← em2, decide_eq_false (by omega), ← hm1c]
      rw [e]
      exact T2.next (.refl _) (by simp only [tget_cons, Nat.reduceBEq, tsel_true, tsel_false]) (by simp only [tget_cons, Nat.reduceBEq, tsel_true, tsel_false]) (by simp only [tget_cons, Nat.reduceBEq, tsel_true, tsel_false]) (by simp only [tget_cons, Nat.reduceBEq, tsel_true, tsel_false]) (by simp only [tget_cons, Nat.reduceBEq, tsel_true, tsel_false]) (by simp only [tget_cons, Nat.reduceBEq, tsel_true, tsel_false]) (by simp only [tget_cons, Nat.reduceBEq, tsel_true, tsel_false]) (by simp only [tget_cons, Nat.reduceBEq, tsel_true, tsel_false])
  clear T2 h2 tm2 t13
  rintro tm2 h2 ⟨T2, t13, hcb⟩
  obtain ⟨m3, em3⟩ : ∃ x, { m2 with len := match decide (lns.length = 1) with | true => ((numberL (snth lns 0)).1 : Int) | false => m2.len } = x := ⟨_, rfl⟩
  have hm3f : m3.fields = m.fields := by rw [← em3]; exact hm2f
  have hm3m : m3.minor = m.minor := by rw [← em3]; exact hm2m
  have hm3c : m3.chunked = decide (cds.length = 1) := by rw [← em3]; exact hm2c
  rw [M_seq]
  refine M_cut (fun tm h1 => TI h r request may cds lns cns m3 fs lo tm h1 ∧ tget tm 13 = .bool closes ∧ (decide (lns.length = 1) && !(numberL (snth lns 0)).2) = false) (fun R hR hE => ?_) ?_
  · have t8 := T2.t8
    have t4 := T2.t4
    have hres := T2.res
    unfold Rd.zero Rd.cells at hres
    have hbox := T2.box
    unfold Rd.cells at hbox
    obtain ⟨v1, t11, hsv1⟩ := T2.lns
    obtain ⟨a1, cp1, rfl⟩ := hsv1.len
    rcases Nat.lt_or_ge 0 lns.length with hlt | hge
    · have h1 : lns.length = 1 := by omega
      obtain ⟨b, cp', rest, hve, _, hbn, hat1⟩ := hsv1.at hlt
      cases hve
      have hg := str_get rest hlt
      have hs0 := hlnsS.at hlt
      (repeat simp only[push_cast,go_sem_proc,↓ite_only,M_block,t11, h1, hat1, hg])
      refine callM_of (number_ok (snth lns 0) (by omega)) ?_
      rintro v h3 ⟨rfl, hx3⟩
      have hbox3 := (hx3.2 h.n (by have := T2.big; omega)).trans hbox
      have hres3 := (hx3.2 (h.n + 1) T2.big).trans hres
      have hat3 := (hx3.2 b hbn).trans hat1
      cases hb : (numberL (snth lns 0)).2 with
      | true =>
        (repeat(first|(simp(disch:=first|omega|(simp only[zN];omega))only[push_cast,go_sem_proc,↓ite_only,M_block,t4, hbox3, hb])|(with_reducible refine⟨by omega,?_⟩)))
        refine hR _ _ ⟨?_, ‹_›, by rw [hb, Bool.not_true, Bool.and_false]⟩
        rw [← em3, decide_eq_true h1]
        exact (T2.next (tm' := tm2) hx3 rfl rfl rfl rfl rfl rfl rfl rfl).put (mm' := { m2 with len := ((numberL (snth lns 0)).1 : Int) }) rfl (by simp only [tget_cons, Nat.reduceBEq, tsel_true, tsel_false]) (by simp only [tget_cons, Nat.reduceBEq, tsel_true, tsel_false]) (by simp only [tget_cons, Nat.reduceBEq, tsel_true, tsel_false]) (by simp only [tget_cons, Nat.reduceBEq, tsel_true, tsel_false]) (by simp only [tget_cons, Nat.reduceBEq, tsel_true, tsel_false]) (by simp only [tget_cons, Nat.reduceBEq, tsel_true, tsel_false]) (by simp only [tget_cons, Nat.reduceBEq, tsel_true, tsel_false]) (by simp only [tget_cons, Nat.reduceBEq, tsel_true, tsel_false])
      | false =>
        have hV : headV cds lns cns prs (valsL fs sTr) m.minor = match decide (snth lns 0 = [] ∨ 10 < (snth lns 0).length) with | true => 3 | false => 1 := by unfold headV; rw [decide_eq_false hmany, hcl, hke, hck, hcb, decide_eq_true h1, hb]; rfl
        (repeat simp only[push_cast,go_sem_proc,↓ite_only,M_block,t11, t8, hres3, hb, h1, hat3, hg])
        repeat' ((with_reducible(first|refine condM_same ?_ ?_|refine condM_nsame ?_ ?_|refine oneM_same ?_ ?_|refine oneM_nsame ?_ ?_|refine oneP_same ?_ ?_|refine oneP_nsame ?_ ?_|refine condM_dec_ ?_ ?_|refine condM_not_ ?_ ?_|refine oneM_dec_ ?_ ?_|refine oneM_not_ ?_ ?_|refine oneP_dec_ ?_ ?_|refine oneP_not_ ?_ ?_|refine condM_bool ?_ ?_|refine oneM_bool ?_ ?_|refine oneP_bool ?_ ?_)<;>intro c) <;> first | (exfalso; first | contradiction | omega) | (try (repeat(first|(simp(disch:=first|omega|decide)only[push_cast,go_sem_proc,↓ite_only,M_block,t11, t8, hres3, hb, h1, hat3, hg, c])|(with_reducible refine⟨by omega,?_⟩)))))
        all_goals
          (with_reducible refine hE _ _ _ _ (nomatch ·) ?_)
          (repeat simp only[push_cast,go_sem_proc,↓ite_only,M_block])
          first
          | exact hX' _ _ Rd.zero 3 (Ext.put (T2.ext.trans hx3) (Nat.le_succ _) _) (at_put_eq _ _ _) ‹_› (by simp only[zT,Nat.reduceBEq];rfl) ⟨rfl, rfl, rfl⟩ (hTE 3 3 _ (by decide) (by rw [hV, decide_eq_true (by first | (left; assumption) | (right; omega))]) rfl)
          | exact hX' _ _ Rd.zero 1 (Ext.put (T2.ext.trans hx3) (Nat.le_succ _) _) (at_put_eq _ _ _) ‹_› (by simp only[zT,Nat.reduceBEq];rfl) ⟨rfl, rfl, rfl⟩ (hTE 1 1 _ (by decide) (by rw [hV, decide_eq_false (by rintro (hh | hh) <;> first | contradiction | omega)]) rfl)
    · have h0 : lns.length = 0 := by omega
      (repeat simp only[push_cast,go_sem_proc,↓ite_only,M_block,t11, h0])
      refine hR _ _ ⟨?_, ‹_›, by rw [decide_eq_false (by omega)]; rfl⟩
      have e : m3 = m2 := by rw [← em3, decide_eq_false (by omega)]
      rw [e]
      exact T2.next (.refl _) (by simp only [tget_cons, Nat.reduceBEq, tsel_true, tsel_false]) (by simp only [tget_cons, Nat.reduceBEq, tsel_true, tsel_false]) (by simp only [tget_cons, Nat.reduceBEq, tsel_true, tsel_false]) (by simp only [tget_cons, Nat.reduceBEq, tsel_true, tsel_false]) (by simp only [tget_cons, Nat.reduceBEq, tsel_true, tsel_false]) (by simp only [tget_cons, Nat.reduceBEq, tsel_true, tsel_false]) (by simp only [tget_cons, Nat.reduceBEq, tsel_true, tsel_false]) (by simp only [tget_cons, Nat.reduceBEq, tsel_true, tsel_false])
  clear T2 h2 tm2 t13
  rintro tm2 h2 ⟨T2, t13, hlb⟩
  rw [M_seq]
  refine M_cut (fun tm h1 => ∃ (m4 : Rd) (fs4 : List Fld) (lo4 : Nat), TI h r request may cds lns cns m4 fs4 lo4 tm h1 ∧ m4 = { m3 with fields := m4.fields } ∧ fs4 = (match closes && !request && decide (m.minor = 1) with | true => withoutL fs [sCo] | false => fs)) (fun R hR hE => ?_) ?_
  · have t2 := T2.t2
    have t4 := T2.t4
    have hbox := T2.box
    unfold Rd.cells at hbox
    cases closes with
    | false =>
      (repeat simp only[push_cast,go_sem_proc,↓ite_only,M_block,t13])
      refine hR _ _ ⟨m3, fs, lo, T2.next (.refl _) (by simp only [tget_cons, Nat.reduceBEq, tsel_true, tsel_false]) (by simp only [tget_cons, Nat.reduceBEq, tsel_true, tsel_false]) (by simp only [tget_cons, Nat.reduceBEq, tsel_true, tsel_false]) (by simp only [tget_cons, Nat.reduceBEq, tsel_true, tsel_false]) (by simp only [tget_cons, Nat.reduceBEq, tsel_true, tsel_false]) (by simp only [tget_cons, Nat.reduceBEq, tsel_true, tsel_false]) (by simp only [tget_cons, Nat.reduceBEq, tsel_true, tsel_false]) (by simp only [tget_cons, Nat.reduceBEq, tsel_true, tsel_false]), rfl, rfl⟩
    | true =>
      cases request with
      | true =>
        (repeat simp only[push_cast,go_sem_proc,↓ite_only,M_block,t13, t2])
        refine hR _ _ ⟨m3, fs, lo, T2.next (.refl _) (by simp only [tget_cons, Nat.reduceBEq, tsel_true, tsel_false]) (by simp only [tget_cons, Nat.reduceBEq, tsel_true, tsel_false]) (by simp only [tget_cons, Nat.reduceBEq, tsel_true, tsel_false]) (by simp only [tget_cons, Nat.reduceBEq, tsel_true, tsel_false]) (by simp only [tget_cons, Nat.reduceBEq, tsel_true, tsel_false]) (by simp only [tget_cons, Nat.reduceBEq, tsel_true, tsel_false]) (by simp only [tget_cons, Nat.reduceBEq, tsel_true, tsel_false]) (by simp only [tget_cons, Nat.reduceBEq, tsel_true, tsel_false]), rfl, rfl⟩
      | false =>
        (repeat simp(disch:=omega)only[push_cast,go_sem_proc,↓ite_only,t13, t2, t4, hbox])
        (with_reducible(first|refine condM_same ?_ ?_|refine condM_nsame ?_ ?_|refine oneM_same ?_ ?_|refine oneM_nsame ?_ ?_|refine oneP_same ?_ ?_|refine oneP_nsame ?_ ?_|refine condM_dec_ ?_ ?_|refine condM_not_ ?_ ?_|refine oneM_dec_ ?_ ?_|refine oneM_not_ ?_ ?_|refine oneP_dec_ ?_ ?_|refine oneP_not_ ?_ ?_|refine condM_bool ?_ ?_|refine oneM_bool ?_ ?_|refine oneP_bool ?_ ?_)<;>intro c)
        · have hd : decide (m.minor = 1) = true := by rw [← hm3m]; exact decide_eq_true c
          have hbg := T2.big
          (repeat simp(disch:=omega)only[push_cast,go_sem_proc,↓ite_only,M_block,t4, hbox])
          have hnm : Strs 0 (h2.new (.cells [S sCo] 9 0 0)) (.slice (some ⟨h2.n, 0, none⟩) 1 1) [sCo] := .inr ⟨h2.n, 1, [], rfl, Nat.zero_le _, Nat.lt_succ_self _, at_new_eq _ _, rfl, rfl⟩
          refine callM_of (without_ok fs [sCo] lo 0 _ _ (T2.flds.ext ((Ext.refl h2).new _)) hnm hs hc (by simp)) ?_
          rintro v h3 ⟨hfv, hx3⟩
          have hx23 : Ext h2 h3 := ((Ext.refl h2).new _).trans hx3
          have hbox3 := (hx23.2 h.n (by omega)).trans hbox
          have o1 : Off h.n v := hfv.off (by rw [n_new]; omega)
          have o2 : Off (h.n + 1) v := hfv.off (by rw [n_new]; omega)
          obtain ⟨a5, cp5, rfl⟩ := hfv.len
          (repeat(first|(simp(disch:=first|omega|(simp only[zN];omega))only[push_cast,go_sem_proc,↓ite_only,M_block,t4, hbox3])|(with_reducible refine⟨by omega,?_⟩)))
          refine hR _ _ ⟨{ m3 with fields := .slice a5 (withoutL fs [sCo]).length cp5 }, withoutL fs [sCo], h2.n + 1, ?_, rfl, by rw [hd]; rfl⟩
          exact (T2.next (tm' := tm2) hx23 rfl rfl rfl rfl rfl rfl rfl rfl).putF (mm' := { m3 with fields := .slice a5 (withoutL fs [sCo]).length cp5 }) hfv o1 o2 (by simp only [tget_cons, Nat.reduceBEq, tsel_true, tsel_false]) (by simp only [tget_cons, Nat.reduceBEq, tsel_true, tsel_false]) (by simp only [tget_cons, Nat.reduceBEq, tsel_true, tsel_false]) (by simp only [tget_cons, Nat.reduceBEq, tsel_true, tsel_false]) (by simp only [tget_cons, Nat.reduceBEq, tsel_true, tsel_false]) (by simp only [tget_cons, Nat.reduceBEq, tsel_true, tsel_false]) (by simp only [tget_cons, Nat.reduceBEq, tsel_true, tsel_false]) (by simp only [tget_cons, Nat.reduceBEq, tsel_true, tsel_false])
        · have hd : decide (m.minor = 1) = false := by rw [← hm3m]; exact decide_eq_false c
          (repeat simp only[push_cast,go_sem_proc,↓ite_only,M_block])
          refine hR _ _ ⟨m3, fs, lo, T2.next (.refl _) (by simp only [tget_cons, Nat.reduceBEq, tsel_true, tsel_false]) (by simp only [tget_cons, Nat.reduceBEq, tsel_true, tsel_false]) (by simp only [tget_cons, Nat.reduceBEq, tsel_true, tsel_false]) (by simp only [tget_cons, Nat.reduceBEq, tsel_true, tsel_false]) (by simp only [tget_cons, Nat.reduceBEq, tsel_true, tsel_false]) (by simp only [tget_cons, Nat.reduceBEq, tsel_true, tsel_false]) (by simp only [tget_cons, Nat.reduceBEq, tsel_true, tsel_false]) (by simp only [tget_cons, Nat.reduceBEq, tsel_true, tsel_false]), rfl, by rw [hd]; rfl⟩
  clear T2 h2 tm2 t13
  rintro tm2 h2 ⟨m4, fs4, lo4, T2, em4, efs4⟩
  have hsub : ∀ f ∈ fs4, f ∈ fs := by
    rw [efs4]
    cases closes && !request && decide (m.minor = 1) with
    | true => exact fun f hf => (List.mem_filter.1 hf).1
    | false => exact fun f hf => hf
  have htr : valsL fs4 sTr = valsL fs sTr := by
    rw [efs4]
    cases closes && !request && decide (m.minor = 1) with
    | true => exact vals_without fs (by decide)
    | false => rfl
  have hs4 : Short fs4 := fun f hf => hs f (hsub f hf)
  have hn4 : ∀ f ∈ fs4, f.2.length < 1000000 := fun f hf => hn f (hsub f hf)
  have hc4 : fs4.length < 1000000 := by
    rw [efs4]
    cases closes && !request && decide (m.minor = 1) with
    | true => exact Nat.lt_of_le_of_lt (without_len fs _) hc
    | false => exact hc
  have hm4c : m4.chunked = decide (cds.length = 1) := by rw [em4]; exact hm3c
  rw [M_seq]
  refine M_cut (fun tm h1 => TI h r request may cds lns cns m4 fs4 lo4 tm h1 ∧ headV cds lns cns prs (valsL fs sTr) m.minor = 0) (fun R hR hE => ?_) ?_
  · have t8 := T2.t8
    have t4 := T2.t4
    have hres := T2.res
    unfold Rd.zero Rd.cells at hres
    have hbox := T2.box
    unfold Rd.cells at hbox
    (repeat simp only[push_cast,go_sem_proc,↓ite_only,M_block,t4, hbox])
    refine callM_of (declared_ok m4 fs4 lo4 T2.flds hs4 hn4 hc4) ?_
    rintro v h3 ⟨rfl, hx3⟩
    rw [htr, hm4c]
    have hres3 := (hx3.2 (h.n + 1) T2.big).trans hres
    have hV : headV cds lns cns prs (valsL fs sTr) m.minor = match (declaredL (valsL fs sTr) (decide (cds.length = 1))).2 with | true => 0 | false => (declaredL (valsL fs sTr) (decide (cds.length = 1))).1 := by
      unfold headV; rw [decide_eq_false hmany, hcl, hke, hck, hcb, hlb]
    obtain ⟨dl, hdl⟩ : ∃ x, declaredL (valsL fs sTr) (decide (cds.length = 1)) = x := ⟨_, rfl⟩
    rw [hdl] at hV ⊢
    obtain ⟨d1, d2⟩ := dl
    have hdpos : declaredL (valsL fs sTr) (decide (cds.length = 1)) = (d1, false) → 0 < d1 := declared_pos _ _ _
    cases d2 with
    | true =>
      (repeat simp only[push_cast,go_sem_proc,↓ite_only,M_block])
      exact hR _ _ ⟨T2.next hx3 (by simp only [tget_cons, Nat.reduceBEq, tsel_true, tsel_false]) (by simp only [tget_cons, Nat.reduceBEq, tsel_true, tsel_false]) (by simp only [tget_cons, Nat.reduceBEq, tsel_true, tsel_false]) (by simp only [tget_cons, Nat.reduceBEq, tsel_true, tsel_false]) (by simp only [tget_cons, Nat.reduceBEq, tsel_true, tsel_false]) (by simp only [tget_cons, Nat.reduceBEq, tsel_true, tsel_false]) (by simp only [tget_cons, Nat.reduceBEq, tsel_true, tsel_false]) (by simp only [tget_cons, Nat.reduceBEq, tsel_true, tsel_false]), hV⟩
    | false =>
      (repeat(first|(simp(disch:=decide)only[push_cast,go_sem_proc,↓ite_only,M_block,t8, hres3])|(with_reducible refine⟨by omega,?_⟩)))
      (with_reducible refine hE _ _ _ _ (nomatch ·) ?_)
      (repeat simp only[push_cast,go_sem_proc,↓ite_only,M_block])
      exact hX' _ _ Rd.zero d1 (Ext.put (T2.ext.trans hx3) (Nat.le_succ _) _) (at_put_eq _ _ _) ‹_› (by simp only[zT,Nat.reduceBEq]) ⟨rfl, rfl, rfl⟩ (hTE d1 d1 _ (hdpos hdl) hV rfl)
  clear T2 h2 tm2
  rintro tm3 h3 ⟨T3, hV0⟩
  subst hmay
  obtain ⟨ad, cpd, rfl⟩ := hd.len
  have t3 := T3.t3
  have t4 := T3.t4
  have t8 := T3.t8
  have t1 := T3.t1
  have hres := T3.res
  unfold Rd.zero Rd.cells at hres
  have hbox := T3.box
  unfold Rd.cells at hbox
  have hat3 := (T3.ext.2 r hrn).trans hat
  have hne1 : ¬r = h.n := by omega
  have hne2 : ¬r = h.n + 1 := by omega
  by_cases h1 : cds.length = 1
  · have hm4d : m4.chunked = true := by rw [hm4c, decide_eq_true h1]
    rw [hm4d] at hbox
    (repeat(first|(simp(disch:=first|omega|decide)only[push_cast,go_sem_proc,↓ite_only,M_block,t3, t4, hbox, t8, hres])|(with_reducible refine⟨by omega,?_⟩)))
    exact hX' _ _ Rd.zero 3 (Ext.put T3.ext (Nat.le_succ _) _) (at_put_eq _ _ _) ‹_› (by simp only[zT,Nat.reduceBEq];rfl) ⟨rfl, rfl, rfl⟩ ⟨fun e => absurd hV0 e, fun _ _ => rfl, fun _ e => absurd h1 e⟩
  · have hm4d : m4.chunked = false := by rw [hm4c, decide_eq_false h1]
    rw [hm4d] at hbox
    (repeat(first|(simp(disch:=first|omega|decide|(simp only[zN];omega))only[push_cast,go_sem_proc,↓ite_only,M_block,t1, t3, t4, hbox, t8, hres, hat3])|(with_reducible refine⟨by omega,?_⟩)|(with_reducible refine M_draw (id:=27) p44_27 ?_ ?_;focus kernel_rfl)))
    have hsf : single m4.fields = true := by
      obtain ⟨a5, cp5, e5⟩ := T3.flds.len
      rw [e5]
      rfl
    have hsb : single m4.body = true := by rw [em4, ← em3, ← em2, ← em1]; exact hbody
    have hst : single m4.trailer = true := by rw [em4, ← em3, ← em2, ← em1]; exact htrl
    have hrd : ({ m4 with chunked := false, rest := (l.length : Int) - p } : Rd) = { m with close := listedL cns sClose || (decide (m.minor = 0) && !listedL cns sKeep), len := (match decide (lns.length = 1) with | true => ((numberL (snth lns 0)).1 : Int) | false => m.len), fields := m4.fields, rest := (l.length : Int) - p } := by
      rw [em4, ← em3, ← em2, ← em1, hcl, hke]
      cases m
      cases hmc
      rfl
    have hnn := T3.big
    have hfl : Flds lo4 ((h3.put h.n (.cells ({ m4 with chunked := false, rest := (l.length : Int) - p } : Rd).cells 35 0 0)).put (h.n + 1) (.cells ({ m4 with chunked := false, rest := (l.length : Int) - p } : Rd).cells 35 0 0)) m4.fields fs4 :=
      T3.flds.keep (Nat.le_refl _) (fun b _ _ ho => by
        rw [at_put_ne _ _ (by rintro rfl; exact ho T3.off2), at_put_ne _ _ (by rintro rfl; exact ho T3.off1)])
    refine ⟨⟨by omega, hsf, hsb, hst⟩, ?_⟩
    refine hX' _ _ { m4 with chunked := false, rest := (l.length : Int) - p } 0 ((T3.ext.put (Nat.le_refl _) _).put (Nat.le_succ _) _) (at_put_eq _ _ _) ‹_› (by simp only[zT,Nat.reduceBEq];rfl) ⟨hsf, hsb, hst⟩ ⟨fun e => absurd hV0 e, fun _ e => absurd e h1, fun _ _ => ⟨rfl, hrd, lo4, ?_⟩⟩
    rw [hcl, ← efs4]
    exact hfl
end Go.Proofs.YtbjaapiliegegaaGreatDoor.Sy
