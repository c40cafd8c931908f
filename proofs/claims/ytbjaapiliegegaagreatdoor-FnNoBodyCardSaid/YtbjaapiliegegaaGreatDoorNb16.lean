/- Of the proof of FnNoBody: Ce11 Ce12 Ce13. -/
import Derived.Test.YtbjaapiliegegaaGreatDoorNb15
import Derived.Recover
import Derived.Tactics
import Derived.Tactics2
import Derived.KernelRfl
import Derived.Test.YtbjaapiliegegaaGreatDoorProg
import Derived.Test.YtbjaapiliegegaaGreatDoorCeT
set_option linter.unusedVariables false
set_option linter.unusedSimpArgs false
section
namespace Go.Proofs.YtbjaapiliegegaaGreatDoor.Ce
open Go
section
variable {N : Nat} {P : Program} {w0 : World}
def Post (N : Nat) (w0 : World) (r : AE × St) : Exit → Act → World → Prop
 | .normal, a, w => r.1 = .normal ∧ RS N w0 r.2 a w
 | .exit id, a, w => r.1 = .exit id ∧ RS N w0 r.2 a w
 | .ret, a, w => r.1 = .ret ∧ RS N w0 r.2 a w
 | _, _, _ => False
section
variable {call : FuncId → List AV → Heap → Option (AV × Heap)}
theorem loop_ok {c : Code} (hc : ∀ {s : St} {r : AE × St} {a : Act} {w : World}, runCode P call c s = some r → RS N w0 s a w → c.wp P (Post N w0 r) a w) :
  ∀ (n : Nat) {s : St} {r : AE × St} {a : Act} {w : World}, iter (runCode P call c) n s = some r → RS N w0 s a w → Code.rounds P c (Post N w0 r) n a w
 | 0, s, r, a, w, e, _ => by cases e
 | n + 1, s, r, a, w, e, hs => by
  rw [rounds_succ]
  simp only [iter] at e
  split at e
  ·rename_i s' h1
   refine wp_mono (hc h1 hs) fun e' a' w' hp => ?_
   cases e' <;> first | (exact hp.elim) | (cases hp.1; done) | skip
   exact loop_ok hc n e hp.2
  ·rename_i hno
   refine wp_mono (hc e hs) fun e' a' w' hp => ?_
   cases e' <;> first | exact hp | skip
   obtain ⟨ae, s'⟩ := r
   obtain ⟨h1, _⟩ := hp
   simp only at h1
   subst h1
   exact (hno _ e).elim
theorem code_ok (hng : NoCount P) (hmix : P.follows .mixedOrders = true) (hN : N = w0.heap.size) (hn0 : n0 ≤ N) (hcall : CallOk N P w0 call) :
  ∀ {c : Code} {s : St} {r : AE × St} {a : Act} {w : World}, runCode P call c s = some r → RS N w0 s a w → c.wp P (Post N w0 r) a w := by
 intro c
 induction c with
 | skip => intro s r a w e hs; cases e; exact wp_skip ⟨rfl, hs⟩
 | label l => intro s r a w e hs; cases e; exact wp_label ⟨rfl, hs⟩
 | exit id => intro s r a w e hs; cases e; exact wp_exit ⟨rfl, hs⟩
 | ret => intro s r a w e hs; cases e; exact wp_ret ⟨rfl, hs⟩
 | region id ops d =>
  intro s r a w e hs
  simp only [runCode] at e
  split at e
  ·rename_i s' h1
   cases e
   cases d
   ·exact wp_region_list (runOps_ok hng hN hn0 hcall h1 hs fun a' w' h => ⟨rfl, h⟩)
   ·refine wp_mono (drawAll_ok hng hmix hN hn0 hcall h1 hs) fun e' a' w' hp => ?_
    cases e' <;> first | exact ⟨rfl, hp⟩ | exact hp.elim
  ·cases e
 | seq x y ihx ihy =>
  intro s r a w e hs
  simp only [runCode] at e
  refine wp_seq ?_
  split at e
  ·rename_i s' h1
   refine wp_mono (ihx h1 hs) fun e' a' w' hp => ?_
   cases e' <;> first | (exact hp.elim) | (cases hp.1; done) | skip
   exact ihy e hp.2
  ·rename_i hno
   refine wp_mono (ihx e hs) fun e' a' w' hp => ?_
   cases e' <;> first | exact hp | skip
   obtain ⟨ae, s'⟩ := r
   obtain ⟨h1, _⟩ := hp
   simp only at h1
   subst h1
   exact (hno _ e).elim
 | cond c x y ihx ihy =>
  intro s r a w e hs
  simp only [runCode] at e
  split at e
  ·rename_i hc
   exact wp_cond_true (aeval_RV (ds := a.defers) hs.rf hc) (ihx e hs)
  ·rename_i hc
   exact wp_cond_false (aeval_RV (ds := a.defers) hs.rf hc) (ihy e hs)
  ·cases e
 | block id b ih =>
  intro s r a w e hs
  simp only [runCode] at e
  refine wp_block ?_
  split at e
  ·rename_i j s' h1
   split at e
   ·rename_i hj
    cases e
    refine wp_mono (ih h1 hs) fun e' a' w' hp => ?_
    cases e' <;> first | (exact hp.elim) | (cases hp.1; done) | skip
    rename_i k
    obtain ⟨hk, hp⟩ := hp
    cases hk
    simp only [Exit.inBlock, hj, if_true]
    exact ⟨rfl, hp⟩
   ·rename_i hj
    cases e
    refine wp_mono (ih h1 hs) fun e' a' w' hp => ?_
    cases e' <;> first | (exact hp.elim) | (cases hp.1; done) | skip
    rename_i k
    obtain ⟨hk, hp⟩ := hp
    cases hk
    simp only [Exit.inBlock, hj, if_false]
    exact ⟨rfl, hp⟩
  ·rename_i hno
   refine wp_mono (ih e hs) fun e' a' w' hp => ?_
   cases e' <;> first | exact hp | skip
   rename_i k
   obtain ⟨ae, s'⟩ := r
   obtain ⟨h1, _⟩ := hp
   simp only at h1
   subst h1
   exact (hno _ _ e).elim
 | loop b ih =>
  intro s r a w e hs
  simp only [runCode] at e
  exact wp_loop_rounds rounds (loop_ok ih rounds e hs)
 | rangeFunc => intro s r a w e hs; cases e
 | scope => intro s r a w e hs; cases e
 | goto => intro s r a w e hs; cases e
 | refuse => intro s r a w e hs; cases e
def resSem (T : Array Value) : ResultVar → Sem Value
 | .tmp t => pure (T.getD t undef)
 | .cell a t => do loadVar t (← asAddr (T.getD a undef))
theorem res_ok {nt : Nat} {tm : Tm} {T : Array Value} {h : Heap} {w : World} (hR : RF N nt tm T) (hD : Den N h w) : ∀ {l : List ResultVar} {vs : List AV}, resOf P tm h l = some vs →
  ∃ Vs, (l.mapM (resSem T)).run P w = .ok Vs w ∧ RVs N vs Vs
 | [], vs, e => by
  simp only [resOf, Option.some.injEq] at e
  subst e
  exact ⟨[], rfl, rfl⟩
 | .tmp t :: l, vs, e => by
  simp only [resOf] at e
  split at e
  ·rename_i r hr
   cases e
   obtain ⟨Vs, h1, h2⟩ := res_ok hR hD hr
   exact ⟨_ :: Vs, by simp only [List.mapM_cons, resSem, Sem.run_bind, Sem.run_pure, Result.andThen_ok, h1], _, _, rfl, hR.at_ t, h2⟩
  ·cases e
 | .cell a t :: l, vs, e => by
  simp only [resOf] at e
  split at e
  ·rename_i b o ha
   split at e
   ·rename_i v r hv hr
    cases e
    obtain ⟨Vs, h1, h2⟩ := res_ok hR hD hr
    have hav : T.getD a undef = .pointer (some ⟨bt N b, o, none⟩) := by
     have := hR.at_ a
     rw [ha] at this
     exact this
    obtain ⟨V, hV, hr⟩ := aload_ok hD hv
    exact ⟨V :: Vs, by simp only [List.mapM_cons, resSem, Sem.run_bind, hav, asAddr, Sem.run_pure, Result.andThen_ok, hV, h1], _, _, rfl, hr, h2⟩
   ·cases e
  ·cases e
theorem results_ok {nt : Nat} {tm : Tm} {T : Array Value} {h : Heap} {w : World} {F : Func} {vs : List AV} (hR : RF N nt tm T) (hD : Den N h w) (e : resOf P tm h F.results.toList = some vs) :
  ∃ V, (results F T).run P w = .ok V w ∧ RV N (pack vs) V := by
 obtain ⟨Vs, h1, h2⟩ := res_ok hR hD e
 have hl := RVs_length h2
 refine ⟨if h : Vs.toArray.size = 1 then Vs.toArray[0] else .tuple Vs.toArray, ?_, ?_⟩
 ·show ((F.results.mapM (resSem T)) >>= fun vs => pure (if h : vs.size = 1 then vs[0] else .tuple vs) : Sem Value).run P w = _
  rw [Array.mapM_eq_mapM_toList]
  simp [h1]
 ·unfold pack
  split
  ·rename_i v
   obtain ⟨W, Ws, rfl, hw, hn⟩ := h2
   rw [show Ws = [] from hn]
   exact hw
  ·rename_i hno
   rw [dif_neg]
   ·exact ⟨_, rfl, by simpa using h2⟩
   ·intro h
    match vs, hl, hno with
    | [], hl, _ => simp at h hl; omega
    | [v], _, hno => exact hno v rfl
    | _ :: _ :: _, hl, _ => simp at h hl; omega
def IdleOk (P : Program) (idle : List FuncId) : Prop :=
 ∀ g, idle.contains g = true → ∀ (A : Array Value) (w : World), CallsD P g A .returning w fun e u' w' => (∃ v, e = .returned v) ∧ u' = .returning ∧ w' = w
def CallDOk (N : Nat) (P : Program) (w0 : World) (cd : FuncId → List AV → Heap → Option Heap) : Prop :=
 ∀ (f : FuncId) (args : List AV) (h h' : Heap) (A : Array Value) (w : World), cd f args h = some h' → RVs N args A.toList → Full N w0 h w →
  CallsD P f A .returning w fun e u' w' => (∃ v, e = .returned v) ∧ u' = .returning ∧ Full N w0 h' w'
theorem defs_ok (hng : NoCount P) {idle : List FuncId} (hidle : IdleOk P idle) {cd : FuncId → List AV → Heap → Option Heap} (hcd : CallDOk N P w0 cd) {F : Func} {T : Array Value} {R : Ending → World → Prop} {h' : Heap}
  (hR : ∀ w', Full N w0 h' w' → ∃ v, (results F T).run P w' = .ok v w' ∧ R (.returned v) w') :
  ∀ {l : List (Fn × List AV × List AV)} {ds : List Deferred} {h : Heap} {w : World}, defs P idle cd l h = some h' → RD N l ds → Full N w0 h w → Leaves P F T R ds .returning w
 | [], ds, h, w, e, hd, hF => by
  simp only [defs, Option.some.injEq] at e
  subst e
  rw [show ds = [] from hd]
  exact hR w hF
 | (.func g, c, a) :: l, ds, h, w, e, ⟨C, A, ds', hds, hc, ha, hl⟩, hF => by
  subst hds
  simp only [defs] at e
  split at e
  ·rename_i out ho
   obtain ⟨hi, rfl⟩ := callFunc_ok (w := w) (A := A ++ C) hng ho
   refine leaves_cons (by simp) (f := g) (args := A ++ C) (by simpa [invoke] using hi) ?_
   split at e
   ·rename_i hid
    refine CallsD.mono (hidle g hid (A ++ C) w) ?_
    rintro e' u' w' ⟨⟨v, rfl⟩, rfl, rfl⟩
    exact defs_ok hng hidle hcd hR e hl hF
   ·split at e
    ·rename_i h1 hh
     refine CallsD.mono (hcd g _ _ _ (A ++ C) w hh (by simpa using RVs_append ha hc) hF) ?_
     rintro e' u' w' ⟨⟨v, rfl⟩, rfl, hF'⟩
     exact defs_ok hng hidle hcd hR e hl hF'
    ·cases e
  ·cases e
 | (.method _, _, _) :: _, _, _, _, e, _, _ => by simp [defs] at e
 | (.methodOf _ _, _, _) :: _, _, _, _, e, _, _ => by simp [defs] at e
 | (.via _ _ _ _, _, _) :: _, _, _, _, e, _, _ => by simp [defs] at e
 | (.yield _, _, _) :: _, _, _, _, e, _, _ => by simp [defs] at e
theorem ended_ok {x : Option (AE × St)} {s : St} (e : ended x = some s) : x = some (.normal, s) ∨ x = some (.ret, s) := by
 unfold ended at e
 split at e <;> cases e
 ·exact .inl rfl
 ·exact .inr rfl
theorem start_ok {F : Func} {args : List AV} {A : Array Value} {h : Heap} {w : World} (ha : RVs N args A.toList) (hF : Full N w0 h w) :
  RS N w0 (start F args h) { tmps := A ++ Array.replicate (F.ntmps - A.size) undef, defers := [] } w :=
 ⟨by have h := RF.start (n := F.ntmps) ha; simp only [Array.toArray_toList] at h; exact h, rfl, hF⟩
theorem callD_ok (hng : NoCount P) (hmix : P.follows .mixedOrders = true) (hN : N = w0.heap.size) (hn0 : n0 ≤ N) (hcall : CallOk N P w0 call) : CallDOk N P w0 (callD P call) := by
 intro f args h h' A w e ha hF
 unfold callD at e
 split at e
 ·cases e
 ·rename_i F hf
  split at e
  ·cases e
  ·rename_i c hb
   split at e
   ·cases e
   ·rename_i s hs
    split at e
    ·rename_i vs hdf hres
     cases e
     refine CallsD.mono (callsD_of_wp (R := fun e w' => (∃ v, e = .returned v) ∧ Full N w0 s.hp w') hf hb ?_) ?_
     ·have key : ∀ {a : Act} {w : World}, RS N w0 s a w → a.defers = [] ∧ ∃ v, (results F a.tmps).run P w = .ok v w ∧ (∃ u, Ending.returned v = .returned u) ∧ Full N w0 s.hp w := by
       intro a w hs
       obtain ⟨V, hV, _⟩ := results_ok hs.rf hs.full.den hres
       have hd := hs.rd
       rw [hdf] at hd
       exact ⟨hd, V, hV, ⟨V, rfl⟩, hs.full⟩
      rcases ended_ok hs with h1 | h1
      ·refine wp_mono (code_ok hng hmix hN hn0 hcall h1 (start_ok ha hF)) fun e a w hp => ?_
       cases e <;> first | (exact hp.elim) | (cases hp.1; done) | exact key hp.2
      ·refine wp_mono (code_ok hng hmix hN hn0 hcall h1 (start_ok ha hF)) fun e a w hp => ?_
       cases e <;> first | (exact hp.elim) | (cases hp.1; done) | exact key hp.2
     ·rintro e u' w' ⟨rfl, h1, h2⟩
      exact ⟨h1, rfl, h2⟩
    ·cases e
end
theorem callN_ok (hng : NoCount P) (hmix : P.follows .mixedOrders = true) (hN : N = w0.heap.size) (hn0 : n0 ≤ N) {idle : List FuncId} (hidle : IdleOk P idle) : ∀ n, CallOk N P w0 (callN P idle n)
 | 0 => fun _ _ _ _ _ _ _ e => by cases e
 | n + 1 => by
  intro f args h h' v A w e ha hF
  have ih := callN_ok hng hmix hN hn0 hidle n
  simp only [callN] at e
  split at e
  ·cases e
  ·rename_i F hf
   split at e
   ·cases e
   ·rename_i c hb
    split at e
    ·cases e
    ·rename_i s hs
     split at e
     ·cases e
     ·rename_i h1 hdefs
      split at e
      ·rename_i vs hres
       cases e
       refine calls_of_wp_defers hf hb ?_
       have key : ∀ {a : Act} {w : World}, RS N w0 s a w → Leaves P F a.tmps (fun e w' => ∃ V, e = .returned V ∧ RV N (pack vs) V ∧ Full N w0 h' w') a.defers .returning w := by
        intro a w hs
        refine defs_ok hng hidle (callD_ok hng hmix hN hn0 ih) (fun w' hF' => ?_) hdefs hs.rd hs.full
        obtain ⟨V, hV, hr⟩ := results_ok hs.rf hF'.den hres
        exact ⟨V, hV, V, rfl, hr, hF'⟩
       rcases ended_ok hs with h1 | h1
       ·refine wp_mono (code_ok hng hmix hN hn0 ih h1 (start_ok ha hF)) fun e a w hp => ?_
        cases e <;> first | (exact hp.elim) | (cases hp.1; done) | exact key hp.2
       ·refine wp_mono (code_ok hng hmix hN hn0 ih h1 (start_ok ha hF)) fun e a w hp => ?_
        cases e <;> first | (exact hp.elim) | (cases hp.1; done) | exact key hp.2
      ·cases e
end
end Go.Proofs.YtbjaapiliegegaaGreatDoor.Ce
end
section
namespace Go.Proofs.YtbjaapiliegegaaGreatDoor
open Go Ce
theorem mixed : Tryz.prog.follows .mixedOrders = true := by kernel_rfl
theorem noCount_all : (Tryz.prog.funcs.all fun F => !(F.name == "runtime.NumGoroutine")) = true := by kernel_rfl
theorem noCount : NoCount Tryz.prog := by
 intro f F hF
 have := Array.all_eq_true_iff_forall_mem.1 noCount_all F (Array.mem_of_getElem? hF)
 simpa using this
theorem idle57 (A : Array Value) (w : World) : CallsD Tryz.prog 57 A .returning w fun e u' w' => (∃ v, e = .returned v) ∧ u' = .returning ∧ w' = w := by
 have hsz : 6 ≤ (A ++ Array.replicate (6 - A.size) undef).size := by simp; omega
 refine callsD_of_wpS Tryz.func57 rfl fun c₀ cs hu => ?_
 simp only [Tryz.ntmps57]
 generalize A ++ Array.replicate (6 - A.size) undef = T at hsz ⊢
 have h3 : ∀ v u, ((T.setIfInBounds 3 v).setIfInBounds 4 u).getD 4 undef = u := by intro v u; simp [Array.getD_eq_getD_getElem?]; omega
 have h4 : ∀ v, (T.setIfInBounds 3 v)[3]?.getD undef = v := by intro v; simp; omega
 apply wpS_seq
 apply wpS_region
 simp [wpOpsS, go_sem, recoverD, hu, Exit.thenS, h4]
 refine wpS_cond (t := false) (by simp [Act.eval]; omega) ?_
 simp only [Bool.false_eq_true, if_false]
 refine wpS_of_wp (wp_skip ?_)
 cases c₀
 simp_all [bodyPostS, results, Tryz.results57]
theorem idle : IdleOk Tryz.prog [57] := by
 intro g hg A w
 have : g = 57 := by simpa using hg
 subst this
 exact idle57 A w
end Go.Proofs.YtbjaapiliegegaaGreatDoor
end
section
namespace Go.Proofs.YtbjaapiliegegaaGreatDoor
open Go Ce
theorem works_some : ∃ h', callN Tryz.prog [57] 40 9 [] heap0 = some (.bool true, h') := by
 have := works_run
 split at this
 ·rename_i b h e
  subst this
  exact ⟨h, e⟩
 ·cases this
def Tabled (w : World) : Prop := ∀ (i : Nat) (n : Int), table0[i]? = some n → w.cell? ⟨7, i, none⟩ = some (.int .u8 n)
theorem part0_ge : ∀ (l : List Int) (k : Nat) {o : Nat} {v : AV}, Ce.look (part0 l k) o = some v → k ≤ o
 | [], k, o, v, e => by simp [part0, Ce.look] at e
 | n :: l, k, o, v, e => by
  unfold part0 Ce.look at e
  split at e
  ·rename_i h; exact Nat.le_of_eq (Nat.eq_of_beq_eq_true h)
  ·exact Nat.le_of_succ_le (part0_ge l (k + 1) e)
theorem part0_look : ∀ (l : List Int) (k : Nat) {o : Nat} {v : AV}, Ce.look (part0 l k) o = some v → ∃ n, l[o - k]? = some n ∧ v = .int .u8 n
 | [], k, o, v, e => by simp [part0, Ce.look] at e
 | n :: l, k, o, v, e => by
  unfold part0 Ce.look at e
  split at e
  ·rename_i h
   cases e
   rw [Nat.eq_of_beq_eq_true h]
   exact ⟨n, by simp, rfl⟩
  ·rename_i h
   obtain ⟨m, h1, h2⟩ := part0_look l (k + 1) e
   have hk := part0_ge l (k + 1) e
   refine ⟨m, ?_, h2⟩
   rw [show o - k = (o - (k + 1)) + 1 by omega]
   simpa using h1
theorem start_full {w : World} (ht : Tabled w) : Full w.heap.size w heap0 w := by
 refine ⟨fun b o e => ?_, Nat.le_refl _, by simp [heap0, n0], .refl _ _⟩
 simp only [heap0, Heap.at] at e
 unfold Ce.look at e
 split at e
 ·rename_i hb
  cases e
  have : 7 = b := Nat.eq_of_beq_eq_true hb
  subst this
  have h0 := ht 0 0 rfl
  have hblk : ∃ C e fz, w.heap[7]? = some (.cells C e fz) := by
   unfold World.cell? at h0
   split at h0
   ·rename_i C e fz hO
    exact ⟨C, e, fz, hO⟩
   ·cases h0
  obtain ⟨C, e, fz, hO⟩ := hblk
  refine ⟨by simp [heap0], _, hO, C, e, fz, rfl, fun o v hv => ?_⟩
  obtain ⟨n, h1, rfl⟩ := part0_look _ _ hv
  refine ⟨_, ?_, rfl⟩
  rw [← ht o n (by simpa using h1), cell_in hO]
 ·cases e
theorem works_calls {w : World} (hsz : 8 ≤ w.heap.size) (ht : Tabled w) :
  Calls Tryz.prog 9 #[] w fun e w' => e = .returned (.bool true) ∧ RowKit.Below w.heap.size w w' := by
 obtain ⟨h', e⟩ := works_some
 refine Calls.mono (callN_ok noCount mixed rfl hsz idle 40 9 [] heap0 h' (.bool true) #[] w e rfl (start_full ht)) ?_
 rintro e w' ⟨V, rfl, hv, hF⟩
 exact ⟨by rw [show V = _ from hv], hF.below⟩
end Go.Proofs.YtbjaapiliegegaaGreatDoor
end
