/- Of the proof of FnNoBody: Sa9. -/
import Derived.Test.YtbjaapiliegegaaGreatDoorNb04
set_option linter.unusedVariables false
set_option linter.unusedSimpArgs false
namespace Go.Proofs.YtbjaapiliegegaaGreatDoor.Sy
open Go Go.RowKit
section
variable {P : Program} {w0 : World} {nt : Nat}
def PostW (w0 : World) (nt : Nat) (Q : Post) : Exit → Act → World → Prop
 | .normal, a, w => ∃ tm df h, Q .normal tm df h ∧ RS w0 nt tm df h a w
 | .exit id, a, w => ∃ tm df h, Q (.exit id) tm df h ∧ RS w0 nt tm df h a w
 | .ret, a, w => ∃ tm df h, Q .ret tm df h ∧ RS w0 nt tm df h a w
 | _, _, _ => False
theorem iter_ok {c : Code} (hc : ∀ {Q : Post} {tm : Tm} {df : Df} {h : Heap} {a : Act} {w : World}, awp P w0 c tm df h Q → RS w0 nt tm df h a w → c.wp P (PostW w0 nt Q) a w) :
  ∀ (n : Nat) {Q : Post} {tm : Tm} {df : Df} {h : Heap} {a : Act} {w : World}, iterW (awp P w0 c) n tm df h Q → RS w0 nt tm df h a w → Code.rounds P c (PostW w0 nt Q) n a w
 | 0, _, _, _, _, _, _, e, _ => e.elim
 | n + 1, Q, tm, df, h, a, w, e, hs => by
  rw [rounds_succ]
  simp only [iterW] at e
  refine wp_mono (hc e hs) fun e' a' w' hp => ?_
  cases e' <;> first | (exact hp.elim) | skip
  ·obtain ⟨tm', df', h', hq, hs'⟩ := hp
   exact iter_ok hc n hq hs'
  ·exact hp
  ·exact hp
theorem code_ok (hng : NoCount P) (hmix : P.follows .mixedOrders = true) :
  ∀ {c : Code} {Q : Post} {tm : Tm} {df : Df} {h : Heap} {a : Act} {w : World}, fitsCode nt c = true → awp P w0 c tm df h Q → RS w0 nt tm df h a w → c.wp P (PostW w0 nt Q) a w := by
 intro c
 induction c with
 | skip => intro Q tm df h a w _ e hs; exact wp_skip ⟨_, _, _, e, hs⟩
 | label l => intro Q tm df h a w _ e hs; exact wp_label ⟨_, _, _, e, hs⟩
 | exit id => intro Q tm df h a w _ e hs; exact wp_exit ⟨_, _, _, e, hs⟩
 | ret => intro Q tm df h a w _ e hs; exact wp_ret ⟨_, _, _, e, hs⟩
 | region id ops d =>
  intro Q tm df h a w hf e hs
  have hfit : ∀ o ∈ ops.toList, fits nt o.dst = true := List.all_eq_true.1 hf
  cases d with
  | false => exact wp_region_list (opsW_ok hng (show opsW P w0 ops ops.toList tm df h (Q .normal) from e) hs hfit fun tm df h a w hk hs' => ⟨_, _, _, hk, hs'⟩)
  | true =>
   obtain ⟨l, hl, hp⟩ : ∃ l, planAll P ops l = true ∧ planW P w0 ops l [] tm df h (Q .normal) := e
   refine wp_mono (reg_draw_ok hng hmix hfit hl hp hs) fun e' a' w' hp' => ?_
   cases e' <;> first | exact hp' | exact hp'.elim
 | seq x y ihx ihy =>
  intro Q tm df h a w hf e hs
  simp only [fitsCode, Bool.and_eq_true] at hf
  refine wp_seq (wp_mono (ihx hf.1 e hs) fun e' a' w' hp => ?_)
  cases e' <;> first | (exact hp.elim) | skip
  ·obtain ⟨tm', df', h', hq, hs'⟩ := hp
   exact ihy hf.2 hq hs'
  ·exact hp
  ·exact hp
 | cond c x y ihx ihy =>
  intro Q tm df h a w hf e hs
  simp only [fitsCode, Bool.and_eq_true] at hf
  have hev : a.eval c = eval tm c := by obtain ⟨T, ds⟩ := a; exact hs.rf.eval c
  have e' : condW (eval tm c) (awp P w0 x tm df h Q) (awp P w0 y tm df h Q) := e
  unfold condW at e'
  split at e'
  ·rename_i t ht
   rw [ht] at hev
   cases t
   ·exact wp_cond_false hev (ihy hf.2 (e'.2 rfl) hs)
   ·exact wp_cond_true hev (ihx hf.1 (e'.1 rfl) hs)
  ·exact e'.elim
 | block id b ih =>
  intro Q tm df h a w hf e hs
  refine wp_block (wp_mono (ih hf e hs) fun e' a' w' hp => ?_)
  cases e' <;> first | (exact hp.elim) | skip
  ·exact hp
  ·rename_i j
   obtain ⟨tm', df', h', hq, hs'⟩ := hp
   simp only [Exit.inBlock]
   by_cases hj : j = id
   ·rw [if_pos hj]
    simp only [if_pos hj] at hq
    exact ⟨_, _, _, hq, hs'⟩
   ·rw [if_neg hj]
    simp only [if_neg hj] at hq
    exact ⟨_, _, _, hq, hs'⟩
  ·exact hp
 | loop b ih =>
  intro Q tm df h a w hf e hs
  obtain ⟨n, hn⟩ : ∃ n, iterW (awp P w0 b) n tm df h Q := e
  exact wp_loop_rounds n (iter_ok (fun e hs => ih hf e hs) n hn hs)
 | rangeFunc => intro Q tm df h a w _ e hs; exact e.elim
 | scope => intro Q tm df h a w _ e hs; exact e.elim
 | goto => intro Q tm df h a w _ e hs; exact e.elim
 | refuse => intro Q tm df h a w _ e hs; exact e.elim
def resSem (T : Array Value) : ResultVar → Sem Value
 | .tmp t => pure (T.getD t undef)
 | .cell a t => do loadVar t (← asAddr (T.getD a undef))
theorem res_ok {tm : Tm} {T : Array Value} {h : Heap} {w : World} (hR : RF nt tm T) (hF : Full w0 h w) : ∀ {l : List ResultVar} {vs : List Value}, resOf P tm h l = some vs →
  (l.mapM (resSem T)).run P w = .ok vs w
 | [], vs, e => by
  simp only [resOf, Option.some.injEq] at e
  subst e
  rfl
 | .tmp t :: l, vs, e => by
  simp only [resOf] at e
  split at e
  ·rename_i r hr
   cases e
   have h1 := res_ok hR hF hr
   simp only [List.mapM_cons, resSem, Sem.run_bind, Sem.run_pure, Result.andThen_ok, h1, hR.get t]
  ·cases e
 | .cell a t :: l, vs, e => by
  simp only [resOf] at e
  split at e
  ·rename_i b o ha
   split at e
   ·rename_i v r hv hr
    cases e
    have h1 := res_ok hR hF hr
    have hV := aload_ok hF hv
    simp only [List.mapM_cons, resSem, Sem.run_bind, hR.get a, ha, asAddr, Sem.run_pure, Result.andThen_ok, hV, h1]
   ·cases e
  ·cases e
theorem results_ok {tm : Tm} {T : Array Value} {h : Heap} {w : World} {F : Func} {vs : List Value} (hR : RF nt tm T) (hF : Full w0 h w) (e : resOf P tm h F.results.toList = some vs) :
  (results F T).run P w = .ok (pack vs) w := by
 have h1 := res_ok hR hF e
 show ((F.results.mapM (resSem T)) >>= fun vs => pure (if h : vs.size = 1 then vs[0] else .tuple vs) : Sem Value).run P w = _
 rw [Array.mapM_eq_mapM_toList]
 have key : (if h : vs.toArray.size = 1 then vs.toArray[0] else .tuple vs.toArray) = pack vs := by
  match vs with
  | [] => rfl
  | [v] => rfl
  | _ :: _ :: _ => simp [pack]
 simp only [Sem.run_bind, Sem.run_map, h1, Result.andThen_ok, Sem.run_pure]
 rw [← key]
theorem slots_at : ∀ (vs : List Value) (k t : Nat), tget (slots k vs) t = if k ≤ t then vs.getD (t - k) undef else undef
 | [], k, t => by simp [slots, tget]
 | v :: vs, k, t => by
  have ih := slots_at vs (k + 1) t
  simp only [slots, tget]
  by_cases hk : k = t
  ·subst hk; simp
  ·rw [if_neg hk, ih]
   by_cases hl : k + 1 ≤ t
   ·rw [if_pos hl, if_pos (by omega), show t - k = (t - (k + 1)) + 1 by omega, List.getD_cons_succ]
   ·rw [if_neg hl, if_neg (by omega)]
theorem start_ok {F : Func} {args : List Value} {h : Heap} {w : World} (hF : Full w0 h w) (hl : args.length ≤ F.ntmps) :
  RS w0 F.ntmps (slots 0 args) [] h { tmps := args.toArray ++ Array.replicate (F.ntmps - args.toArray.size) undef, defers := [] } w := by
 refine ⟨⟨by simp; omega, fun t ht => ?_, fun t ht => ?_⟩, rfl, hF⟩
 ·rw [slots_at, if_pos (Nat.zero_le _), Nat.sub_zero, Array.getD_eq_getD_getElem?, List.getD_eq_getElem?_getD, Array.getElem?_append]
  by_cases hta : t < args.length
  ·rw [if_pos (by simpa using hta)]; simp
  ·rw [if_neg (by simpa using hta), List.getElem?_eq_none (by omega), Array.getElem?_replicate]
   split <;> rfl
 ·rw [slots_at, if_pos (Nat.zero_le _), Nat.sub_zero, List.getD_eq_getElem?_getD, List.getElem?_eq_none (by omega)]
  rfl
theorem defs_ok {F : Func} {T : Array Value} {R : Ending → World → Prop} {K : Heap → Prop}
  (hR : ∀ h' w', K h' → Full w0 h' w' → ∃ v, (results F T).run P w' = .ok v w' ∧ R (.returned v) w') (hng : NoCount P) :
  ∀ {l : Df} {h : Heap} {w : World}, defsW P w0 l h K → (∀ x ∈ l, ∀ g, x.1 = .func g → ∃ F, P.funcs[g]? = some F ∧ F.body ≠ none) → Full w0 h w → Leaves P F T R (l.map defOf) .returning w
 | [], h, w, e, _, hF => hR h w e hF
 | (.func g, c, a) :: l, h, w, e, hb, hF => by
  have e' : ADefer P w0 g (a ++ c) h fun h' => defsW P w0 l h' K := e
  obtain ⟨G, hG, hbody⟩ := hb _ List.mem_cons_self g rfl
  have hcf : (callFunc g (a ++ c).toArray).run P w = .ok (.enter g (a ++ c).toArray) w := by
   have h1 : G.name ≠ "runtime.NumGoroutine" := by simpa using hng g G hG
   simp [callFunc, hG, h1, hbody]
  refine leaves_cons (by simp) (f := g) (args := a.toArray ++ c.toArray) (by
   rw [← List.append_toArray] at hcf
   simpa [invoke] using hcf) ?_
  ·rw [List.append_toArray]
   refine CallsD.mono (e' w hF) ?_
   rintro e1 u w' ⟨⟨v, rfl⟩, rfl, h', hF', hk⟩
   exact defs_ok hR hng hk (fun x hx => hb x (List.mem_cons_of_mem _ hx)) hF'
 | (.method _, _, _) :: _, _, _, e, _, _ => e.elim
 | (.methodOf _ _, _, _) :: _, _, _, e, _, _ => e.elim
 | (.via _ _ _ _, _, _) :: _, _, _, e, _, _ => e.elim
 | (.yield _, _, _) :: _, _, _, e, _, _ => e.elim
theorem ACall.intro (hng : NoCount P) (hmix : P.follows .mixedOrders = true) {f : FuncId} {F : Func} {c : Code} (hf : P.funcs[f]? = some F) (hb : F.body = some c) (hfit : fitsCode F.ntmps c = true) {args : List Value} (hl : args.length ≤ F.ntmps) {h : Heap} {Q : Value → Heap → Prop}
  (e : awp P w0 c (slots 0 args) [] h fun e tm df h' => match e with
   | .exit _ => False
   | _ => (∀ x ∈ df, ∀ g, x.1 = .func g → ∃ F, P.funcs[g]? = some F ∧ F.body ≠ none) ∧ leave P w0 F Q tm df h') : ACall P w0 f args h Q := by
 intro w hF
 refine calls_of_wp_defers hf hb ?_
 have key : ∀ {tm : Tm} {df : Df} {h' : Heap} {a : Act} {w' : World}, (∀ x ∈ df, ∀ g, x.1 = .func g → ∃ F, P.funcs[g]? = some F ∧ F.body ≠ none) → leave P w0 F Q tm df h' → RS w0 F.ntmps tm df h' a w' →
   Leaves P F a.tmps (fun e w' => ∃ v h', e = .returned v ∧ Full w0 h' w' ∧ Q v h') a.defers .returning w' := by
  intro tm df h' a w' hd hlv hs
  rw [hs.rd]
  refine defs_ok (fun h2 w2 hk hF2 => ?_) hng hlv hd hs.full
  obtain ⟨vs, hvs, hq⟩ := got_some hk
  exact ⟨pack vs, results_ok hs.rf hF2 hvs, pack vs, h2, rfl, hF2, hq⟩
 refine wp_mono (code_ok hng hmix hfit e (start_ok hF hl)) fun e a w hp => ?_
 cases e <;> first | (exact hp.elim) | skip
 ·obtain ⟨tm, df, h', hq, hs⟩ := hp
  exact key hq.1 hq.2 hs
 ·obtain ⟨tm, df, h', hq, hs⟩ := hp
  exact hq.elim
 ·obtain ⟨tm, df, h', hq, hs⟩ := hp
  exact key hq.1 hq.2 hs
theorem ADefer.intro (hng : NoCount P) (hmix : P.follows .mixedOrders = true) {f : FuncId} {F : Func} {c : Code} (hf : P.funcs[f]? = some F) (hb : F.body = some c) (hfit : fitsCode F.ntmps c = true) {args : List Value} (hl : args.length ≤ F.ntmps) {h : Heap} {Q : Heap → Prop}
  (e : awp P w0 c (slots 0 args) [] h fun e tm df h' => match e with
   | .exit _ => False
   | _ => df = [] ∧ got (resOf P tm h' F.results.toList) fun _ => Q h') : ADefer P w0 f args h Q := by
 intro w hF
 have key : ∀ {tm : Tm} {df : Df} {h' : Heap} {a : Act} {w' : World}, (df = [] ∧ got (resOf P tm h' F.results.toList) fun _ => Q h') → RS w0 F.ntmps tm df h' a w' →
   a.defers = [] ∧ ∃ v, (results F a.tmps).run P w' = .ok v w' ∧ (∃ u, Ending.returned v = .returned u) ∧ ∃ h', Full w0 h' w' ∧ Q h' := by
  intro tm df h' a w' hq hs
  obtain ⟨rfl, hg⟩ := hq
  obtain ⟨vs, hvs, hq⟩ := got_some hg
  exact ⟨hs.rd, _, results_ok hs.rf hs.full hvs, ⟨_, rfl⟩, h', hs.full, hq⟩
 refine CallsD.mono (callsD_of_wp (R := fun e w' => (∃ v, e = .returned v) ∧ ∃ h', Full w0 h' w' ∧ Q h') hf hb ?_) ?_
 ·refine wp_mono (code_ok hng hmix hfit e (start_ok hF hl)) fun e a w hp => ?_
  cases e <;> first | (exact hp.elim) | skip
  ·obtain ⟨tm, df, h', hq, hs⟩ := hp
   exact key hq hs
  ·obtain ⟨tm, df, h', hq, hs⟩ := hp
   exact hq.elim
  ·obtain ⟨tm, df, h', hq, hs⟩ := hp
   exact key hq hs
 ·rintro e u' w' ⟨rfl, h1, h2⟩
  exact ⟨h1, rfl, h2⟩
theorem ACall.mono {f : FuncId} {args : List Value} {h : Heap} {Q Q' : Value → Heap → Prop} (e : ACall P w0 f args h Q) (hq : ∀ v h', Q v h' → Q' v h') : ACall P w0 f args h Q' :=
 fun w hF => Calls.mono (e w hF) fun _ _ ⟨v, h', h1, h2, h3⟩ => ⟨v, h', h1, h2, hq _ _ h3⟩
theorem ADefer.mono {f : FuncId} {args : List Value} {h : Heap} {Q Q' : Heap → Prop} (e : ADefer P w0 f args h Q) (hq : ∀ h', Q h' → Q' h') : ADefer P w0 f args h Q' :=
 fun w hF => CallsD.mono (e w hF) fun _ _ _ ⟨h1, h2, h', h3, h4⟩ => ⟨h1, h2, h', h3, hq _ h4⟩
theorem ACall.known {f : FuncId} {args : List Value} {h : Heap} {Q : Value → Heap → Prop} (e : (w0.heap.size ≤ h.n ∧ ∀ b o, h.at b = some o → b < h.n) → ACall P w0 f args h Q) : ACall P w0 f args h Q :=
 fun w hF => e ⟨hF.ge, fun _ _ => hF.lt⟩ w hF
theorem ACall.calls {f : FuncId} {args : List Value} {h : Heap} {Q : Value → Heap → Prop} (e : ACall P w0 f args h Q) {w : World} (hF : Full w0 h w) {R : Ending → World → Prop} (hR : ∀ v h' w', Full w0 h' w' → Q v h' → R (.returned v) w') : Calls P f args.toArray w R :=
 Calls.mono (e w hF) fun _ w' ⟨v, h', h1, h2, h3⟩ => h1 ▸ hR v h' w' h2 h3
end
end Go.Proofs.YtbjaapiliegegaaGreatDoor.Sy
