/- Of the proof of FnNoBody: Ce9 Ce10. -/
import Derived.Test.YtbjaapiliegegaaGreatDoorNb14
import Derived.OrdersHeld
import Derived.LoopN
import Derived.Defers
set_option linter.unusedVariables false
set_option linter.unusedSimpArgs false
section
namespace Go.Proofs.YtbjaapiliegegaaGreatDoor.Ce
open Go
section
variable {N : Nat} {P : Program} {w0 : World} {h : Heap} {w : World}
theorem v1_out {x : Option AV} {out : Out} (e : v1 h x = some out) : ∃ v, out = .val v h ∧ x = some v := by
 unfold v1 at e
 split at e
 ·cases e; exact ⟨_, rfl, rfl⟩
 ·cases e
theorem v2_out {x : Option (AV × Heap)} {out : Out} (e : v2 x = some out) : ∃ v h', out = .val v h' ∧ x = some (v, h') := by
 unfold v2 at e
 split at e
 ·cases e; exact ⟨_, _, rfl, rfl⟩
 ·cases e
theorem v3_out {x : Option Heap} {out : Out} (e : v3 x = some out) : ∃ h', out = .val nil h' ∧ x = some h' := by
 unfold v3 at e
 split at e
 ·cases e; exact ⟨_, rfl, rfl⟩
 ·cases e
theorem call_ok {f : FuncId} {args : List AV} {out : Out} {A : Array Value} {r : Result Next} (hng : NoCount P) (e : ofCall P f args = some out) (ha : RVs N args A.toList)
  (hr : r = (callFunc f A).run P w) : Ends N w0 w r out := by
 obtain ⟨h1, rfl⟩ := callFunc_ok (w := w) (A := A) hng e
 exact ⟨A, hr.trans h1, ha⟩
theorem stable_out {nt : Nat} {tm : Tm} {T : Array Value} {ds : List Deferred} (hF : Full N w0 h w) (hR : RF N nt tm T) {o : Oper} {out : Out}
  (hs : stable o.op = true) (e : aop P tm h o = some out) : Ends N w0 w ((execOp (⟨T, ds⟩ : Act).eval o).run P w) out := by
 cases out with
 | val v h' =>
  obtain ⟨V, h1, h2, h3⟩ := stable_ok (ds := ds) hF.den hR hs e
  subst h3
  exact ⟨V, w, .inl h1, h2, hF⟩
 | call f args =>
  exfalso
  unfold aop at e
  cases hop : o.op <;> rw [hop] at hs <;> simp only [hop] at e <;> first | (simp [stable] at hs; done) | skip
  case call c =>
   obtain ⟨callee, cargs, ats⟩ := c
   cases callee <;> first | (simp [stable] at hs; done) | skip
   rename_i b
   cases b <;> first | (simp [stable] at hs; done) | skip
   all_goals (simp only [abuiltin] at e; repeat' (first | (cases e; done) | (obtain ⟨_, h1, _⟩ := v1_out e; cases h1; done) | (obtain ⟨_, _, h1, _⟩ := v2_out e; cases h1; done) | (obtain ⟨_, h1, _⟩ := v3_out e; cases h1; done) | split at e))
  all_goals (repeat' (first | (cases e; done) | (obtain ⟨_, h1, _⟩ := v1_out e; cases h1; done) | (obtain ⟨_, _, h1, _⟩ := v2_out e; cases h1; done) | (obtain ⟨_, h1, _⟩ := v3_out e; cases h1; done) | split at e))
 | defer f c args =>
  exfalso
  unfold aop at e
  cases hop : o.op <;> rw [hop] at hs <;> simp only [hop] at e <;> first | (simp [stable] at hs; done) | skip
  case call c =>
   obtain ⟨callee, cargs, ats⟩ := c
   cases callee <;> first | (simp [stable] at hs; done) | skip
   rename_i b
   cases b <;> first | (simp [stable] at hs; done) | skip
   all_goals (simp only [abuiltin] at e; repeat' (first | (cases e; done) | (obtain ⟨_, h1, _⟩ := v1_out e; cases h1; done) | (obtain ⟨_, _, h1, _⟩ := v2_out e; cases h1; done) | (obtain ⟨_, h1, _⟩ := v3_out e; cases h1; done) | split at e))
  all_goals (repeat' (first | (cases e; done) | (obtain ⟨_, h1, _⟩ := v1_out e; cases h1; done) | (obtain ⟨_, _, h1, _⟩ := v2_out e; cases h1; done) | (obtain ⟨_, h1, _⟩ := v3_out e; cases h1; done) | split at e))
theorem sem_skip {s : Sem Unit} {w' : World} (h : s.run P w = .ok () w') : (do s; pure Next.skip : Sem Next).run P w = .ok .skip w' := by
 simp [h]
theorem arr2 {A : Array Value} {X Y : Value} (h : A.toList = [X, Y]) : A = #[X, Y] := Array.toList_inj.1 h
theorem arr_head (R : Value) (X : Array Value) : (#[R] ++ X)[0]? = some R := by simp [Array.getElem?_append]
theorem arr_tail (R : Value) (X : Array Value) : (#[R] ++ X).extract 1 (#[R] ++ X).size = X := by
 apply Array.toList_inj.1
 simp
theorem invoke_ok {t : TypeId} {V : Value} {m : String} {X C : Array Value} {g : FuncId} (h1 : (method (P.types.size + 99 + 1) t V m).run P w = .ok (g, V) w) :
  (invoke (.fn (.method m) C) (#[.iface t V] ++ X)).run P w = (callFunc g (#[V] ++ X)).run P w := by
 have e : invoke (.fn (.method m) C) (#[.iface t V] ++ X) = callMethod (.iface t V) m X := by
  simp only [invoke, arr_head, arr_tail]
 rw [e]
 show ((do let (f, receiver) ← method ((← program).types.size + Made.depth) t V m; callFunc f (#[receiver] ++ X)) : Sem Next).run P w = _
 simp only [Sem.run_bind]
 have hp : (program : Sem Program).run P w = .ok P w := rfl
 rw [hp]
 simp only [Result.andThen_ok, Made.depth]
 rw [h1]
 rfl
theorem builtin_ok (hF : Full N w0 h w) (hN : N = w0.heap.size) (hn0 : n0 ≤ N) {b : Builtin} {ts : Array TypeId} {ty : TypeId} {cs : Array Bool} {args : List AV} {A : Array Value} {out : Out}
  (hs : b ≠ .len ∧ b ≠ .cap) (e : abuiltin P h b ts args = some out) (ha : RVs N args A.toList) : Ends N w0 w ((builtin b ts ty cs A).run P w) out := by
 unfold abuiltin at e
 split at e
 ·exact (hs.1 rfl).elim
 ·exact (hs.2 rfl).elim
 ·obtain ⟨X, Ws, hX, hx, Y, Us, rfl, hy, hn⟩ := ha
  rw [show Us = [] from hn] at hX
  rw [arr2 hX]
  obtain ⟨v, h', rfl, h1⟩ := v2_out e
  obtain ⟨V, w', h2, h3, h4⟩ := append_ok (ty := ty) hF hN hn0 h1 hx hy
  exact ⟨V, w', .inl (by simp [builtin, h2]), h3, h4⟩
 ·obtain ⟨X, Ws, hX, hx, Y, Us, rfl, hy, hn⟩ := ha
  rw [show Us = [] from hn] at hX
  rw [arr2 hX]
  split at e
  ·rename_i t ht
   obtain ⟨v, h', rfl, h1⟩ := v2_out e
   obtain ⟨V, w', h2, h3, h4⟩ := copy_ok (ty := ty) hF hn0 ht h1 hx hy
   exact ⟨V, w', .inl (by simp [builtin, h2]), h3, h4⟩
  ·cases e
 ·obtain ⟨X, Ws, hX, hx, Y, Us, rfl, hy, hn⟩ := ha
  rw [show Us = [] from hn] at hX
  rw [arr2 hX]
  split at e
  ·rename_i t ht
   obtain ⟨h', rfl, h1⟩ := v3_out e
   obtain ⟨w', h2, h4⟩ := delete_ok (ty := ty) hF hn0 ht h1 hx hy
   exact ⟨undef, w', .inl (by simp [builtin, h2]), RV_nil, h4⟩
  ·cases e
 ·obtain ⟨X, Ws, hX, hx, Y, Us, rfl, hy, hn⟩ := ha
  rw [show Us = [] from hn] at hX
  rw [arr2 hX]
  obtain ⟨v, rfl, h1⟩ := v1_out e
  obtain ⟨V, h2, h3⟩ := max_ok (P := P) (w := w) (ts := ts) (ty := ty) h1 hx hy
  exact ⟨V, w, .inl (by simp [builtin, h2]), h3, hF⟩
 ·cases e
theorem op_ok (hng : NoCount P) (hF : Full N w0 h w) (hN : N = w0.heap.size) (hn0 : n0 ≤ N) {nt : Nat} {tm : Tm} {T : Array Value} {ds : List Deferred} (hR : RF N nt tm T) {o : Oper} {out : Out}
  (e : aop P tm h o = some out) : Ends N w0 w ((execOp (⟨T, ds⟩ : Act).eval o).run P w) out := by
 have hev : ∀ {x : Operand} {u : AV}, aeval tm x = some u → RV N u ((⟨T, ds⟩ : Act).eval x) := fun h => aeval_RV hR h
 by_cases hs : stable o.op = true
 ·exact stable_out hF hR hs e
 have e0 := e
 unfold aop at e
 cases hop : o.op <;> rw [hop] at hs <;> simp only [hop] at e <;> first | (simp [stable] at hs; done) | (cases e; done) | skip
 case alloc t =>
  split at e
  ·rename_i z hz
   cases e
   obtain ⟨w', h1, h2⟩ := alloc_ok hF hN hz
   exact ⟨_, w', .inl (by simp only [execOp, hop]; exact sem_val h1), rfl, h2⟩
  ·cases e
 case box t x =>
  split at e
  ·rename_i v hv
   split at e
   ·cases e
   ·rename_i hk
    cases e
    obtain ⟨w', h1, h2⟩ := box_ok (P := P) (e := t) hF hN (hev hv) (known_any (by simpa using hk))
    exact ⟨_, w', .inl (by simp only [execOp, hop]; exact sem_val h1), rfl, h2⟩
  ·cases e
 case buildSlice t n ps =>
  split at e
  ·rename_i l hl
   obtain ⟨v, h', rfl, h1⟩ := v2_out e
   obtain ⟨V, w', h2, h3, h4⟩ := buildSlice_ok (Parts := ps.map fun (i, x) => (i, (⟨T, ds⟩ : Act).eval x)) hF hN h1 (by simpa using parts_ok hR hl)
   exact ⟨V, w', .inl (by simp only [execOp, hop]; exact sem_val h2), h3, h4⟩
  ·cases e
 case store t a x =>
  split at e
  ·rename_i b off v ha hx
   obtain ⟨h', rfl, h1⟩ := v3_out e
   obtain ⟨w', h2, h4⟩ := store_ok hF hn0 h1 (hev hx)
   have hav : (⟨T, ds⟩ : Act).eval a = .pointer (some ⟨bt N b, off, none⟩) := hev ha
   exact ⟨undef, w', .inr ⟨by simp only [execOp, hop, hav]; exact sem_skip h2, rfl⟩, RV_nil, h4⟩
  ·cases e
 case convert s d x =>
  split at e
  ·rename_i v hv
   obtain ⟨v', h', rfl, h1⟩ := v2_out e
   obtain ⟨V, w', h2, h3, h4⟩ := conv_ok hF hn0 h1 (hev hv)
   exact ⟨V, w', .inl (by simp only [execOp, hop]; exact sem_val h2), h3, h4⟩
  ·cases e
 case makeMap t r =>
  obtain ⟨h2, hb⟩ := hF.new hN (o := .map [] 0) (O := .map #[] 0) ⟨#[], rfl, rfl⟩
  split at e
  ·rename_i hr
   cases e
   have hr' : r = none := by
    unfold opt at hr
    split at hr
    ·rfl
    ·split at hr <;> cases hr
   subst hr'
   exact ⟨_, _, .inl (by simp only [execOp, hop]; exact sem_val (by simp [Instr.makeMap]; rfl)), by rw [← hb]; rfl, h2⟩
  ·rename_i k n hr
   split at e
   ·rename_i k' el hu
    cases e
    obtain ⟨X, hX, hx⟩ := opt_RV (ds := ds) hR hr
    exact ⟨_, _, .inl (by simp only [execOp, hop, hX, show X = _ from hx]; exact sem_val (by simp [Instr.makeMap, run_underlying hu, asInt, asIntOf]; rfl)), by rw [← hb]; rfl, h2⟩
   ·cases e
  ·cases e
 case makeSlice t l c =>
  split at e
  ·rename_i l' c' hl hc
   obtain ⟨v, h', rfl, h1⟩ := v2_out e
   obtain ⟨V, w', h2, h3, h4⟩ := makeSlice_ok hF hN h1 (hev hl) (hev hc)
   exact ⟨V, w', .inl (by simp only [execOp, hop]; exact sem_val h2), h3, h4⟩
  ·cases e
 case lookup t x ix ok =>
  split at e
  ·rename_i a i ha hi
   obtain ⟨v, rfl, h1⟩ := v1_out e
   obtain ⟨V, h2, h3⟩ := lookup_ok hF.den h1 (hev ha) (hev hi)
   exact ⟨V, w, .inl (by simp only [execOp, hop]; exact sem_val h2), h3, hF⟩
  ·cases e
 case mapUpdate t m k x =>
  split at e
  ·rename_i m' k' x' hm hk hx
   obtain ⟨h', rfl, h1⟩ := v3_out e
   obtain ⟨w', h2, h4⟩ := update_ok hF hn0 h1 (hev hm) (hev hk) (hev hx)
   exact ⟨undef, w', .inr ⟨by simp only [execOp, hop]; exact sem_skip h2, rfl⟩, RV_nil, h4⟩
  ·cases e
 case range t x =>
  split at e
  ·rename_i v hv
   obtain ⟨v', h', rfl, h1⟩ := v2_out e
   obtain ⟨V, w', h2, h3, h4⟩ := range_ok hF hN h1 (hev hv)
   exact ⟨V, w', .inl (by simp only [execOp, hop]; exact sem_val h2), h3, h4⟩
  ·cases e
 case next it b =>
  split at e
  ·rename_i v hv
   obtain ⟨v', rfl, h1⟩ := v1_out e
   obtain ⟨V, h2, h3⟩ := next_ok (ty := o.type) hF.den h1 (hev hv)
   exact ⟨V, w, .inl (by simp only [execOp, hop]; exact sem_val h2), h3, hF⟩
  ·cases e
 case call c =>
  obtain ⟨callee, cargs, ats⟩ := c
  split at e
  ·cases e
  ·rename_i args ha
   have hargs : RVs N args (cargs.map (⟨T, ds⟩ : Act).eval).toList := by simpa using aevals_RV (ds := ds) hR ha
   cases callee with
   | builtin b =>
    simp only [execOp, hop, resolve, Sem.run_bind, Sem.run_pure, Result.andThen_ok, invoke]
    exact builtin_ok hF hN hn0 ⟨by rintro rfl; simp [stable] at hs, by rintro rfl; simp [stable] at hs⟩ e hargs
   | invoke r m =>
    simp only at e
    split at e
    ·rename_i t v hr
     split at e
     ·rename_i g r' hm
      obtain ⟨V, hV, hv⟩ := hev hr
      obtain ⟨h1, rfl⟩ := amethod_run (P := P) (V := V) hm (P.types.size + 99) w
      refine call_ok (A := #[V] ++ cargs.map (⟨T, ds⟩ : Act).eval) hng e ?_ ?_
      ·simpa using (show RVs N (r' :: args) (V :: (cargs.map (⟨T, ds⟩ : Act).eval).toList) from ⟨_, _, rfl, hv, hargs⟩)
      ·simp only [execOp, hop, resolve, hV]
       simp only [Sem.run_bind, Sem.run_pure, Result.andThen_ok]
       exact invoke_ok h1
     ·cases e
    ·cases e
   | value f =>
    simp only at e
    split at e
    ·rename_i g first captured hf
     obtain ⟨F1, C1, hV, hfi, hca⟩ := hev hf
     refine call_ok (A := F1 ++ cargs.map (⟨T, ds⟩ : Act).eval ++ C1) hng e ?_ ?_
     ·simpa using RVs_append (RVs_append hfi hargs) hca
     ·simp only [execOp, hop, resolve, hV, Deferred.ofValue]
      simp only [Sem.run_bind, Sem.run_pure, Result.andThen_ok, invoke]
    ·rename_i m t v first hf
     split at e
     ·rename_i g r' hm
      obtain ⟨F1, C1, hV, hfi, hca⟩ := hev hf
      obtain ⟨R, F2, hF2, ⟨V, hRV, hv⟩, hfi2⟩ := hfi
      obtain ⟨h1, rfl⟩ := amethod_run (P := P) (V := V) hm (P.types.size + 99) w
      refine call_ok (A := #[V] ++ (F2.toArray ++ cargs.map (⟨T, ds⟩ : Act).eval)) hng e ?_ ?_
      ·simpa using (show RVs N (r' :: (first ++ args)) (V :: (F2 ++ (cargs.map (⟨T, ds⟩ : Act).eval).toList)) from ⟨_, _, rfl, hv, RVs_append hfi2 hargs⟩)
      ·have hF1 : F1 = #[.iface t V] ++ F2.toArray := by
        apply Array.toList_inj.1
        rw [hF2, hRV]
        simp
       simp only [execOp, hop, resolve, hV, Deferred.ofValue, hF1]
       simp only [Sem.run_bind, Sem.run_pure, Result.andThen_ok]
       rw [Array.append_assoc]
       exact invoke_ok h1
     ·cases e
    ·cases e
 case defer c =>
  obtain ⟨callee, cargs, ats⟩ := c
  split at e
  ·rename_i f args hcal ha
   simp only at hcal ha
   subst hcal
   have hargs : RVs N args (cargs.map (⟨T, ds⟩ : Act).eval).toList := by simpa using aevals_RV (ds := ds) hR ha
   split at e
   ·rename_i fn first captured hf
    cases e
    obtain ⟨F1, C1, hV, hfi, hca⟩ := hev hf
    refine ⟨C1, F1 ++ cargs.map (⟨T, ds⟩ : Act).eval, ?_, hca, ?_⟩
    ·simp only [execOp, hop, resolve, hV, Deferred.ofValue]
     simp only [Sem.run_bind, Sem.run_pure, Result.andThen_ok]
    ·simpa using RVs_append hfi hargs
   ·cases e
  ·cases e
end
end Go.Proofs.YtbjaapiliegegaaGreatDoor.Ce
end
section
namespace Go.Proofs.YtbjaapiliegegaaGreatDoor.Ce
open Go
mutual
theorem beq_eq : ∀ {a b : AV}, beq a b = true → a = b
 | .bool a, b, h => by cases b <;> simp_all [beq]
 | .int k a, b, h => by cases b <;> simp_all [beq]
 | .str a, b, h => by cases b <;> simp_all [beq]
 | .ptr a, b, h => by cases b <;> simp_all [beq]
 | .slice a n c, b, h => by cases b <;> simp_all [beq]
 | .map a, b, h => by cases b <;> simp_all [beq]
 | .func _ _ _, b, h => by cases b <;> simp_all [beq]
 | .nilFunc, b, h => by cases b <;> simp_all [beq]
 | .iface t v, b, h => by
  cases b <;> simp only [beq, Bool.and_eq_true, beq_iff_eq] at h <;> first | (cases h; done) | skip
  rw [h.1, beq_eq h.2]
 | .nilIface, b, h => by cases b <;> simp_all [beq]
 | .agg a, b, h => by
  cases b <;> simp only [beq] at h <;> first | (cases h; done) | skip
  rw [beqs_eq h]
 | .tuple a, b, h => by
  cases b <;> simp only [beq] at h <;> first | (cases h; done) | skip
  rw [beqs_eq h]
 | .empty, b, h => by cases b <;> simp_all [beq]
 | .any, b, h => by cases b <;> simp_all [beq]
theorem beqs_eq : ∀ {a b : List AV}, beqs a b = true → a = b
 | [], b, h => by cases b <;> simp_all [beqs]
 | x :: l, b, h => by
  cases b <;> simp only [beqs, Bool.and_eq_true] at h <;> first | (cases h; done) | skip
  rw [beq_eq h.1, beqs_eq h.2]
end
section
variable {N : Nat}
mutual
theorem exact_eq : ∀ {v : AV} {X Y : Value}, exact v = true → RV N v X → RV N v Y → X = Y
 | .bool _, _, _, _, h1, h2 => Eq.trans h1 (Eq.symm h2)
 | .int _ _, _, _, _, h1, h2 => Eq.trans h1 (Eq.symm h2)
 | .str _, _, _, _, h1, h2 => Eq.trans h1 (Eq.symm h2)
 | .ptr _, _, _, _, h1, h2 => Eq.trans h1 (Eq.symm h2)
 | .slice _ _ (some _), _, _, _, h1, h2 => Eq.trans h1 (Eq.symm h2)
 | .slice _ _ none, _, _, e, _, _ => by simp [exact] at e
 | .map _, _, _, _, h1, h2 => Eq.trans h1 (Eq.symm h2)
 | .func _ f c, _, _, e, ⟨F, C, h1, hf, hc⟩, ⟨F', C', h2, hf', hc'⟩ => by
  simp only [exact, Bool.and_eq_true] at e
  rw [h1, h2, Array.toList_inj.1 (exacts_eq e.1 hf hf'), Array.toList_inj.1 (exacts_eq e.2 hc hc')]
 | .nilFunc, _, _, _, h1, h2 => Eq.trans h1 (Eq.symm h2)
 | .iface _ v, _, _, e, ⟨V, h1, hv⟩, ⟨V', h2, hv'⟩ => by
  simp only [exact] at e
  rw [h1, h2, exact_eq e hv hv']
 | .nilIface, _, _, _, h1, h2 => Eq.trans h1 (Eq.symm h2)
 | .agg cs, _, _, e, ⟨C, h1, hc⟩, ⟨C', h2, hc'⟩ => by
  simp only [exact] at e
  rw [h1, h2, Array.toList_inj.1 (exacts_eq e hc hc')]
 | .tuple cs, _, _, e, ⟨C, h1, hc⟩, ⟨C', h2, hc'⟩ => by
  simp only [exact] at e
  rw [h1, h2, Array.toList_inj.1 (exacts_eq e hc hc')]
 | .empty, _, _, e, _, _ => by simp [exact] at e
 | .any, _, _, e, _, _ => by simp [exact] at e
theorem exacts_eq : ∀ {vs : List AV} {X Y : List Value}, exacts vs = true → RVs N vs X → RVs N vs Y → X = Y
 | [], _, _, _, h1, h2 => Eq.trans h1 (Eq.symm h2)
 | v :: vs, _, _, e, ⟨W, Ws, h1, hw, hs⟩, ⟨W', Ws', h2, hw', hs'⟩ => by
  simp only [exacts, Bool.and_eq_true] at e
  rw [h1, h2, exact_eq e.1 hw hw', exacts_eq e.2 hs hs']
end
variable {P : Program} {w0 : World}
def RD (N : Nat) : List (Fn × List AV × List AV) → List Deferred → Prop
 | [], ds => ds = []
 | (fn, c, a) :: l, ds => ∃ C A ds', ds = { target := .fn fn C, args := A } :: ds' ∧ RVs N c C.toList ∧ RVs N a A.toList ∧ RD N l ds'
structure RS (N : Nat) (w0 : World) (s : St) (a : Act) (w : World) : Prop where
 rf : RF N s.nt s.tm a.tmps
 rd : RD N s.df a.defers
 full : Full N w0 s.hp w
def CallOk (N : Nat) (P : Program) (w0 : World) (call : FuncId → List AV → Heap → Option (AV × Heap)) : Prop :=
 ∀ (f : FuncId) (args : List AV) (h h' : Heap) (v : AV) (A : Array Value) (w : World), call f args h = some (v, h') → RVs N args A.toList → Full N w0 h w →
  Calls P f A w fun e w' => ∃ V, e = .returned V ∧ RV N v V ∧ Full N w0 h' w'
theorem wanted_ok {nt : Nat} {tm : Tm} {T : Array Value} (hR : RF N nt tm T) {ops : Array Oper} {o : Oper} (hs : sure ops tm o = true) :
  Region.wanted o (yielded ops T) = awanted ops tm o := by
 unfold sure at hs
 unfold Region.wanted awanted
 split at hs
 ·rename_i hg; simp [hg]
 ·rename_i j want hg
  simp only [hg]
  congr 1
  split at hs
  ·rename_i t ht
   have hv := hR.at_ t
   unfold yielded ayield
   rw [ht]
   simp only [Option.bind_some]
   cases hT : T[t]? with
   | none =>
    have hu : T.getD t undef = undef := by simp [Array.getD_eq_getD_getElem?, hT]
    rw [hu] at hv
    cases htm : tget tm t <;> rw [htm] at hv <;> first | rfl | skip
    case bool b => cases (show undef = Value.bool b from hv)
   | some V =>
    have hu : T.getD t undef = V := by simp [Array.getD_eq_getD_getElem?, hT]
    rw [hu] at hv
    cases htm : tget tm t <;> rw [htm] at hv hs
    case any => simp at hs
    case bool b => rw [show V = _ from hv]
    case slice a n c => obtain ⟨c', hx, _⟩ := slice_RV hv; rw [hx]
    case func f a c => obtain ⟨F, C, hx, _⟩ := hv; rw [hx]
    case iface t v => obtain ⟨F, hx, _⟩ := hv; rw [hx]
    case agg cs => obtain ⟨F, hx, _⟩ := hv; rw [hx]
    case tuple cs => obtain ⟨F, hx, _⟩ := hv; rw [hx]
    case empty => obtain ⟨a, c, hx⟩ := hv; rw [hx]
    all_goals rw [show V = _ from hv]
  ·cases hs
section
variable {call : FuncId → List AV → Heap → Option (AV × Heap)} {ops : Array Oper} {Q : Exit → Act → World → Prop}
theorem oneOp_ok (hng : NoCount P) (hN : N = w0.heap.size) (hn0 : n0 ≤ N) (hcall : CallOk N P w0 call) {o : Oper} {s s' : St} {a : Act} {w : World} (e : oneOp P call ops o s = some s') (hs : RS N w0 s a w)
  {K : Act → World → Prop} (hK : ∀ a' w', RS N w0 s' a' w' → K a' w') :
  if Region.wanted o (yielded ops a.tmps) then o.wp P a w K Q ∨ (o.asks P a w ∧ LetsOut Q) else K (a.put o.dst undef) w := by
 obtain ⟨T, ds⟩ := a
 unfold oneOp at e
 split at e
 ·rename_i hc
  simp only [Bool.and_eq_true] at hc
  rw [wanted_ok hs.rf hc.1]
  have hput : ∀ {v : AV} {V : Value} {h' : Heap} {w' : World}, RV N v V → Full N w0 h' w' → RS N w0 { s with tm := put s.tm o.dst v, hp := h' } ((⟨T, ds⟩ : Act).put o.dst V) w' := by
   intro v V h' w' hv hf
   refine ⟨hs.rf.put hv hc.2, ?_, hf⟩
   have : ((⟨T, ds⟩ : Act).put o.dst V).defers = ds := by cases o.dst <;> rfl
   rw [this]
   exact hs.rd
  split at e
  ·rename_i hw
   rw [hw]
   simp only [if_true]
   refine .inl ?_
   unfold Oper.wp
   split at e
   ·rename_i v h ho
    cases e
    obtain ⟨V, w', h1, h2, h3⟩ := op_ok (ds := ds) hng hs.full hN hn0 hs.rf ho
    rcases h1 with h1 | ⟨h1, rfl⟩
    ·rw [h1]; exact hK _ _ (hput h2 h3)
    ·rw [h1]; exact hK _ _ (hput h2 h3)
   ·rename_i f args ho
    obtain ⟨A, h1, h2⟩ := op_ok (ds := ds) hng hs.full hN hn0 hs.rf ho
    rw [h1]
    split at e
    ·rename_i v h hcl
     cases e
     refine Calls.mono (hcall f args _ _ _ A w hcl h2 hs.full) ?_
     rintro e w' ⟨V, rfl, hv, hf⟩
     exact hK _ _ (hput hv hf)
    ·cases e
   ·rename_i fn c args ho
    cases e
    obtain ⟨C, A, h1, h2, h3⟩ := op_ok (ds := ds) hng hs.full hN hn0 hs.rf ho
    rw [h1]
    refine hK _ _ ⟨?_, ?_, hs.full⟩
    ·have := hs.rf.put (ds := ds) (d := o.dst) RV_nil hc.2
     cases hd : o.dst <;> rw [hd] at this <;> exact this
    ·have : (({ (⟨T, ds⟩ : Act) with defers := { target := .fn fn C, args := A } :: ds } : Act).put o.dst undef).defers = { target := .fn fn C, args := A } :: ds := by cases o.dst <;> rfl
     rw [this]
     exact ⟨C, A, ds, rfl, h2, h3, hs.rd⟩
   ·cases e
  ·rename_i hw
   cases e
   rw [Bool.not_eq_true] at hw
   rw [hw]
   simp only [Bool.false_eq_true, if_false]
   exact hK _ _ (hput RV_nil hs.full)
 ·cases e
theorem runOps_ok (hng : NoCount P) (hN : N = w0.heap.size) (hn0 : n0 ≤ N) (hcall : CallOk N P w0 call) : ∀ {l : List Oper} {s s' : St} {a : Act} {w : World}, runOps P call ops l s = some s' → RS N w0 s a w →
  (∀ a' w', RS N w0 s' a' w' → Q .normal a' w') → wpList P ops Q l a w
 | [], s, s', a, w, e, hs, hQ => by
  simp only [runOps, Option.some.injEq] at e
  subst e
  exact hQ _ _ hs
 | o :: l, s, s', a, w, e, hs, hQ => by
  simp only [runOps] at e
  split at e
  ·rename_i s1 h1
   exact oneOp_ok hng hN hn0 hcall h1 hs fun a' w' h => runOps_ok hng hN hn0 hcall e h hQ
  ·cases e
theorem look_mem {α : Type} : ∀ {l : List (Nat × α)} {t : Nat} {v : α}, look l t = some v → (t, v) ∈ l
 | [], t, v, e => by simp [look] at e
 | (k, u) :: l, t, v, e => by
  simp only [look] at e
  split at e
  ·rename_i hk
   cases e
   rw [Nat.eq_of_beq_eq_true hk]
   simp
  ·exact List.mem_cons_of_mem _ (look_mem e)
theorem keeps_ok {hS h : Heap} {w : World} (hD : Den N h w) (hk : keeps hS h = true) (hlt : ∀ b o, hS.at b = some o → b < hS.n) : Den N hS w := by
 intro b o hb
 refine ⟨hlt b o hb, ?_⟩
 have hm := look_mem (show look hS.l b = some o from hb)
 have h1 := List.all_eq_true.1 hk _ hm
 cases o <;> simp only [Bool.false_eq_true] at h1
 rename_i c
 simp only [Bool.and_eq_true, Bool.not_eq_true', List.all_eq_true] at h1
 obtain ⟨hne, hall⟩ := h1
 have hat : ∀ off v, (off, v) ∈ c → ∃ V, w.cell? ⟨bt N b, off, none⟩ = some V ∧ RV N v V := by
  intro off v hov
  have h2 := hall _ hov
  simp only at h2
  split at h2
  ·rename_i u hu
   simp only [Bool.and_eq_true] at h2
   obtain ⟨V, hV, hr⟩ := cellAt_ok hD hu
   exact ⟨V, hV, beq_eq h2.2 ▸ hr⟩
  ·cases h2
 have hblk : ∃ C e fz, w.heap[bt N b]? = some (.cells C e fz) := by
  cases c with
  | nil => simp at hne
  | cons p c =>
   obtain ⟨V, hV, _⟩ := hat p.1 p.2 (by simp)
   unfold World.cell? at hV
   split at hV
   ·rename_i C e fz hO
    exact ⟨C, e, fz, hO⟩
   ·cases hV
 obtain ⟨C, e, fz, hO⟩ := hblk
 refine ⟨_, hO, C, e, fz, rfl, fun off v hov => ?_⟩
 obtain ⟨V, hV, hr⟩ := hat off v (look_mem hov)
 exact ⟨V, by rw [← hV, cell_in hO], hr⟩
theorem keeps_lt {hS h : Heap} {w : World} (hD : Den N h w) (hk : keeps hS h = true) (hn : hS.n = h.n) : ∀ b o, hS.at b = some o → b < hS.n := by
 intro b o hb
 have hm := look_mem (show look hS.l b = some o from hb)
 have h1 := List.all_eq_true.1 hk _ hm
 cases o <;> simp only [Bool.false_eq_true] at h1
 rename_i c
 simp only [Bool.and_eq_true, Bool.not_eq_true', List.all_eq_true] at h1
 obtain ⟨hne, hall⟩ := h1
 cases c with
 | nil => simp at hne
 | cons p c =>
  have h2 := hall p (by simp)
  split at h2
  ·rename_i u hu
   unfold cellAt at hu
   cases ha : h.at b with
   | none => rw [ha] at hu; cases hu
   | some q => rw [hn]; exact (hD b q ha).1
  ·cases h2
def Fin (s' : St) (N : Nat) (w0 : World) : Exit → Act → World → Prop
 | .normal, a, w => RS N w0 s' a w
 | _, _, _ => False
theorem draw_ok (hng : NoCount P) (hN : N = w0.heap.size) (hn0 : n0 ≤ N) (hcall : CallOk N P w0 call) {hS : Heap} (hlt : ∀ b o, hS.at b = some o → b < hS.n) (hsel : Region.noSelect ops = true) :
  ∀ (fuel : Nat) (listed : Array Bool) {s s' : St} {a : Act} {w : World}, draw P call ops hS fuel listed s = some s' → RS N w0 s a w → Den N hS w →
   wpAnyH P .any ops (Fin s' N w0) (Den N hS) fuel listed a w
 | 0, listed, s, s', a, w, e, hs, hD => by
  simp only [draw] at e
  split at e
  ·rename_i hr
   cases e
   exact ⟨by simpa using hr, hs⟩
  ·cases e
 | fuel + 1, listed, s, s', a, w, e, hs, hD => by
  rw [draw] at e
  split at e
  ·rename_i i hfind
   split at e
   ·rename_i o ho
    split at e
    ·rename_i hc
     simp only [Bool.and_eq_true] at hc
     obtain ⟨hfree, hsure, hfits⟩ := hc
     have hp := List.find?_some hfind
     have hmem := List.mem_of_find?_eq_some hfind
     simp only [ho, Bool.and_eq_true, Bool.not_eq_true'] at hp
     have hready : (Region.ready .any ops listed).contains i = true := by
      simp only [List.contains_iff_mem, Region.ready, List.mem_filter]
      exact ⟨hmem, by simp only [ho, hp.1, Option.map_some, Option.getD_some, hp.2.2, Bool.not_false, Bool.true_and]⟩
     have hput : ∀ {v : AV} {V : Value}, RV N v V → RS N w0 { s with tm := put s.tm o.dst v } (a.put o.dst V) w := by
      intro v V hv
      refine ⟨hs.rf.put (ds := a.defers) hv hfits, ?_, hs.full⟩
      have : (a.put o.dst V).defers = a.defers := by cases o.dst <;> rfl
      rw [this]
      exact hs.rd
     split at e
     ·rename_i hw
      split at e
      ·rename_i v h2 hop
       split at e
       ·rename_i hex
        obtain ⟨V, hV, hr, _⟩ := stable_ok (ds := a.defers) hD hs.rf hp.2.1 hop
        refine wpAnyH_take (v := V) ho hsel hfree hready (fun _ _ _ h => h.elim) (.inl ⟨?_, fun w1 hD1 => ?_⟩) hD (draw_ok hng hN hn0 hcall hlt hsel fuel _ e (hput hr) hD)
        ·rw [wanted_ok hs.rf hsure, hw]
        ·obtain ⟨V1, hV1, hr1, _⟩ := stable_ok (ds := a.defers) hD1 hs.rf hp.2.1 hop
         rw [exact_eq hex hr hr1]
         exact hV1
       ·cases e
      ·cases e
     ·rename_i hw
      refine wpAnyH_take (v := undef) ho hsel hfree hready (fun _ _ _ h => h.elim) (.inr ⟨?_, rfl⟩) hD (draw_ok hng hN hn0 hcall hlt hsel fuel _ e (hput RV_nil) hD)
      rw [wanted_ok hs.rf hsure]
      simpa using hw
    ·cases e
   ·cases e
  ·split at e
   ·rename_i hr
    cases e
    exact wpAnyH_done hr hs _
   ·rename_i r hr
    split at e
    ·rename_i o ho
     split at e
     ·rename_i s1 h1
      split at e
      ·rename_i hk
       refine wpAnyH_all hr (by simp) fun i hi => ?_
       simp only [List.mem_singleton] at hi
       subst hi
       unfold wpOp
       simp only [ho]
       refine oneOp_ok hng hN hn0 hcall h1 hs fun a' w' hs' => ?_
       have hD' := keeps_ok hs'.full.den hk hlt
       exact ⟨hD', draw_ok hng hN hn0 hcall hlt hsel fuel _ e hs' hD'⟩
      ·cases e
     ·cases e
    ·cases e
   ·cases e
theorem drawAll_ok (hng : NoCount P) (hmix : P.follows .mixedOrders = true) (hN : N = w0.heap.size) (hn0 : n0 ≤ N) (hcall : CallOk N P w0 call) {hS : Heap} {id : Nat} {s s' : St} {a : Act} {w : World}
  (e : drawAll P call ops hS s = some s') (hs : RS N w0 s a w) : (Code.region id ops true).wp P (Fin s' N w0) a w := by
 unfold drawAll at e
 split at e
 ·rename_i hc
  simp only [Bool.and_eq_true] at hc
  obtain ⟨⟨h1, h2⟩, h3⟩ := hc
  have hs' : RS N w0 s a w.drew := ⟨hs.rf, hs.rd, hs.full.drew⟩
  have hlt := keeps_lt hs'.full.den h2 (Nat.eq_of_beq_eq_true h3)
  exact wp_region_held (S := Den N hS) hmix (draw_ok hng hN hn0 hcall hlt h1 _ _ e hs' (keeps_ok hs'.full.den h2 hlt))
 ·cases e
end
end
end Go.Proofs.YtbjaapiliegegaaGreatDoor.Ce
end
