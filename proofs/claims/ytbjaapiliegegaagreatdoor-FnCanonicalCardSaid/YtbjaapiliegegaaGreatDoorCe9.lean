/- All operations of the reckoner. -/
import Derived.Test.YtbjaapiliegegaaGreatDoorCe8
namespace Go.Proofs.YtbjaapiliegegaaGreatDoor.Ce
open Go

section
variable {N : Nat} {P : Program} {w0 : World} {h : Heap} {w : World}

theorem v1_out {x : Option AV} {out : Out} (e : v1 h x = some out) : ∃ v, out = .val v h ∧ x = some v := by
  unfold v1 at e
  split at e
  · cases e; exact ⟨_, rfl, rfl⟩
  · cases e

theorem v2_out {x : Option (AV × Heap)} {out : Out} (e : v2 x = some out) : ∃ v h', out = .val v h' ∧ x = some (v, h') := by
  unfold v2 at e
  split at e
  · cases e; exact ⟨_, _, rfl, rfl⟩
  · cases e

theorem v3_out {x : Option Heap} {out : Out} (e : v3 x = some out) : ∃ h', out = .val nil h' ∧ x = some h' := by
  unfold v3 at e
  split at e
  · cases e; exact ⟨_, rfl, rfl⟩
  · cases e

theorem call_ok {f : FuncId} {args : List AV} {out : Out} {A : Array Value} {r : Result Next} (hng : NoCount P) (e : ofCall P f args = some out) (ha : RVs N args A.toList)
    (hr : r = (callFunc f A).run P w) : Ends N w0 w r out := by
  obtain ⟨h1, rfl⟩ := callFunc_ok (w := w) (A := A) hng e
  exact ⟨A, hr.trans h1, ha⟩

theorem stable_out {nt : Nat} {tm : Tm} {T : Array Value} {ds : List Deferred} (hF : Full N w0 h w) (hR : RF N nt tm T) {o : Oper} {out : Out}
    (hs : stable o.op = true) (e : aop P tm h o = some out) : Ends N w0 w ((execOp (⟨T, ds⟩ : Act).eval o).run P w) out := by
  cases out with
  | val v h' =>
    obtain ⟨V, h1, h2, h3⟩ := stable_ok (ds := ds) hF.den hR hs e
    subst h3
    exact ⟨V, w, .inl h1, h2, hF⟩
  | call f args =>
    exfalso
    unfold aop at e
    cases hop : o.op <;> rw [hop] at hs <;> simp only [hop] at e <;> first | (simp [stable] at hs; done) | skip
    case call c =>
      obtain ⟨callee, cargs, ats⟩ := c
      cases callee <;> first | (simp [stable] at hs; done) | skip
      rename_i b
      cases b <;> first | (simp [stable] at hs; done) | skip
      all_goals (simp only [abuiltin] at e; repeat' (first | (cases e; done) | (obtain ⟨_, h1, _⟩ := v1_out e; cases h1; done) | (obtain ⟨_, _, h1, _⟩ := v2_out e; cases h1; done) | (obtain ⟨_, h1, _⟩ := v3_out e; cases h1; done) | split at e))
    all_goals (repeat' (first | (cases e; done) | (obtain ⟨_, h1, _⟩ := v1_out e; cases h1; done) | (obtain ⟨_, _, h1, _⟩ := v2_out e; cases h1; done) | (obtain ⟨_, h1, _⟩ := v3_out e; cases h1; done) | split at e))
  | defer f c args =>
    exfalso
    unfold aop at e
    cases hop : o.op <;> rw [hop] at hs <;> simp only [hop] at e <;> first | (simp [stable] at hs; done) | skip
    case call c =>
      obtain ⟨callee, cargs, ats⟩ := c
      cases callee <;> first | (simp [stable] at hs; done) | skip
      rename_i b
      cases b <;> first | (simp [stable] at hs; done) | skip
      all_goals (simp only [abuiltin] at e; repeat' (first | (cases e; done) | (obtain ⟨_, h1, _⟩ := v1_out e; cases h1; done) | (obtain ⟨_, _, h1, _⟩ := v2_out e; cases h1; done) | (obtain ⟨_, h1, _⟩ := v3_out e; cases h1; done) | split at e))
    all_goals (repeat' (first | (cases e; done) | (obtain ⟨_, h1, _⟩ := v1_out e; cases h1; done) | (obtain ⟨_, _, h1, _⟩ := v2_out e; cases h1; done) | (obtain ⟨_, h1, _⟩ := v3_out e; cases h1; done) | split at e))

theorem sem_skip {s : Sem Unit} {w' : World} (h : s.run P w = .ok () w') : (do s; pure Next.skip : Sem Next).run P w = .ok .skip w' := by
  simp [h]

theorem arr1 {A : Array Value} {X : Value} (h : A.toList = [X]) : A = #[X] := Array.toList_inj.1 h
theorem arr2 {A : Array Value} {X Y : Value} (h : A.toList = [X, Y]) : A = #[X, Y] := Array.toList_inj.1 h

theorem arr_head (R : Value) (X : Array Value) : (#[R] ++ X)[0]? = some R := by simp [Array.getElem?_append]
theorem arr_tail (R : Value) (X : Array Value) : (#[R] ++ X).extract 1 (#[R] ++ X).size = X := by
  apply Array.toList_inj.1
  simp

theorem invoke_ok {t : TypeId} {V : Value} {m : String} {X C : Array Value} {g : FuncId} (h1 : (method (P.types.size + 99 + 1) t V m).run P w = .ok (g, V) w) :
    (invoke (.fn (.method m) C) (#[.iface t V] ++ X)).run P w = (callFunc g (#[V] ++ X)).run P w := by
  have e : invoke (.fn (.method m) C) (#[.iface t V] ++ X) = callMethod (.iface t V) m X := by
    simp only [invoke, arr_head, arr_tail]
  rw [e]
  show ((do let (f, receiver) ← method ((← program).types.size + Made.depth) t V m; callFunc f (#[receiver] ++ X)) : Sem Next).run P w = _
  simp only [Sem.run_bind]
  have hp : (program : Sem Program).run P w = .ok P w := rfl
  rw [hp]
  simp only [Result.andThen_ok, Made.depth]
  rw [h1]
  rfl

theorem builtin_ok (hF : Full N w0 h w) (hN : N = w0.heap.size) (hn0 : n0 ≤ N) {b : Builtin} {ts : Array TypeId} {ty : TypeId} {cs : Array Bool} {args : List AV} {A : Array Value} {out : Out}
    (hs : b ≠ .len ∧ b ≠ .cap) (e : abuiltin P h b ts args = some out) (ha : RVs N args A.toList) : Ends N w0 w ((builtin b ts ty cs A).run P w) out := by
  unfold abuiltin at e
  split at e
  · exact (hs.1 rfl).elim
  · exact (hs.2 rfl).elim
  · obtain ⟨X, Ws, hX, hx, Y, Us, rfl, hy, hn⟩ := ha
    rw [show Us = [] from hn] at hX
    rw [arr2 hX]
    obtain ⟨v, h', rfl, h1⟩ := v2_out e
    obtain ⟨V, w', h2, h3, h4⟩ := append_ok (ty := ty) hF hN hn0 h1 hx hy
    exact ⟨V, w', .inl (by simp [builtin, h2]), h3, h4⟩
  · obtain ⟨X, Ws, hX, hx, Y, Us, rfl, hy, hn⟩ := ha
    rw [show Us = [] from hn] at hX
    rw [arr2 hX]
    split at e
    · rename_i t ht
      obtain ⟨v, h', rfl, h1⟩ := v2_out e
      obtain ⟨V, w', h2, h3, h4⟩ := copy_ok (ty := ty) hF hn0 ht h1 hx hy
      exact ⟨V, w', .inl (by simp [builtin, h2]), h3, h4⟩
    · cases e
  · obtain ⟨X, Ws, hX, hx, Y, Us, rfl, hy, hn⟩ := ha
    rw [show Us = [] from hn] at hX
    rw [arr2 hX]
    split at e
    · rename_i t ht
      obtain ⟨h', rfl, h1⟩ := v3_out e
      obtain ⟨w', h2, h4⟩ := delete_ok (ty := ty) hF hn0 ht h1 hx hy
      exact ⟨undef, w', .inl (by simp [builtin, h2]), RV_nil, h4⟩
    · cases e
  · obtain ⟨X, Ws, hX, hx, Y, Us, rfl, hy, hn⟩ := ha
    rw [show Us = [] from hn] at hX
    rw [arr2 hX]
    obtain ⟨v, rfl, h1⟩ := v1_out e
    obtain ⟨V, h2, h3⟩ := max_ok (P := P) (w := w) (ts := ts) (ty := ty) h1 hx hy
    exact ⟨V, w, .inl (by simp [builtin, h2]), h3, hF⟩
  · cases e

theorem op_ok (hng : NoCount P) (hF : Full N w0 h w) (hN : N = w0.heap.size) (hn0 : n0 ≤ N) {nt : Nat} {tm : Tm} {T : Array Value} {ds : List Deferred} (hR : RF N nt tm T) {o : Oper} {out : Out}
    (e : aop P tm h o = some out) : Ends N w0 w ((execOp (⟨T, ds⟩ : Act).eval o).run P w) out := by
  have hev : ∀ {x : Operand} {u : AV}, aeval tm x = some u → RV N u ((⟨T, ds⟩ : Act).eval x) := fun h => aeval_RV hR h
  by_cases hs : stable o.op = true
  · exact stable_out hF hR hs e
  have e0 := e
  unfold aop at e
  cases hop : o.op <;> rw [hop] at hs <;> simp only [hop] at e <;> first | (simp [stable] at hs; done) | (cases e; done) | skip
  case alloc t =>
    split at e
    · rename_i z hz
      cases e
      obtain ⟨w', h1, h2⟩ := alloc_ok hF hN hz
      exact ⟨_, w', .inl (by simp only [execOp, hop]; exact sem_val h1), rfl, h2⟩
    · cases e
  case box t x =>
    split at e
    · rename_i v hv
      split at e
      · cases e
      · rename_i hk
        cases e
        obtain ⟨w', h1, h2⟩ := box_ok (P := P) (e := t) hF hN (hev hv) (known_any (by simpa using hk))
        exact ⟨_, w', .inl (by simp only [execOp, hop]; exact sem_val h1), rfl, h2⟩
    · cases e
  case buildSlice t n ps =>
    split at e
    · rename_i l hl
      obtain ⟨v, h', rfl, h1⟩ := v2_out e
      obtain ⟨V, w', h2, h3, h4⟩ := buildSlice_ok (Parts := ps.map fun (i, x) => (i, (⟨T, ds⟩ : Act).eval x)) hF hN h1 (by simpa using parts_ok hR hl)
      exact ⟨V, w', .inl (by simp only [execOp, hop]; exact sem_val h2), h3, h4⟩
    · cases e
  case store t a x =>
    split at e
    · rename_i b off v ha hx
      obtain ⟨h', rfl, h1⟩ := v3_out e
      obtain ⟨w', h2, h4⟩ := store_ok hF hn0 h1 (hev hx)
      have hav : (⟨T, ds⟩ : Act).eval a = .pointer (some ⟨bt N b, off, none⟩) := hev ha
      exact ⟨undef, w', .inr ⟨by simp only [execOp, hop, hav]; exact sem_skip h2, rfl⟩, RV_nil, h4⟩
    · cases e
  case convert s d x =>
    split at e
    · rename_i v hv
      obtain ⟨v', h', rfl, h1⟩ := v2_out e
      obtain ⟨V, w', h2, h3, h4⟩ := conv_ok hF hn0 h1 (hev hv)
      exact ⟨V, w', .inl (by simp only [execOp, hop]; exact sem_val h2), h3, h4⟩
    · cases e
  case makeMap t r =>
    obtain ⟨h2, hb⟩ := hF.new hN (o := .map [] 0) (O := .map #[] 0) ⟨#[], rfl, rfl⟩
    split at e
    · rename_i hr
      cases e
      have hr' : r = none := by
        unfold opt at hr
        split at hr
        · rfl
        · split at hr <;> cases hr
      subst hr'
      exact ⟨_, _, .inl (by simp only [execOp, hop]; exact sem_val (by simp [Instr.makeMap]; rfl)), by rw [← hb]; rfl, h2⟩
    · rename_i k n hr
      split at e
      · rename_i k' el hu
        cases e
        obtain ⟨X, hX, hx⟩ := opt_RV (ds := ds) hR hr
        exact ⟨_, _, .inl (by simp only [execOp, hop, hX, show X = _ from hx]; exact sem_val (by simp [Instr.makeMap, run_underlying hu, asInt, asIntOf]; rfl)), by rw [← hb]; rfl, h2⟩
      · cases e
    · cases e
  case makeSlice t l c =>
    split at e
    · rename_i l' c' hl hc
      obtain ⟨v, h', rfl, h1⟩ := v2_out e
      obtain ⟨V, w', h2, h3, h4⟩ := makeSlice_ok hF hN h1 (hev hl) (hev hc)
      exact ⟨V, w', .inl (by simp only [execOp, hop]; exact sem_val h2), h3, h4⟩
    · cases e
  case lookup t x ix ok =>
    split at e
    · rename_i a i ha hi
      obtain ⟨v, rfl, h1⟩ := v1_out e
      obtain ⟨V, h2, h3⟩ := lookup_ok hF.den h1 (hev ha) (hev hi)
      exact ⟨V, w, .inl (by simp only [execOp, hop]; exact sem_val h2), h3, hF⟩
    · cases e
  case mapUpdate t m k x =>
    split at e
    · rename_i m' k' x' hm hk hx
      obtain ⟨h', rfl, h1⟩ := v3_out e
      obtain ⟨w', h2, h4⟩ := update_ok hF hn0 h1 (hev hm) (hev hk) (hev hx)
      exact ⟨undef, w', .inr ⟨by simp only [execOp, hop]; exact sem_skip h2, rfl⟩, RV_nil, h4⟩
    · cases e
  case range t x =>
    split at e
    · rename_i v hv
      obtain ⟨v', h', rfl, h1⟩ := v2_out e
      obtain ⟨V, w', h2, h3, h4⟩ := range_ok hF hN h1 (hev hv)
      exact ⟨V, w', .inl (by simp only [execOp, hop]; exact sem_val h2), h3, h4⟩
    · cases e
  case next it b =>
    split at e
    · rename_i v hv
      obtain ⟨v', rfl, h1⟩ := v1_out e
      obtain ⟨V, h2, h3⟩ := next_ok (ty := o.type) hF.den h1 (hev hv)
      exact ⟨V, w, .inl (by simp only [execOp, hop]; exact sem_val h2), h3, hF⟩
    · cases e
  case call c =>
    obtain ⟨callee, cargs, ats⟩ := c
    split at e
    · cases e
    · rename_i args ha
      have hargs : RVs N args (cargs.map (⟨T, ds⟩ : Act).eval).toList := by simpa using aevals_RV (ds := ds) hR ha
      cases callee with
      | builtin b =>
        simp only [execOp, hop, resolve, Sem.run_bind, Sem.run_pure, Result.andThen_ok, invoke]
        exact builtin_ok hF hN hn0 ⟨by rintro rfl; simp [stable] at hs, by rintro rfl; simp [stable] at hs⟩ e hargs
      | invoke r m =>
        simp only at e
        split at e
        · rename_i t v hr
          split at e
          · rename_i g r' hm
            obtain ⟨V, hV, hv⟩ := hev hr
            obtain ⟨h1, rfl⟩ := amethod_run (P := P) (V := V) hm (P.types.size + 99) w
            refine call_ok (A := #[V] ++ cargs.map (⟨T, ds⟩ : Act).eval) hng e ?_ ?_
            · simpa using (show RVs N (r' :: args) (V :: (cargs.map (⟨T, ds⟩ : Act).eval).toList) from ⟨_, _, rfl, hv, hargs⟩)
            · simp only [execOp, hop, resolve, hV]
              simp only [Sem.run_bind, Sem.run_pure, Result.andThen_ok]
              exact invoke_ok h1
          · cases e
        · cases e
      | value f =>
        simp only at e
        split at e
        · rename_i g first captured hf
          obtain ⟨F1, C1, hV, hfi, hca⟩ := hev hf
          refine call_ok (A := F1 ++ cargs.map (⟨T, ds⟩ : Act).eval ++ C1) hng e ?_ ?_
          · simpa using RVs_append (RVs_append hfi hargs) hca
          · simp only [execOp, hop, resolve, hV, Deferred.ofValue]
            simp only [Sem.run_bind, Sem.run_pure, Result.andThen_ok, invoke]
        · rename_i m t v first hf
          split at e
          · rename_i g r' hm
            obtain ⟨F1, C1, hV, hfi, hca⟩ := hev hf
            obtain ⟨R, F2, hF2, ⟨V, hRV, hv⟩, hfi2⟩ := hfi
            obtain ⟨h1, rfl⟩ := amethod_run (P := P) (V := V) hm (P.types.size + 99) w
            refine call_ok (A := #[V] ++ (F2.toArray ++ cargs.map (⟨T, ds⟩ : Act).eval)) hng e ?_ ?_
            · simpa using (show RVs N (r' :: (first ++ args)) (V :: (F2 ++ (cargs.map (⟨T, ds⟩ : Act).eval).toList)) from ⟨_, _, rfl, hv, RVs_append hfi2 hargs⟩)
            · have hF1 : F1 = #[.iface t V] ++ F2.toArray := by
                apply Array.toList_inj.1
                rw [hF2, hRV]
                simp
              simp only [execOp, hop, resolve, hV, Deferred.ofValue, hF1]
              simp only [Sem.run_bind, Sem.run_pure, Result.andThen_ok]
              rw [Array.append_assoc]
              exact invoke_ok h1
          · cases e
        · cases e
  case defer c =>
    obtain ⟨callee, cargs, ats⟩ := c
    split at e
    · rename_i f args hcal ha
      simp only at hcal ha
      subst hcal
      have hargs : RVs N args (cargs.map (⟨T, ds⟩ : Act).eval).toList := by simpa using aevals_RV (ds := ds) hR ha
      split at e
      · rename_i fn first captured hf
        cases e
        obtain ⟨F1, C1, hV, hfi, hca⟩ := hev hf
        refine ⟨C1, F1 ++ cargs.map (⟨T, ds⟩ : Act).eval, ?_, hca, ?_⟩
        · simp only [execOp, hop, resolve, hV, Deferred.ofValue]
          simp only [Sem.run_bind, Sem.run_pure, Result.andThen_ok]
        · simpa using RVs_append hfi hargs
      · cases e
    · cases e
end
end Go.Proofs.YtbjaapiliegegaaGreatDoor.Ce
