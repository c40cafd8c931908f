/- Runs over known values: every operation; pieces of code; calls. -/
import Derived.OrdersHeld
import Derived.LoopN
import Derived.Test.YtbjaapiliegegaaGreatDoorSa5
namespace Go.Proofs.YtbjaapiliegegaaGreatDoor.Sy
open Go Go.RowKit

theorem got_some {α : Type} {x : Option α} {K : α → Prop} (h : got x K) : ∃ a, x = some a ∧ K a := by
  unfold got at h
  split at h
  · exact ⟨_, rfl, h⟩
  · cases h

section
variable {w0 : World} {h : Heap} {w : World} {P : Program}

theorem tget_put (tm : Tm) (d : Option Tmp) (v : Value) (t : Nat) : tget (put tm d v) t = if d = some t then v else tget tm t := by
  cases d with
  | none => simp [put]
  | some k => simp [put, tget]

/-- A frame. -/
structure RF (nt : Nat) (tm : Tm) (T : Array Value) : Prop where
  size : T.size = nt
  at_ : ∀ t, t < nt → T.getD t undef = tget tm t
  out : ∀ t, nt ≤ t → tget tm t = undef

theorem RF.get {nt : Nat} {tm : Tm} {T : Array Value} (hF : RF nt tm T) (t : Nat) : T.getD t undef = tget tm t := by
  by_cases ht : t < nt
  · exact hF.at_ t ht
  · rw [hF.out t (by omega)]
    have := hF.size
    rw [Array.getD_eq_getD_getElem?, Array.getElem?_eq_none (by omega)]
    rfl

theorem RF.eval {nt : Nat} {tm : Tm} {T : Array Value} {ds : List Deferred} (hF : RF nt tm T) (x : Operand) : (⟨T, ds⟩ : Act).eval x = eval tm x := by
  cases x with
  | tmp t => exact hF.get t
  | const v => rfl
  | global g => rfl
  | func f => rfl

def fits (nt : Nat) (d : Option Tmp) : Bool :=
  match d with
  | some t => decide (t < nt)
  | none => true

theorem RF.put {nt : Nat} {tm : Tm} {T : Array Value} {ds : List Deferred} (hF : RF nt tm T) {d : Option Tmp} {v : Value} (hf : fits nt d = true) :
    RF nt (Sy.put tm d v) (((⟨T, ds⟩ : Act).put d v).tmps) := by
  cases d with
  | none => exact hF
  | some k =>
    have hk : k < nt := by simpa [fits] using hf
    have hs := hF.size
    refine ⟨by simp [Act.put, hs], fun t ht => ?_, fun t ht => ?_⟩
    · rw [tget_put]
      by_cases e : k = t
      · subst e
        simp [Act.put, hs, hk]
      · rw [if_neg (by simpa using e)]
        simp only [Act.put]
        have := hF.at_ t ht
        rw [Array.getD_eq_getD_getElem?] at this ⊢
        rw [Array.getElem?_setIfInBounds_ne e]
        exact this
    · rw [tget_put, if_neg (fun e => by cases e; exact absurd hk (Nat.not_lt.2 ht))]
      exact hF.out t ht

/-- What the machine's operation comes to, where ours comes to 'out'. -/
def Ends (w0 w : World) (r : Result Next) : Out → Prop
  | .val v h' => ∃ w', (r = .ok (.value v) w' ∨ (r = .ok .skip w' ∧ v = undef)) ∧ Full w0 h' w'
  | .call f args => r = .ok (.enter f args.toArray) w
  | .defer fn c args => r = .ok (.defer { target := .fn fn c.toArray, args := args.toArray }) w

/-- No function is the one that counts goroutines. -/
def NoCount (P : Program) : Prop := ∀ (f : Nat) (F : Func), P.funcs[f]? = some F → (F.name == "runtime.NumGoroutine") = false

theorem callFunc_ok {f : FuncId} {args : List Value} {out : Out} (hng : NoCount P) (e : ofCall P f args = some out) :
    (callFunc f args.toArray).run P w = .ok (.enter f args.toArray) w ∧ out = .call f args := by
  unfold ofCall at e
  split at e
  · rename_i F hF
    split at e
    · rename_i c hb
      cases e
      refine ⟨?_, rfl⟩
      have h1 : F.name ≠ "runtime.NumGoroutine" := by simpa using hng f F hF
      have h2 : F.body ≠ none := by rw [hb]; simp
      simp [callFunc, hF, h1, h2]
    · cases e
  · cases e

theorem v1_out {x : Option Value} {out : Out} (e : v1 h x = some out) : ∃ v, out = .val v h ∧ x = some v := by
  unfold v1 at e
  split at e
  · cases e; exact ⟨_, rfl, rfl⟩
  · cases e

theorem v2_out {x : Option (Value × Heap)} {out : Out} (e : v2 x = some out) : ∃ v h', out = .val v h' ∧ x = some (v, h') := by
  unfold v2 at e
  split at e
  · cases e; exact ⟨_, _, rfl, rfl⟩
  · cases e

theorem v3_out {x : Option Heap} {out : Out} (e : v3 x = some out) : ∃ h', out = .val undef h' ∧ x = some h' := by
  unfold v3 at e
  split at e
  · cases e; exact ⟨_, rfl, rfl⟩
  · cases e

theorem sem_val {s : Sem Value} {w w' : World} {V : Value} (h : s.run P w = .ok V w') : (do pure (Next.value (← s)) : Sem Next).run P w = .ok (.value V) w' := by
  simp [h]

theorem sem_skip {s : Sem Unit} {w' : World} (h : s.run P w = .ok () w') : (do s; pure Next.skip : Sem Next).run P w = .ok .skip w' := by
  simp [h]

theorem opt_map {nt : Nat} {tm : Tm} {T : Array Value} {ds : List Deferred} (hF : RF nt tm T) (x : Option Operand) : x.map (⟨T, ds⟩ : Act).eval = opt tm x := by
  cases x with
  | none => rfl
  | some x => simp [opt, hF.eval]

theorem arr1 {A : Array Value} {x : Value} (h : A.toList = [x]) : A = #[x] := Array.toList_inj.1 h
theorem arr2 {A : Array Value} {x y : Value} (h : A.toList = [x, y]) : A = #[x, y] := Array.toList_inj.1 h

/-- Built-in functions that hang on no choice. -/
theorem builtin_ok (hF : Full w0 h w) {b : Builtin} {ts : Array TypeId} {ty : TypeId} {cs : Array Bool} {args : List Value} {out : Out} {c : Nat}
    (hb : b ≠ .append) (e : abuiltin w0.heap.size P h b ts args c = some out) : Ends w0 w ((builtin b ts ty cs args.toArray).run P w) out := by
  unfold abuiltin at e
  split at e
  · split at e
    · rename_i t ht
      obtain ⟨v, rfl, h1⟩ := v1_out e
      have h2 := len_ok (ty := ty) hF ht h1
      exact ⟨w, .inl (by simp [builtin, h2]), hF⟩
    · cases e
  · split at e
    · rename_i t c0 ht hc
      split at e
      · rename_i el hu
        cases e
        unfold capOf at hc
        split at hc
        · cases hc
          refine ⟨w, .inl ?_, hF⟩
          simp [builtin, Builtin.cap_, ht, run_underlying hu, goInt]
        · cases hc
      · cases e
    · cases e
  · exact (hb rfl).elim
  · split at e
    · rename_i t ht
      obtain ⟨v, h', rfl, h1⟩ := v2_out e
      obtain ⟨w', h2, h3⟩ := copy_ok (ty := ty) hF ht h1
      exact ⟨w', .inl (by simp [builtin, h2]), h3⟩
    · cases e
  · split at e
    · rename_i t ht
      obtain ⟨h', rfl, h1⟩ := v3_out e
      obtain ⟨w', h2, h4⟩ := delete_ok (ty := ty) hF ht h1
      exact ⟨w', .inl (by simp [builtin, h2]), h4⟩
    · cases e
  · obtain ⟨v, rfl, h1⟩ := v1_out e
    have h2 := max_ok (P := P) (w := w) (ts := ts) (ty := ty) h1
    exact ⟨w, .inl (by simp [builtin, h2]), hF⟩
  · cases e

theorem arr_head (R : Value) (X : Array Value) : (#[R] ++ X)[0]? = some R := by simp [Array.getElem?_append]
theorem arr_tail (R : Value) (X : Array Value) : (#[R] ++ X).extract 1 (#[R] ++ X).size = X := by
  apply Array.toList_inj.1
  simp

theorem invoke_ok {t : TypeId} {V : Value} {m : String} {X C : Array Value} {g : FuncId} (h1 : (method (P.types.size + 99 + 1) t V m).run P w = .ok (g, V) w) :
    (invoke (.fn (.method m) C) (#[.iface t V] ++ X)).run P w = (callFunc g (#[V] ++ X)).run P w := by
  have e : invoke (.fn (.method m) C) (#[.iface t V] ++ X) = callMethod (.iface t V) m X := by
    simp only [invoke, arr_head, arr_tail]
  rw [e]
  show ((do let (f, receiver) ← method ((← program).types.size + Made.depth) t V m; callFunc f (#[receiver] ++ X)) : Sem Next).run P w = _
  simp only [Sem.run_bind]
  have hp : (program : Sem Program).run P w = .ok P w := rfl
  rw [hp]
  simp only [Result.andThen_ok, Made.depth]
  rw [h1]
  rfl

theorem map_args {nt : Nat} {tm : Tm} {T : Array Value} {ds : List Deferred} (hR : RF nt tm T) (xs : Array Operand) : xs.map (⟨T, ds⟩ : Act).eval = (xs.toList.map (eval tm)).toArray := by
  apply Array.toList_inj.1
  simp only [Array.toList_map]
  exact List.map_congr_left fun x _ => hR.eval x

theorem call_ok (hng : NoCount P) (hF : Full w0 h w) {nt : Nat} {tm : Tm} {T : Array Value} {ds : List Deferred} (hR : RF nt tm T) {o : Oper} {q : Call} {out : Out} {c : Nat}
    (hop : o.op = .call q) (hq : q.callee ≠ .builtin .append) (e : acall w0.heap.size P tm h q c = some out) : Ends w0 w ((execOp (⟨T, ds⟩ : Act).eval o).run P w) out := by
  obtain ⟨callee, cargs, ats⟩ := q
  unfold acall at e
  have hargs := map_args (ds := ds) hR cargs
  cases callee with
  | builtin b =>
    simp only [execOp, hop, resolve, Sem.run_bind, Sem.run_pure, Result.andThen_ok, invoke, hargs]
    exact builtin_ok hF (by rintro rfl; exact hq rfl) e
  | invoke r m =>
    simp only at e
    split at e
    · rename_i t v hr
      split at e
      · rename_i g hm
        have h1 := amethod_run (P := P) (V := v) hm (P.types.size + 99) w
        obtain ⟨h2, rfl⟩ := callFunc_ok (w := w) hng e
        have hrv : (⟨T, ds⟩ : Act).eval r = .iface t v := by rw [hR.eval, hr]
        show _ = _
        simp only [execOp, hop, resolve, hrv]
        simp only [Sem.run_bind, Sem.run_pure, Result.andThen_ok]
        rw [invoke_ok h1, hargs, ← h2]
        congr 2
        apply Array.toList_inj.1
        simp
      · cases e
    · cases e
  | value f =>
    simp only at e
    split at e
    · rename_i g first captured hf
      obtain ⟨h2, rfl⟩ := callFunc_ok (w := w) hng e
      have hfv : (⟨T, ds⟩ : Act).eval f = .func (.func g) first captured := by rw [hR.eval, hf]
      show _ = _
      simp only [execOp, hop, resolve, hfv, Deferred.ofValue]
      simp only [Sem.run_bind, Sem.run_pure, Result.andThen_ok, invoke]
      rw [hargs, ← h2]
      congr 2
      apply Array.toList_inj.1
      simp
    · cases e

theorem parts_map {nt : Nat} {tm : Tm} {T : Array Value} {ds : List Deferred} (hR : RF nt tm T) (ps : Array (Nat × Operand)) :
    (ps.map fun (i, x) => (i, (⟨T, ds⟩ : Act).eval x)).toList = aparts tm ps.toList := by
  simp only [Array.toList_map, aparts]
  exact List.map_congr_left fun x _ => by rw [hR.eval]

theorem op_ok (hng : NoCount P) (hF : Full w0 h w) {nt : Nat} {tm : Tm} {T : Array Value} {ds : List Deferred} (hR : RF nt tm T) {o : Oper} :
    ∃ c, ∀ out, aop w0.heap.size P tm h o.op (if chooses o.op then c else 0) = some out → Ends w0 w ((execOp (⟨T, ds⟩ : Act).eval o).run P w) out := by
  have hev : ∀ x : Operand, (⟨T, ds⟩ : Act).eval x = eval tm x := fun x => hR.eval x
  cases hop : o.op
  case convert s d x =>
    obtain ⟨c, hc⟩ := conv_ok (P := P) hF (s := s) (d := d) (x := eval tm x)
    refine ⟨c, fun out e => ?_⟩
    simp only [chooses, if_true, aop] at e
    obtain ⟨v', h', rfl, h1⟩ := v2_out e
    obtain ⟨w', h2, h3⟩ := hc _ _ h1
    exact ⟨w', .inl (by simp only [execOp, hop, hev]; exact sem_val h2), h3⟩
  case next it b =>
    obtain ⟨c, hc⟩ := next_ok (P := P) hF (x := eval tm it) (b := b) (ty := o.type)
    refine ⟨c, fun out e => ?_⟩
    simp only [chooses, if_true, aop] at e
    obtain ⟨v', h', rfl, h1⟩ := v2_out e
    obtain ⟨w', h2, h3⟩ := hc _ _ h1
    exact ⟨w', .inl (by simp only [execOp, hop, hev]; exact sem_val h2), h3⟩
  case call q =>
    by_cases hq : q.callee = .builtin .append
    · obtain ⟨callee, cargs, ats⟩ := q
      simp only at hq
      subst hq
      have hargs := map_args (ds := ds) hR cargs
      match hl : cargs.toList.map (eval tm) with
      | [s, x] =>
        obtain ⟨c, hc⟩ := append_ok (P := P) hF (ts := ats) (ty := o.type) (s := s) (x := x)
        refine ⟨c, fun out e => ?_⟩
        simp only [chooses, if_true, aop, acall, hl, abuiltin] at e
        obtain ⟨v, h', rfl, h1⟩ := v2_out e
        obtain ⟨w', h2, h3⟩ := hc _ _ h1
        refine ⟨w', .inl ?_, h3⟩
        simp only [execOp, hop, resolve, Sem.run_bind, Sem.run_pure, Result.andThen_ok, invoke, hargs, hl]
        simp [builtin, h2]
      | [] => exact ⟨0, fun out e => by simp [aop, acall, hl, abuiltin] at e⟩
      | [_] => exact ⟨0, fun out e => by simp [aop, acall, hl, abuiltin] at e⟩
      | _ :: _ :: _ :: _ => exact ⟨0, fun out e => by simp [aop, acall, hl, abuiltin] at e⟩
    · refine ⟨0, fun out e => ?_⟩
      simp only [aop] at e
      exact call_ok hng hF hR hop hq e
  all_goals
    refine ⟨0, fun out e => ?_⟩
    simp only [aop] at e
    try (cases e; done)
  case move x => cases e; exact ⟨w, .inl (by simp [execOp, hop, hev]), hF⟩
  case assign x => cases e; exact ⟨w, .inl (by simp [execOp, hop, hev]), hF⟩
  case pick q a b =>
    split at e
    · rename_i t hq
      cases e
      refine ⟨w, .inl ?_, hF⟩
      cases t <;> simp [execOp, hop, hev, hq, asBool]
    · cases e
  case alloc t =>
    split at e
    · rename_i z hz
      cases e
      obtain ⟨w', h1, h2⟩ := alloc_ok hF hz
      exact ⟨w', .inl (by simp only [execOp, hop]; exact sem_val h1), h2⟩
    · cases e
  case box t x =>
    cases e
    obtain ⟨w', h1, h2⟩ := box_ok (P := P) (e := t) (v := eval tm x) hF
    exact ⟨w', .inl (by simp only [execOp, hop, hev]; exact sem_val h1), h2⟩
  case build t ps =>
    obtain ⟨v, rfl, h1⟩ := v1_out e
    rw [← parts_map (ds := ds) hR] at h1
    have h2 := build_ok (w := w) h1
    exact ⟨w, .inl (by simp only [execOp, hop]; exact sem_val h2), hF⟩
  case buildSlice t n ps =>
    obtain ⟨v, h', rfl, h1⟩ := v2_out e
    rw [← parts_map (ds := ds) hR] at h1
    obtain ⟨w', h2, h3⟩ := buildSlice_ok hF h1
    exact ⟨w', .inl (by simp only [execOp, hop]; exact sem_val h2), h3⟩
  case load t a =>
    split at e
    · rename_i b off ha
      obtain ⟨v, rfl, h1⟩ := v1_out e
      have h2 := aload_ok hF h1
      exact ⟨w, .inl (by simp only [execOp, hop, hev, ha]; exact sem_val (by simpa [Instr.loadAt, Instr.sureAddr] using h2)), hF⟩
    · cases e
  case store t a x =>
    split at e
    · rename_i b off ha
      obtain ⟨h', rfl, h1⟩ := v3_out e
      obtain ⟨w', h2, h3⟩ := store_ok hF h1
      exact ⟨w', .inr ⟨by simp only [execOp, hop, hev, ha]; exact sem_skip h2, rfl⟩, h3⟩
    · cases e
  case nilCheck x =>
    obtain ⟨v, rfl, h1⟩ := v1_out e
    exact ⟨w, .inl (nilCheck_ok hop (by rw [hev]; exact h1)), hF⟩
  case binOp op t x y yt =>
    split at e
    · rename_i hg
      obtain ⟨v, rfl, h1⟩ := v1_out e
      have h2 := bin_ok (w := w) h1
      refine ⟨w, .inl ?_, hF⟩
      simp only [execOp, hop, hev]
      exact sem_val (by simp [guard_ok (P := P) (t := t) (w := w) hg, h2])
    · cases e
  case unOp op t x =>
    obtain ⟨v, rfl, h1⟩ := v1_out e
    have h2 := un_ok (P := P) (w := w) h1
    exact ⟨w, .inl (by simp only [execOp, hop, hev]; exact sem_val h2), hF⟩
  case makeInterface t x =>
    split at e
    · cases e
    · rename_i d hnd hd
      cases e
      refine ⟨w, .inl ?_, hF⟩
      simp only [execOp, hop, hev]
      refine sem_val ?_
      cases d <;> first | (exact (hnd _ rfl).elim) | simp [Instr.makeInterface, run_underlying hd]
    · cases e
  case makeFunc fn first captured =>
    cases e
    refine ⟨w, .inl ?_, hF⟩
    simp only [execOp, hop]
    refine sem_val ?_
    rw [show (⟨T, ds⟩ : Act).eval = eval tm from funext hev]
    rfl
  case makeMap t r =>
    have h3 := hF.new (.map [] 0)
    have hsz := hF.size
    split at e
    · rename_i hr
      cases e
      have hr' : r = none := by cases r <;> simp [opt] at hr ⊢
      subst hr'
      exact ⟨_, .inl (by simp only [execOp, hop]; exact sem_val (by simp [Instr.makeMap, hsz, AO.obj])), h3⟩
    · rename_i k n hr
      split at e
      · rename_i k' el hu
        cases e
        have hr' := opt_map (ds := ds) hR r
        rw [hr] at hr'
        exact ⟨_, .inl (by simp only [execOp, hop, hr']; exact sem_val (by simp [Instr.makeMap, run_underlying hu, asInt, asIntOf, hsz, AO.obj])), h3⟩
      · cases e
    · cases e
  case makeSlice t l c =>
    obtain ⟨v, h', rfl, h1⟩ := v2_out e
    obtain ⟨w', h2, h3⟩ := makeSlice_ok hF h1
    exact ⟨w', .inl (by simp only [execOp, hop, hev]; exact sem_val h2), h3⟩
  case slice t x lo hi mx =>
    obtain ⟨v, rfl, h1⟩ := v1_out e
    have h2 := slice_ok (w := w) h1
    exact ⟨w, .inl (by simp only [execOp, hop, hev, opt_map hR]; exact sem_val h2), hF⟩
  case fieldAddr t x f =>
    split at e
    · rename_i b off0 off ft hx hfo
      split at e
      · cases e
      · rename_i z hz0 hz
        cases e
        exact ⟨w, .inl (by simp only [execOp, hop, hev, hx]; exact sem_val (fieldAddr_ok hfo hz (by rintro rfl; exact hz0 rfl))), hF⟩
      · cases e
    · cases e
  case field t x f =>
    split at e
    · rename_i cs off ft hx hfo
      obtain ⟨v, rfl, h1⟩ := v1_out e
      have h2 := field_ok (w := w) hfo h1
      exact ⟨w, .inl (by simp only [execOp, hop, hev, hx]; exact sem_val h2), hF⟩
    · cases e
  case indexAddr t x ix =>
    obtain ⟨v, rfl, h1⟩ := v1_out e
    have h2 := indexAddr_ok (w := w) h1
    exact ⟨w, .inl (by simp only [execOp, hop, hev]; exact sem_val h2), hF⟩
  case index t x ix =>
    obtain ⟨v, rfl, h1⟩ := v1_out e
    have h2 := index_ok (w := w) h1
    exact ⟨w, .inl (by simp only [execOp, hop, hev]; exact sem_val h2), hF⟩
  case lookup t x ix ok =>
    obtain ⟨v, rfl, h1⟩ := v1_out e
    have h2 := lookup_ok hF h1
    exact ⟨w, .inl (by simp only [execOp, hop, hev]; exact sem_val h2), hF⟩
  case mapUpdate t m k x =>
    obtain ⟨h', rfl, h1⟩ := v3_out e
    obtain ⟨w', h2, h3⟩ := update_ok hF h1
    exact ⟨w', .inr ⟨by simp only [execOp, hop, hev]; exact sem_skip h2, rfl⟩, h3⟩
  case range t x =>
    obtain ⟨v, h', rfl, h1⟩ := v2_out e
    obtain ⟨w', h2, h3⟩ := range_ok hF h1
    exact ⟨w', .inl (by simp only [execOp, hop, hev]; exact sem_val h2), h3⟩
  case typeAssert x xt asserted ok =>
    obtain ⟨v, rfl, h1⟩ := v1_out e
    have h2 := assert_ok (w := w) (xt := xt) h1
    exact ⟨w, .inl (by simp only [execOp, hop, hev]; exact sem_val h2), hF⟩
  case extract t ix =>
    split at e
    · rename_i vs ht
      obtain ⟨v, rfl, h1⟩ := v1_out e
      exact ⟨w, .inl (by simp only [execOp, hop, hev, ht]; exact sem_val (by simp [Instr.extract, h1])), hF⟩
    · cases e
  case defer q =>
    obtain ⟨callee, cargs, ats⟩ := q
    have hargs := map_args (ds := ds) hR cargs
    split at e
    · rename_i f hcal
      simp only at hcal
      subst hcal
      split at e
      · rename_i fn first captured hf
        cases e
        have hfv : (⟨T, ds⟩ : Act).eval f = .func fn first captured := by rw [hev, hf]
        show _ = _
        simp only [execOp, hop, resolve, hfv, Deferred.ofValue]
        simp only [Sem.run_bind, Sem.run_pure, Result.andThen_ok, hargs]
        congr 3
        all_goals (apply Array.toList_inj.1; simp)
      · cases e
    · cases e
end
end Go.Proofs.YtbjaapiliegegaaGreatDoor.Sy
