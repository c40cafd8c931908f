/- Of the proof of FnNoBody: Sa7 Sa8. -/
import Derived.Test.YtbjaapiliegegaaGreatDoorNb03
set_option linter.unusedVariables false
set_option linter.unusedSimpArgs false
section
namespace Go.Proofs.YtbjaapiliegegaaGreatDoor.Sy
open Go Go.RowKit
def edges (ops : Array Oper) (j : Nat) : List Nat :=
 match ops[j]? with
 | some o => (o.after.toList.filter (Region.binds .any ·)).map (·.on)
 | none => []
def waits (ops : Array Oper) : Nat → Nat → Nat → Bool
 | 0, _, _ => false
 | n + 1, j, i => (edges ops j).any fun c => c == i || waits ops n c i
def Down (ops : Array Oper) (listed : Array Bool) : Prop :=
 ∀ c, listed.getD c false = true → ∀ d ∈ edges ops c, listed.getD d false = true
theorem waits_no {ops : Array Oper} {listed : Array Bool} (hd : Down ops listed) {i : Nat} (hi : listed.getD i false = false) : ∀ (n j : Nat), (∀ d ∈ edges ops j, listed.getD d false = true) → waits ops n j i = false
 | 0, _, _ => rfl
 | n + 1, j, hj => by
  unfold waits
  rw [List.any_eq_false]
  intro c hc
  have h1 := hj c hc
  have h2 : c ≠ i := by rintro rfl; rw [hi] at h1; cases h1
  have h3 := waits_no hd hi n c (hd c h1)
  simp [h2, h3]
def upd (Y : Nat → World → Prop) (i : Nat) (Z : World → Prop) : Nat → World → Prop := fun k => if k = i then Z else Y k
theorem upd_comm (Y : Nat → World → Prop) {i j : Nat} (h : i ≠ j) (A Z : World → Prop) : upd (upd Y i A) j Z = upd (upd Y j Z) i A := by
 funext k
 unfold upd
 by_cases h1 : k = j
 ·subst h1; simp [Ne.symm h]
 ·simp [h1]
section
variable {P : Program} {ops : Array Oper} {Q : Exit → Act → World → Prop}
def wpAnyK (P : Program) (ops : Array Oper) (Q : Exit → Act → World → Prop) : Nat → Array Bool → (Nat → World → Prop) → Act → World → Prop
 | 0, listed, _, a, w => Region.ready .any ops listed = [] ∧ Q .normal a w
 | fuel + 1, listed, Y, a, w =>
  (Region.ready .any ops listed = [] → Q .normal a w) ∧
  ∀ j ∈ Region.ready .any ops listed, wpOp P ops Q j (fun a' w' => ∃ Z, (∀ k, listed.getD k false = true → waits ops 3 j k = false → Y k w → Y k w') ∧ wpAnyK P ops Q fuel (listed.setIfInBounds j true) (upd Y j Z) a' w') a w
theorem wpAny_of_K : ∀ (fuel : Nat) (listed : Array Bool) (Y : Nat → World → Prop) (a : Act) (w : World), wpAnyK P ops Q fuel listed Y a w → wpAny P .any ops Q fuel listed a w
 | 0, _, _, _, _, h => h
 | fuel + 1, _, _, _, _, h => ⟨h.1, fun i hi => wpOp_mono (fun _ _ ⟨_, _, h'⟩ => wpAny_of_K fuel _ _ _ _ h') (h.2 i hi)⟩
theorem edges_mem {j : Nat} {o : Oper} (hj : ops[j]? = some o) {d : Nat} : d ∈ edges ops j ↔ ∃ e ∈ o.after, Region.binds .any e = true ∧ e.on = d := by
 unfold edges
 simp only [hj, List.mem_map, List.mem_filter, Array.mem_toList_iff]
 constructor
 ·rintro ⟨e, ⟨h1, h2⟩, h3⟩; exact ⟨e, h1, h2, h3⟩
 ·rintro ⟨e, h1, h2, h3⟩; exact ⟨e, ⟨h1, h2⟩, h3⟩
theorem getD_listed {listed : Array Bool} {i : Nat} (h : listed.getD i true = false) : listed.getD i false = false := by
 rcases Nat.lt_or_ge i listed.size with h' | h'
 ·simp [h'] at h ⊢; exact h
 ·simp [Array.getElem?_eq_none h'] at h
theorem getD_size {listed : Array Bool} {i : Nat} (h : listed.getD i true = false) : i < listed.size := by
 rcases Nat.lt_or_ge i listed.size with h' | h'
 ·exact h'
 ·simp [Array.getElem?_eq_none h'] at h
theorem Down.add {listed : Array Bool} (hd : Down ops listed) {j : Nat} (hj : j ∈ Region.ready .any ops listed) : Down ops (listed.setIfInBounds j true) := by
 intro c hc d hdc
 obtain ⟨_, o, ho, hall⟩ := mem_ready.1 hj
 by_cases hcj : j = c
 ·subst hcj
  obtain ⟨e, he, hb, rfl⟩ := (edges_mem ho).1 hdc
  exact getD_set_true (hall e he hb)
 ·rw [getD_set_ne false hcj] at hc
  exact getD_set_true (hd c hc d hdc)
theorem wpAnyK_first {i : Nat} {oi : Oper} {v : Value} {S : World → Prop} (hi : ops[i]? = some oi) (hsel : ∀ (j : Nat) (o : Oper) cs b, ops[j]? = some o → o.op ≠ .select cs b)
  (hQ : ∀ c a w, Q (.panic c) (a.put oi.dst v) w → Q (.panic c) a w) :
  ∀ (fuel : Nat) (listed : Array Bool) (Y : Nat → World → Prop) (a : Act) (w : World), Down ops listed →
   (∀ j oj, ops[j]? = some oj → j ≠ i → listed.getD j true = false → (∀ e ∈ oj.after, Region.binds .any e = true → e.on ≠ i) → oi.apart ops oj = true) →
   i ∈ Region.ready .any ops listed → YieldsIf P ops S oi v a → S w →
   wpAnyK P ops Q fuel (listed.setIfInBounds i true) (upd Y i S) (a.put oi.dst v) w → wpAnyK P ops Q (fuel + 1) listed Y a w := by
 intro fuel
 induction fuel with
 | zero =>
  intro listed Y a w _ _ hr hy hS H
  refine ⟨fun h => (by rw [h] at hr; cases hr), fun j hj => ?_⟩
  by_cases hji : j = i
  ·subst hji; exact hy.wpOp hi hS ⟨S, fun _ _ _ h => h, H⟩
  ·have := ready_mono hj hji
   rw [H.1] at this
   cases this
 | succ fuel ih =>
  intro listed Y a w hd hfree hr hy hS H
  refine ⟨fun h => (by rw [h] at hr; cases hr), fun j hj => ?_⟩
  by_cases hji : j = i
  ·subst hji; exact hy.wpOp hi hS ⟨S, fun _ _ _ h => h, H⟩
  ·have h1 := H.2 j (ready_mono hj hji)
   obtain ⟨hjun, oj, hoj, hall⟩ := mem_ready.1 hj
   have hiun := (mem_ready.1 hr).1
   have hiun' := getD_listed hiun
   have hnot : ∀ e ∈ oj.after, Region.binds .any e = true → e.on ≠ i := fun e he hb heq => by
    have h1 := hall e he hb
    rw [heq, hiun'] at h1
    cases h1
   have hw : waits ops 3 j i = false := waits_no hd hiun' 3 j fun d hde => by
    obtain ⟨e, he, hb, rfl⟩ := (edges_mem hoj).1 hde
    exact hall e he hb
   have h2 := wpOp_putIf hoj (hfree j oj hoj hji hjun hnot) (fun cs b => hsel i oi cs b hi) (fun cs b => hsel j oj cs b hoj) hQ hy h1
   have hfree' : ∀ k ok, ops[k]? = some ok → k ≠ i → (listed.setIfInBounds j true).getD k true = false →
     (∀ e ∈ ok.after, Region.binds .any e = true → e.on ≠ i) → oi.apart ops ok = true := fun k ok hk hki hun hno => by
    refine hfree k ok hk hki ?_ hno
    by_cases hjk : j = k
    ·subst hjk; exact hjun
    ·rw [getD_set_ne true hjk] at hun; exact hun
   refine wpOp_mono (fun a' w' h3 => ?_) h2
   obtain ⟨hy', Z, hkeep, hrest⟩ := h3
   refine ⟨Z, fun k hk hwk hYk => ?_, ih (listed.setIfInBounds j true) (upd Y j Z) a' w' (hd.add hj) hfree' (ready_mono hr (Ne.symm hji)) hy' ?_ ?_⟩
   ·have hki : k ≠ i := by rintro rfl; rw [hiun'] at hk; cases hk
    have := hkeep k (getD_set_true hk) hwk (by simpa [upd, hki] using hYk)
    simpa [upd, hki] using this
   ·have := hkeep i (by simp [getD_size hiun]) hw (by simpa [upd] using hS)
    simpa [upd] using this
   ·rw [Array.setIfInBounds_comm _ _ hji, ← upd_comm Y (Ne.symm hji)]
    exact hrest
theorem wpAnyK_done {listed : Array Bool} {Y : Nat → World → Prop} {a : Act} {w : World} (hr : Region.ready .any ops listed = []) (h : Q .normal a w) :
  ∀ fuel, wpAnyK P ops Q fuel listed Y a w
 | 0 => ⟨hr, h⟩
 | _ + 1 => ⟨fun _ => h, by rw [hr]; simp⟩
end
def still (P : Program) (op : Op) : Bool :=
 match op with
 | .convert _ d _ => match P.underlying d with
  | some (.int _) => true
  | _ => false
 | .move _ | .assign _ | .pick .. | .build .. | .nilCheck _ | .binOp .. | .unOp .. | .makeInterface .. | .makeFunc .. | .slice .. | .fieldAddr .. | .field .. | .indexAddr .. | .index ..
 | .typeAssert .. | .extract .. => true
 | .call { callee := .builtin .cap, .. } | .call { callee := .builtin .len, .. } => true
 | _ => false
def isLoad (op : Op) : Bool :=
 match op with
 | .load .. => true
 | _ => false
abbrev Plan := List (Nat × List Nat)
def planOk (P : Program) (ops : Array Oper) : Plan → Array Bool → Bool
  | [], listed => (Region.ready .any ops listed).isEmpty
  | (i, ks) :: l, listed =>
    match ops[i]? with
    | none => false
    | some o =>
      (if still P o.op || isLoad o.op then (Region.ready .any ops listed).contains i && Region.free .any ops listed i
       else (Region.ready .any ops listed) == [i] && (List.range ops.size).all fun k => !listed.getD k false || !((ops[k]?).map (fun o => isLoad o.op)).getD false || waits ops 3 i k || ks.contains k)
      && planOk P ops l (listed.setIfInBounds i true)
def planAll (P : Program) (ops : Array Oper) (l : Plan) : Bool := Region.noSelect ops && Nat.ble l.length ops.size && planOk P ops l (Array.replicate ops.size false)
abbrev Acc := List (Nat × TypeId × Nat × Nat × Value)
section
variable (P : Program)
def keepOne (h : Heap) (k : Nat) : Acc → Prop
 | [] => True
 | (j, t, b, o, v) :: l => (if j = k then aload P h t b o = some v else True) ∧ keepOne h k l
def keeps (acc : Acc) (h : Heap) : List Nat → Prop
 | [] => True
 | k :: ks => keepOne P h k acc ∧ keeps acc h ks
end
section
variable (P : Program) (w0 : World)
def noBlocks : Heap := ⟨0, fun _ => none⟩
def planW (ops : Array Oper) : Plan → Acc → Tm → Df → Heap → (Tm → Df → Heap → Prop) → Prop
 | [], _, tm, df, h, K => K tm df h
 | (i, ks) :: l, acc, tm, df, h, K =>
  match ops[i]? with
  | none => False
  | some o =>
   if still P o.op then
    fork (awanted ops tm o) (got (aop w0.heap.size P tm noBlocks o.op 0) fun out => match out with
     | .val v _ => planW ops l acc (put tm o.dst v) df h K
     | _ => False) (planW ops l acc (put tm o.dst undef) df h K)
   else if isLoad o.op then
    fork (awanted ops tm o) (match o.op with
     | .load t a => match eval tm a with
      | .pointer (some ⟨b, off, none⟩) => got (aload P h t b off) fun v => planW ops l ((i, t, b, off, v) :: acc) (put tm o.dst v) df h K
      | _ => False
     | _ => False) (planW ops l acc (put tm o.dst undef) df h K)
   else oneW P w0 ops o tm df h fun tm df h' => keeps P acc h' ks ∧ planW ops l acc tm df h' K
end
end Go.Proofs.YtbjaapiliegegaaGreatDoor.Sy
end
section
namespace Go.Proofs.YtbjaapiliegegaaGreatDoor.Sy
open Go Go.RowKit
section
variable (P : Program) (w0 : World)
abbrev Post := AE → Tm → Df → Heap → Prop
def iterW (f : Tm → Df → Heap → Post → Prop) : Nat → Tm → Df → Heap → Post → Prop
 | 0, _, _, _, _ => False
 | n + 1, tm, df, h, Q => f tm df h fun e tm df h => match e with
  | .normal => iterW f n tm df h Q
  | e => Q e tm df h
def regW (ops : Array Oper) (d : Bool) (tm : Tm) (df : Df) (h : Heap) (K : Tm → Df → Heap → Prop) : Prop :=
 match d with
 | false => opsW P w0 ops ops.toList tm df h K
 | true => ∃ l, planAll P ops l = true ∧ planW P w0 ops l [] tm df h K
def awp : Code → Tm → Df → Heap → Post → Prop
 | .skip, tm, df, h, Q => Q .normal tm df h
 | .label _, tm, df, h, Q => Q .normal tm df h
 | .region _ ops d, tm, df, h, Q => regW P w0 ops d tm df h (Q .normal)
 | .seq a b, tm, df, h, Q => awp a tm df h fun e tm df h => match e with
  | .normal => awp b tm df h Q
  | e => Q e tm df h
 | .cond c a b, tm, df, h, Q => condW (eval tm c) (awp a tm df h Q) (awp b tm df h Q)
 | .block id b, tm, df, h, Q => awp b tm df h fun e tm df h => match e with
  | .exit j => Q (if j = id then .normal else .exit j) tm df h
  | e => Q e tm df h
 | .loop b, tm, df, h, Q => ∃ n, iterW (awp b) n tm df h Q
 | .exit id, tm, df, h, Q => Q (.exit id) tm df h
 | .ret, tm, df, h, Q => Q .ret tm df h
 | _, _, _, _, _ => False
def resOf (tm : Tm) (h : Heap) : List ResultVar → Option (List Value)
 | [] => some []
 | .tmp t :: l => match resOf tm h l with
  | some r => some (tget tm t :: r)
  | none => none
 | .cell a t :: l => match tget tm a with
  | .pointer (some ⟨b, o, none⟩) => match aload P h t b o, resOf tm h l with
   | some v, some r => some (v :: r)
   | _, _ => none
  | _ => none
def pack : List Value → Value
 | [v] => v
 | vs => .tuple vs.toArray
def defsW : Df → Heap → (Heap → Prop) → Prop
 | [], h, K => K h
 | (.func g, c, a) :: l, h, K => ADefer P w0 g (a ++ c) h fun h' => defsW l h' K
 | _, _, _ => False
def slots : Nat → List Value → Tm
 | _, [] => []
 | k, v :: vs => (k, v) :: slots (k + 1) vs
def leave (F : Func) (Q : Value → Heap → Prop) (tm : Tm) (df : Df) (h : Heap) : Prop :=
 defsW P w0 df h fun h' => got (resOf P tm h' F.results.toList) fun vs => Q (pack vs) h'
end
def fitsCode (nt : Nat) : Code → Bool
 | .region _ ops _ => ops.toList.all fun o => fits nt o.dst
 | .seq a b => fitsCode nt a && fitsCode nt b
 | .cond _ a b => fitsCode nt a && fitsCode nt b
 | .block _ b => fitsCode nt b
 | .loop b => fitsCode nt b
 | _ => true
def defOf (x : Fn × List Value × List Value) : Deferred := { target := .fn x.1 x.2.1.toArray, args := x.2.2.toArray }
structure RS (w0 : World) (nt : Nat) (tm : Tm) (df : Df) (h : Heap) (a : Act) (w : World) : Prop where
 rf : RF nt tm a.tmps
 rd : a.defers = df.map defOf
 full : Full w0 h w
section
variable {P : Program} {w0 : World} {nt : Nat}
theorem wanted_ok {tm : Tm} {T : Array Value} (hR : RF nt tm T) {ops : Array Oper} {o : Oper} :
  Region.wanted o (yielded ops T) = awanted ops tm o := by
 unfold Region.wanted awanted
 cases hg : o.guard with
 | none => rfl
 | some p =>
  obtain ⟨j, want⟩ := p
  simp only
  congr 1
  unfold yielded ayield
  cases ht : (ops[j]?).bind (·.dst) with
  | none => rfl
  | some t =>
   simp only [Option.bind_some]
   have hv := hR.get t
   rw [Array.getD_eq_getD_getElem?] at hv
   cases hT : T[t]? with
   | none =>
    rw [hT] at hv
    have hu : tget tm t = undef := by rw [← hv]; rfl
    rw [hu]
    rfl
   | some V =>
    rw [hT] at hv
    have hu : tget tm t = V := by rw [← hv]; rfl
    rw [hu]
    cases V <;> rfl
variable {ops : Array Oper} {Q : Exit → Act → World → Prop}
theorem RS.put {tm : Tm} {df : Df} {h h' : Heap} {a : Act} {w w' : World} (hs : RS w0 nt tm df h a w) {d : Option Tmp} (hf : fits nt d = true) (v : Value) (hF : Full w0 h' w') :
  RS w0 nt (put tm d v) df h' (a.put d v) w' := by
 obtain ⟨T, ds⟩ := a
 refine ⟨hs.rf.put hf, ?_, hF⟩
 have : ((⟨T, ds⟩ : Act).put d v).defers = ds := by cases d <;> rfl
 rw [this]
 exact hs.rd
theorem oneW_ok (hng : NoCount P) {o : Oper} {tm : Tm} {df : Df} {h : Heap} {a : Act} {w : World} {K : Tm → Df → Heap → Prop} {K' : Act → World → Prop} (e : oneW P w0 ops o tm df h K) (hs : RS w0 nt tm df h a w) (hf : fits nt o.dst = true)
  (hK : ∀ tm df h a w, K tm df h → RS w0 nt tm df h a w → K' a w) :
  if Region.wanted o (yielded ops a.tmps) then o.wp P a w K' Q ∨ (o.asks P a w ∧ LetsOut Q) else K' (a.put o.dst undef) w := by
 rw [wanted_ok hs.rf]
 obtain ⟨h1, h2⟩ := e
 split
 ·rename_i hw
  have h3 := h1 hw
  left
  unfold Oper.wp
  obtain ⟨c, hc⟩ := op_ok (ds := a.defers) hng hs.full hs.rf (o := o)
  unfold opW at h3
  have h4 : got (aop w0.heap.size P tm h o.op (if chooses o.op then c else 0)) (outW P w0 o tm df h K) := by
   split at h3
   ·rename_i hch; rw [if_pos hch]; exact h3 c
   ·rename_i hch; rw [if_neg hch]; exact h3
  obtain ⟨out, hout, hk⟩ := got_some h4
  have h5 := hc out hout
  cases out with
  | val v h' =>
   obtain ⟨w', h6, h7⟩ := h5
   rcases h6 with h6 | ⟨h6, rfl⟩
   ·rw [h6]; exact hK _ _ _ _ _ hk (hs.put hf v h7)
   ·rw [h6]; exact hK _ _ _ _ _ hk (hs.put hf _ h7)
  | call f args =>
   rw [show _ = _ from h5]
   refine Calls.mono (hk w hs.full) ?_
   rintro e w' ⟨v, h', rfl, hF', hk'⟩
   exact hK _ _ _ _ _ hk' (hs.put hf v hF')
  | defer fn cs args =>
   rw [show _ = _ from h5]
   refine hK _ _ _ _ _ hk ⟨?_, ?_, hs.full⟩
   ·have := (hs.put hf undef hs.full).rf
    cases hd : o.dst <;> rw [hd] at this <;> exact this
   ·have : ∀ d, (({ a with defers := { target := .fn fn cs.toArray, args := args.toArray } :: a.defers } : Act).put d undef).defers = { target := .fn fn cs.toArray, args := args.toArray } :: a.defers := fun d => by cases d <;> rfl
    rw [this, hs.rd]
    rfl
 ·rename_i hw
  have h3 := h2 (by simpa using hw)
  exact hK _ _ _ _ _ h3 (hs.put hf undef hs.full)
theorem opsW_ok (hng : NoCount P) : ∀ {l : List Oper} {tm : Tm} {df : Df} {h : Heap} {a : Act} {w : World} {K : Tm → Df → Heap → Prop}, opsW P w0 ops l tm df h K → RS w0 nt tm df h a w → (∀ o ∈ l, fits nt o.dst = true) →
  (∀ tm df h a w, K tm df h → RS w0 nt tm df h a w → Q .normal a w) → wpList P ops Q l a w
 | [], _, _, _, _, _, _, e, hs, _, hQ => hQ _ _ _ _ _ e hs
 | o :: l, tm, df, h, a, w, K, e, hs, hf, hQ => by
  refine oneW_ok hng (K' := fun a' w' => wpList P ops Q l a' w') (show oneW P w0 ops o tm df h _ from e) hs (hf o (by simp)) fun tm df h a w hk hs' => ?_
  exact opsW_ok hng hk hs' (fun o' ho' => hf o' (by simp [ho'])) hQ
theorem still_yields (hng : NoCount P) {o : Oper} {tm : Tm} {a : Act} {out : Out} (hR : RF nt tm a.tmps) (hst : still P o.op = true) (e : aop w0.heap.size P tm noBlocks o.op 0 = some out) :
  ∃ v, out = .val v noBlocks ∧ ∀ w, (execOp a.eval o).run P w = .ok (.value v) w := by
 have hev : ∀ x : Operand, a.eval x = eval tm x := fun x => hR.eval x
 cases hop : o.op <;> rw [hop] at hst e <;> simp only [aop] at e <;> first | (simp [still] at hst; done) | skip
 case convert s d x =>
  obtain ⟨v, h', rfl, h1⟩ := v2_out e
  simp only [still] at hst
  split at hst
  ·rename_i k hd
   unfold aconv at h1
   split at h1
   ·rename_i ds k0 k1 n hs hd' hx
    cases h1
    refine ⟨_, rfl, fun w => ?_⟩
    simp only [execOp, hop, hev, hx]
    refine sem_val ?_
    cases ds <;> simp [convert, run_underlying hs, run_underlying hd', Conv.intToInt]
   all_goals first
    | (rename_i hd' _; rw [hd] at hd'; cases hd'; done)
    | (rename_i hd'; rw [hd] at hd'; cases hd'; done)
    | (cases h1; done)
  ·cases hst
 case move x => cases e; exact ⟨_, rfl, fun w => by simp [execOp, hop, hev]⟩
 case assign x => cases e; exact ⟨_, rfl, fun w => by simp [execOp, hop, hev]⟩
 case pick q x y =>
  split at e
  ·rename_i t hq
   cases e
   refine ⟨_, rfl, fun w => ?_⟩
   cases t <;> simp [execOp, hop, hev, hq, asBool]
  ·cases e
 case build t ps =>
  obtain ⟨v, rfl, h1⟩ := v1_out e
  rw [← parts_map (T := a.tmps) (ds := a.defers) hR] at h1
  exact ⟨v, rfl, fun w => by simp only [execOp, hop]; exact sem_val (build_ok (w := w) h1)⟩
 case nilCheck x =>
  obtain ⟨v, rfl, h1⟩ := v1_out e
  exact ⟨v, rfl, fun w => nilCheck_ok hop (by rw [hev]; exact h1)⟩
 case binOp op t x y yt =>
  split at e
  ·rename_i hg
   obtain ⟨v, rfl, h1⟩ := v1_out e
   refine ⟨v, rfl, fun w => ?_⟩
   simp only [execOp, hop, hev]
   exact sem_val (by simp [guard_ok (P := P) (t := t) (w := w) hg, bin_ok (w := w) h1])
  ·cases e
 case unOp op t x =>
  obtain ⟨v, rfl, h1⟩ := v1_out e
  exact ⟨v, rfl, fun w => by simp only [execOp, hop, hev]; exact sem_val (un_ok (P := P) (w := w) h1)⟩
 case makeInterface t x =>
  split at e
  ·cases e
  ·rename_i d hnd hd
   cases e
   refine ⟨_, rfl, fun w => ?_⟩
   simp only [execOp, hop, hev]
   refine sem_val ?_
   cases d <;> first | (exact (hnd _ rfl).elim) | simp [Instr.makeInterface, run_underlying hd]
  ·cases e
 case makeFunc fn first captured =>
  cases e
  refine ⟨_, rfl, fun w => ?_⟩
  simp only [execOp, hop]
  refine sem_val ?_
  rw [show a.eval = eval tm from funext hev]
  rfl
 case slice t x lo hi mx =>
  obtain ⟨v, rfl, h1⟩ := v1_out e
  have hm := fun x => opt_map (T := a.tmps) (ds := a.defers) hR x
  exact ⟨v, rfl, fun w => by simp only [execOp, hop, hev]; exact sem_val (by rw [hm, hm, hm]; exact slice_ok (w := w) h1)⟩
 case fieldAddr t x f =>
  split at e
  ·rename_i b off0 off ft hx hfo
   split at e
   ·cases e
   ·rename_i z hz0 hz
    cases e
    exact ⟨_, rfl, fun w => by simp only [execOp, hop, hev, hx]; exact sem_val (fieldAddr_ok hfo hz (by rintro rfl; exact hz0 rfl))⟩
   ·cases e
  ·cases e
 case field t x f =>
  split at e
  ·rename_i cs off ft hx hfo
   obtain ⟨v, rfl, h1⟩ := v1_out e
   exact ⟨v, rfl, fun w => by simp only [execOp, hop, hev, hx]; exact sem_val (field_ok (w := w) hfo h1)⟩
  ·cases e
 case indexAddr t x ix =>
  obtain ⟨v, rfl, h1⟩ := v1_out e
  exact ⟨v, rfl, fun w => by simp only [execOp, hop, hev]; exact sem_val (indexAddr_ok (w := w) h1)⟩
 case index t x ix =>
  obtain ⟨v, rfl, h1⟩ := v1_out e
  exact ⟨v, rfl, fun w => by simp only [execOp, hop, hev]; exact sem_val (index_ok (w := w) h1)⟩
 case typeAssert x xt asserted ok =>
  obtain ⟨v, rfl, h1⟩ := v1_out e
  exact ⟨v, rfl, fun w => by simp only [execOp, hop, hev]; exact sem_val (assert_ok (w := w) (xt := xt) h1)⟩
 case extract t ix =>
  split at e
  ·rename_i vs ht
   obtain ⟨v, rfl, h1⟩ := v1_out e
   exact ⟨v, rfl, fun w => by simp only [execOp, hop, hev, ht]; exact sem_val (by simp [Instr.extract, h1])⟩
  ·cases e
 case call q =>
  obtain ⟨callee, cargs, ats⟩ := q
  cases callee <;> first | (simp [still] at hst; done) | skip
  rename_i b
  have hargs := map_args (T := a.tmps) (ds := a.defers) hR cargs
  cases b <;> first | (simp [still] at hst; done) | skip
  ·simp only [acall] at e
   unfold abuiltin at e
   split at e <;> first | (rename_i heq _; cases heq; done) | skip
   ·rename_i x hx
    split at e
    ·rename_i t c0 ht hc
     split at e
     ·rename_i el hu
      cases e
      unfold capOf at hc
      split at hc
      ·cases hc
       refine ⟨_, rfl, fun w => ?_⟩
       simp only [execOp, hop, resolve, Sem.run_bind, Sem.run_pure, Result.andThen_ok, invoke]
       rw [show cargs.map a.eval = _ from hargs, hx]
       simp [builtin, Builtin.cap_, ht, run_underlying hu, goInt]
      ·cases hc
     ·cases e
    ·cases e
   ·cases e
  ·simp only [acall] at e
   unfold abuiltin at e
   split at e <;> first | (rename_i heq _; cases heq; done) | skip
   ·rename_i x hx0 hx
    split at e
    ·rename_i t ht
     obtain ⟨v, rfl, h1⟩ := v1_out e
     refine ⟨v, rfl, fun w => ?_⟩
     have h2 : (Builtin.len_ ats o.type #[x]).run P w = .ok v w := by
      unfold alen at h1
      split at h1
      ·rename_i s hu
       cases h1
       simp [Builtin.len_, ht, run_underlying hu, goInt, bytes_size]
      ·rename_i el q n c hu
       cases h1
       simp [Builtin.len_, ht, run_underlying hu]; rfl
      ·rename_i k el r hu
       cases r with
       | none =>
        simp only [entriesOf] at h1
        cases h1
        simp [Builtin.len_, ht, run_underlying hu]; rfl
       | some r => simp [entriesOf, noBlocks, Heap.at] at h1
      ·cases h1
     simp only [execOp, hop, resolve, Sem.run_bind, Sem.run_pure, Result.andThen_ok, invoke]
     rw [show cargs.map a.eval = _ from hargs, hx]
     simp [builtin, h2]
    ·cases e
   ·cases e
theorem reads_ok {o : Oper} {tm : Tm} {a : Act} {v : Value} {h : Heap} {w : World} {t : TypeId} {x : Operand} {b off : Nat} (hR : RF nt tm a.tmps) (hop : o.op = .load t x) (ha : eval tm x = .pointer (some ⟨b, off, none⟩)) (hF : Full w0 h w) (e : aload P h t b off = some v) :
  (execOp a.eval o).run P w = .ok (.value v) w := by
 have hev : ∀ x : Operand, a.eval x = eval tm x := fun x => hR.eval x
 have h2 := aload_ok hF e
 simp only [execOp, hop, hev, ha]
 exact sem_val (by simpa [Instr.loadAt, Instr.sureAddr] using h2)
def Fin (w0 : World) (nt : Nat) (K : Tm → Df → Heap → Prop) : Exit → Act → World → Prop
 | .normal, a, w => ∃ tm df h, K tm df h ∧ RS w0 nt tm df h a w
 | _, _, _ => False
theorem keepOne_mem {h : Heap} {k : Nat} {t : TypeId} {b o : Nat} {v : Value} : ∀ {acc : Acc}, keepOne P h k acc → (k, t, b, o, v) ∈ acc → aload P h t b o = some v
 | (j, t', b', o', v') :: l, ⟨h1, h2⟩, hm => by
  rcases List.mem_cons.1 hm with e | hm
  ·cases e
   simpa using h1
  ·exact keepOne_mem h2 hm
theorem keeps_mem {h : Heap} {acc : Acc} {k : Nat} {t : TypeId} {b o : Nat} {v : Value} : ∀ {ks : List Nat}, keeps P acc h ks → k ∈ ks → (k, t, b, o, v) ∈ acc → aload P h t b o = some v
 | j :: ks, ⟨h1, h2⟩, hk, hm => by
  rcases List.mem_cons.1 hk with e | hk
  ·subst e; exact keepOne_mem h1 hm
  ·exact keeps_mem h2 hk hm
def Tied (P : Program) (w0 : World) (ops : Array Oper) (listed : Array Bool) (acc : Acc) (Y : Nat → World → Prop) : Prop :=
 ∀ k, listed.getD k false = true → (∀ w, Y k w) ∨ (((ops[k]?).map (fun o => isLoad o.op)).getD false = true ∧ ∃ t b o v, (k, t, b, o, v) ∈ acc ∧ ∀ h w, Full w0 h w → aload P h t b o = some v → Y k w)
theorem getD_set_inv {listed : Array Bool} {i k : Nat} (h : (listed.setIfInBounds i true).getD k false = true) : k = i ∨ listed.getD k false = true := by
 by_cases e : i = k
 ·exact .inl e.symm
 ·right; rwa [getD_set_ne false e] at h
theorem Tied.add {listed : Array Bool} {acc : Acc} {Y : Nat → World → Prop} (ht : Tied P w0 ops listed acc Y) {i : Nat} (hi : listed.getD i false = false) {acc' : Acc} (hsub : ∀ x ∈ acc, x ∈ acc') {Z : World → Prop}
  (hZ : (∀ w, Z w) ∨ (((ops[i]?).map (fun o => isLoad o.op)).getD false = true ∧ ∃ t b o v, (i, t, b, o, v) ∈ acc' ∧ ∀ h w, Full w0 h w → aload P h t b o = some v → Z w)) : Tied P w0 ops (listed.setIfInBounds i true) acc' (upd Y i Z) := by
 intro k hk
 rcases getD_set_inv hk with rfl | hk2
 ·simpa [upd] using hZ
 ·have hki : k ≠ i := by rintro rfl; rw [hi] at hk2; cases hk2
  rcases ht k hk2 with h | ⟨h1, t, b, o, v, h2, h3⟩
  ·exact .inl (by simpa [upd, hki] using h)
  ·exact .inr ⟨h1, t, b, o, v, hsub _ h2, by simpa [upd, hki] using h3⟩
theorem planW_ok (hng : NoCount P) (hsel : Region.noSelect ops = true) (hfit : ∀ o ∈ ops.toList, fits nt o.dst = true) {K : Tm → Df → Heap → Prop} :
  ∀ (l : Plan) (fuel : Nat) (listed : Array Bool) {acc : Acc} {Y : Nat → World → Prop} {tm : Tm} {df : Df} {h : Heap} {a : Act} {w : World}, l.length ≤ fuel → planOk P ops l listed = true → planW P w0 ops l acc tm df h K → RS w0 nt tm df h a w → Down ops listed → Tied P w0 ops listed acc Y →
   wpAnyK P ops (Fin w0 nt K) fuel listed Y a w
 | [], fuel, listed, acc, Y, tm, df, h, a, w, _, hok, hp, hs, hd, ht => by
  refine wpAnyK_done ?_ ⟨tm, df, h, hp, hs⟩ fuel
  simpa [planOk] using hok
 | (i, ks) :: l, 0, listed, acc, Y, tm, df, h, a, w, hl, _, _, _, _, _ => by simp at hl
 | (i, ks) :: l, fuel + 1, listed, acc, Y, tm, df, h, a, w, hl, hok, hp, hs, hd, ht => by
  simp only [planOk] at hok
  simp only [planW] at hp
  have hl' : l.length ≤ fuel := by simpa using hl
  split at hok
  ·cases hok
  ·rename_i o ho
   simp only [ho] at hp
   have hof : fits nt o.dst = true := hfit o (List.mem_of_getElem? (by simpa using ho))
   simp only [Bool.and_eq_true] at hok
   obtain ⟨hok1, hok2⟩ := hok
   split at hp
   ·rename_i hst
    rw [if_pos (by simp [hst])] at hok1
    simp only [Bool.and_eq_true] at hok1
    obtain ⟨hready, hfree⟩ := hok1
    have hmem : i ∈ Region.ready .any ops listed := by simpa using hready
    have hun := getD_listed (mem_ready.1 hmem).1
    have hw := wanted_ok (ops := ops) (o := o) hs.rf
    by_cases hwt : awanted ops tm o = true
    ·have h1 := hp.1 hwt
     obtain ⟨out, hout, hk⟩ := got_some h1
     obtain ⟨v, rfl, hy⟩ := still_yields (a := a) hng hs.rf hst hout
     refine wpAnyK_first (S := fun _ => True) (v := v) ho (Region.noSelect_spec hsel) (fun _ _ _ h => h.elim) fuel listed Y a w hd (Region.free_spec ho hfree) hmem (.inl ⟨by rw [hw, hwt], fun w' _ => hy w'⟩) trivial ?_
     exact planW_ok hng hsel hfit l fuel _ hl' hok2 hk (hs.put hof v hs.full) (hd.add hmem) (ht.add hun (fun _ h => h) (.inl fun _ => trivial))
    ·have hwf : awanted ops tm o = false := by simpa using hwt
     refine wpAnyK_first (S := fun _ => True) (v := undef) ho (Region.noSelect_spec hsel) (fun _ _ _ h => h.elim) fuel listed Y a w hd (Region.free_spec ho hfree) hmem (.inr ⟨by rw [hw, hwf], rfl⟩) trivial ?_
     exact planW_ok hng hsel hfit l fuel _ hl' hok2 (hp.2 hwf) (hs.put hof undef hs.full) (hd.add hmem) (ht.add hun (fun _ h => h) (.inl fun _ => trivial))
   ·rename_i hst
    split at hp
    ·rename_i hld
     rw [if_pos (by simp [hld])] at hok1
     simp only [Bool.and_eq_true] at hok1
     obtain ⟨hready, hfree⟩ := hok1
     have hmem : i ∈ Region.ready .any ops listed := by simpa using hready
     have hun := getD_listed (mem_ready.1 hmem).1
     have hw := wanted_ok (ops := ops) (o := o) hs.rf
     by_cases hwt : awanted ops tm o = true
     ·have h1 := hp.1 hwt
      split at h1
      ·rename_i t x hop
       split at h1
       ·rename_i b off hx
        obtain ⟨v, hv, hk⟩ := got_some h1
        refine wpAnyK_first (S := fun w' => (execOp a.eval o).run P w' = .ok (.value v) w') (v := v) ho (Region.noSelect_spec hsel) (fun _ _ _ h => h.elim) fuel listed Y a w hd (Region.free_spec ho hfree) hmem (.inl ⟨by rw [hw, hwt], fun w' h => h⟩) (reads_ok hs.rf hop hx hs.full hv) ?_
        refine planW_ok hng hsel hfit l fuel _ hl' hok2 hk (hs.put hof v hs.full) (hd.add hmem) (ht.add hun (fun _ h => List.mem_cons_of_mem _ h) (.inr ⟨by simp [ho, hld], t, b, off, v, List.mem_cons_self, fun h' w' hF' hp' => reads_ok hs.rf hop hx hF' hp'⟩))
       ·exact h1.elim
      ·exact h1.elim
     ·have hwf : awanted ops tm o = false := by simpa using hwt
      refine wpAnyK_first (S := fun _ => True) (v := undef) ho (Region.noSelect_spec hsel) (fun _ _ _ h => h.elim) fuel listed Y a w hd (Region.free_spec ho hfree) hmem (.inr ⟨by rw [hw, hwf], rfl⟩) trivial ?_
      exact planW_ok hng hsel hfit l fuel _ hl' hok2 (hp.2 hwf) (hs.put hof undef hs.full) (hd.add hmem) (ht.add hun (fun _ h => h) (.inl fun _ => trivial))
    ·rename_i hld
     rw [if_neg (by simp [hst, hld])] at hok1
     simp only [Bool.and_eq_true, beq_iff_eq, List.all_eq_true] at hok1
     obtain ⟨hready, hkeep⟩ := hok1
     have hmem : i ∈ Region.ready .any ops listed := by rw [hready]; simp
     have hun := getD_listed (mem_ready.1 hmem).1
     refine ⟨fun h => (by rw [h] at hmem; cases hmem), fun j hj => ?_⟩
     rw [hready] at hj
     have hji : j = i := by simpa using hj
     subst hji
     unfold wpOp
     simp only [ho]
     refine oneW_ok hng hp hs hof fun tm' df' h' a' w' hk hs' => ?_
     refine ⟨fun _ => True, fun k hk1 hk2 hY => ?_, planW_ok hng hsel hfit l fuel _ hl' hok2 hk.2 hs' (hd.add hmem) (ht.add hun (fun _ h => h) (.inl fun _ => trivial))⟩
     rcases ht k hk1 with h1 | ⟨h1, t, b, o', v, h2, h3⟩
     ·exact h1 w'
     ·have hkr : k < ops.size := by
       cases hok : ops[k]? with
       | none => rw [hok] at h1; simp at h1
       | some o'' => exact (Array.getElem?_eq_some_iff.1 hok).1
      have h4 := hkeep k (List.mem_range.2 hkr)
      rw [hk1, h1, hk2] at h4
      have h5 : k ∈ ks := by simpa using h4
      exact h3 h' w' hs'.full (keeps_mem hk.1 h5 h2)
theorem reg_draw_ok (hng : NoCount P) (hmix : P.follows .mixedOrders = true) {id : Nat} {l : Plan} {tm : Tm} {df : Df} {h : Heap} {a : Act} {w : World} {K : Tm → Df → Heap → Prop} (hfit : ∀ o ∈ ops.toList, fits nt o.dst = true)
  (hl : planAll P ops l = true) (hp : planW P w0 ops l [] tm df h K) (hs : RS w0 nt tm df h a w) : (Code.region id ops true).wp P (Fin w0 nt K) a w := by
 simp only [planAll, Bool.and_eq_true] at hl
 obtain ⟨⟨h1, h2⟩, h3⟩ := hl
 refine wp_region_any hmix (wpAny_of_K _ _ (fun _ _ => True) _ _ (planW_ok hng h1 hfit l _ _ (Nat.le_of_ble_eq_true h2) h3 hp ⟨hs.rf, hs.rd, hs.full.drew⟩ ?_ ?_))
 ·intro c hc
  exfalso
  rw [Array.getD_eq_getD_getElem?, Array.getElem?_replicate] at hc
  split at hc <;> simp at hc
 ·intro k hk
  exact .inl fun _ => trivial
end
end Go.Proofs.YtbjaapiliegegaaGreatDoor.Sy
end
