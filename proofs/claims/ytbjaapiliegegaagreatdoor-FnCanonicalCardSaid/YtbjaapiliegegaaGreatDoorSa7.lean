/- Runs over known values: regions that draw their order. -/
import Derived.Test.YtbjaapiliegegaaGreatDoorSa6
namespace Go.Proofs.YtbjaapiliegegaaGreatDoor.Sy
open Go Go.RowKit

/-! ### An operation may be taken first where nobody that may come ahead of it changes what it reads -/
def edges (ops : Array Oper) (j : Nat) : List Nat :=
  match ops[j]? with
  | some o => (o.after.toList.filter (Region.binds .any ·)).map (·.on)
  | none => []

/-- Surely 'j' waits for 'i'. -/
def waits (ops : Array Oper) : Nat → Nat → Nat → Bool
  | 0, _, _ => false
  | n + 1, j, i => (edges ops j).any fun c => c == i || waits ops n c i

def Down (ops : Array Oper) (listed : Array Bool) : Prop :=
  ∀ c, listed.getD c false = true → ∀ d ∈ edges ops c, listed.getD d false = true

theorem waits_no {ops : Array Oper} {listed : Array Bool} (hd : Down ops listed) {i : Nat} (hi : listed.getD i false = false) : ∀ (n j : Nat), (∀ d ∈ edges ops j, listed.getD d false = true) → waits ops n j i = false
  | 0, _, _ => rfl
  | n + 1, j, hj => by
    unfold waits
    rw [List.any_eq_false]
    intro c hc
    have h1 := hj c hc
    have h2 : c ≠ i := by rintro rfl; rw [hi] at h1; cases h1
    have h3 := waits_no hd hi n c (hd c h1)
    simp [h2, h3]

def upd (Y : Nat → World → Prop) (i : Nat) (Z : World → Prop) : Nat → World → Prop := fun k => if k = i then Z else Y k

theorem upd_comm (Y : Nat → World → Prop) {i j : Nat} (h : i ≠ j) (A Z : World → Prop) : upd (upd Y i A) j Z = upd (upd Y j Z) i A := by
  funext k
  unfold upd
  by_cases h1 : k = j
  · subst h1; simp [Ne.symm h]
  · simp [h1]

section
variable {P : Program} {ops : Array Oper} {Q : Exit → Act → World → Prop}

def wpAnyK (P : Program) (ops : Array Oper) (Q : Exit → Act → World → Prop) : Nat → Array Bool → (Nat → World → Prop) → Act → World → Prop
  | 0, listed, _, a, w => Region.ready .any ops listed = [] ∧ Q .normal a w
  | fuel + 1, listed, Y, a, w =>
    (Region.ready .any ops listed = [] → Q .normal a w) ∧
    ∀ j ∈ Region.ready .any ops listed, wpOp P ops Q j (fun a' w' => ∃ Z, (∀ k, listed.getD k false = true → waits ops 3 j k = false → Y k w → Y k w') ∧ wpAnyK P ops Q fuel (listed.setIfInBounds j true) (upd Y j Z) a' w') a w

theorem wpAny_of_K : ∀ (fuel : Nat) (listed : Array Bool) (Y : Nat → World → Prop) (a : Act) (w : World), wpAnyK P ops Q fuel listed Y a w → wpAny P .any ops Q fuel listed a w
  | 0, _, _, _, _, h => h
  | fuel + 1, _, _, _, _, h => ⟨h.1, fun i hi => wpOp_mono (fun _ _ ⟨_, _, h'⟩ => wpAny_of_K fuel _ _ _ _ h') (h.2 i hi)⟩

theorem edges_mem {j : Nat} {o : Oper} (hj : ops[j]? = some o) {d : Nat} : d ∈ edges ops j ↔ ∃ e ∈ o.after, Region.binds .any e = true ∧ e.on = d := by
  unfold edges
  simp only [hj, List.mem_map, List.mem_filter, Array.mem_toList_iff]
  constructor
  · rintro ⟨e, ⟨h1, h2⟩, h3⟩; exact ⟨e, h1, h2, h3⟩
  · rintro ⟨e, h1, h2, h3⟩; exact ⟨e, ⟨h1, h2⟩, h3⟩

theorem getD_listed {listed : Array Bool} {i : Nat} (h : listed.getD i true = false) : listed.getD i false = false := by
  rcases Nat.lt_or_ge i listed.size with h' | h'
  · simp [h'] at h ⊢; exact h
  · simp [Array.getElem?_eq_none h'] at h

theorem getD_size {listed : Array Bool} {i : Nat} (h : listed.getD i true = false) : i < listed.size := by
  rcases Nat.lt_or_ge i listed.size with h' | h'
  · exact h'
  · simp [Array.getElem?_eq_none h'] at h

theorem Down.add {listed : Array Bool} (hd : Down ops listed) {j : Nat} (hj : j ∈ Region.ready .any ops listed) : Down ops (listed.setIfInBounds j true) := by
  intro c hc d hdc
  obtain ⟨_, o, ho, hall⟩ := mem_ready.1 hj
  by_cases hcj : j = c
  · subst hcj
    obtain ⟨e, he, hb, rfl⟩ := (edges_mem ho).1 hdc
    exact getD_set_true (hall e he hb)
  · rw [getD_set_ne false hcj] at hc
    exact getD_set_true (hd c hc d hdc)

theorem wpAnyK_first {i : Nat} {oi : Oper} {v : Value} {S : World → Prop} (hi : ops[i]? = some oi) (hsel : ∀ (j : Nat) (o : Oper) cs b, ops[j]? = some o → o.op ≠ .select cs b)
    (hQ : ∀ c a w, Q (.panic c) (a.put oi.dst v) w → Q (.panic c) a w) :
    ∀ (fuel : Nat) (listed : Array Bool) (Y : Nat → World → Prop) (a : Act) (w : World), Down ops listed →
      (∀ j oj, ops[j]? = some oj → j ≠ i → listed.getD j true = false → (∀ e ∈ oj.after, Region.binds .any e = true → e.on ≠ i) → oi.apart ops oj = true) →
      i ∈ Region.ready .any ops listed → YieldsIf P ops S oi v a → S w →
      wpAnyK P ops Q fuel (listed.setIfInBounds i true) (upd Y i S) (a.put oi.dst v) w → wpAnyK P ops Q (fuel + 1) listed Y a w := by
  intro fuel
  induction fuel with
  | zero =>
    intro listed Y a w _ _ hr hy hS H
    refine ⟨fun h => (by rw [h] at hr; cases hr), fun j hj => ?_⟩
    by_cases hji : j = i
    · subst hji; exact hy.wpOp hi hS ⟨S, fun _ _ _ h => h, H⟩
    · have := ready_mono hj hji
      rw [H.1] at this
      cases this
  | succ fuel ih =>
    intro listed Y a w hd hfree hr hy hS H
    refine ⟨fun h => (by rw [h] at hr; cases hr), fun j hj => ?_⟩
    by_cases hji : j = i
    · subst hji; exact hy.wpOp hi hS ⟨S, fun _ _ _ h => h, H⟩
    · have h1 := H.2 j (ready_mono hj hji)
      obtain ⟨hjun, oj, hoj, hall⟩ := mem_ready.1 hj
      have hiun := (mem_ready.1 hr).1
      have hiun' := getD_listed hiun
      have hnot : ∀ e ∈ oj.after, Region.binds .any e = true → e.on ≠ i := fun e he hb heq => by
        have h1 := hall e he hb
        rw [heq, hiun'] at h1
        cases h1
      have hw : waits ops 3 j i = false := waits_no hd hiun' 3 j fun d hde => by
        obtain ⟨e, he, hb, rfl⟩ := (edges_mem hoj).1 hde
        exact hall e he hb
      have h2 := wpOp_putIf hoj (hfree j oj hoj hji hjun hnot) (fun cs b => hsel i oi cs b hi) (fun cs b => hsel j oj cs b hoj) hQ hy h1
      have hfree' : ∀ k ok, ops[k]? = some ok → k ≠ i → (listed.setIfInBounds j true).getD k true = false →
          (∀ e ∈ ok.after, Region.binds .any e = true → e.on ≠ i) → oi.apart ops ok = true := fun k ok hk hki hun hno => by
        refine hfree k ok hk hki ?_ hno
        by_cases hjk : j = k
        · subst hjk; exact hjun
        · rw [getD_set_ne true hjk] at hun; exact hun
      refine wpOp_mono (fun a' w' h3 => ?_) h2
      obtain ⟨hy', Z, hkeep, hrest⟩ := h3
      refine ⟨Z, fun k hk hwk hYk => ?_, ih (listed.setIfInBounds j true) (upd Y j Z) a' w' (hd.add hj) hfree' (ready_mono hr (Ne.symm hji)) hy' ?_ ?_⟩
      · have hki : k ≠ i := by rintro rfl; rw [hiun'] at hk; cases hk
        have := hkeep k (getD_set_true hk) hwk (by simpa [upd, hki] using hYk)
        simpa [upd, hki] using this
      · have := hkeep i (by simp [getD_size hiun]) hw (by simpa [upd] using hS)
        simpa [upd] using this
      · rw [Array.setIfInBounds_comm _ _ hji, ← upd_comm Y (Ne.symm hji)]
        exact hrest

theorem wpAnyK_done {listed : Array Bool} {Y : Nat → World → Prop} {a : Act} {w : World} (hr : Region.ready .any ops listed = []) (h : Q .normal a w) :
    ∀ fuel, wpAnyK P ops Q fuel listed Y a w
  | 0 => ⟨hr, h⟩
  | _ + 1 => ⟨fun _ => h, by rw [hr]; simp⟩
end

/-! ### A plan for a region -/
/-- Operations that look at no block and do nothing else than yield a value. -/
def still (P : Program) (op : Op) : Bool :=
  match op with
  | .convert _ d _ => match P.underlying d with
    | some (.int _) => true
    | _ => false
  | .move _ | .assign _ | .pick .. | .build .. | .nilCheck _ | .binOp .. | .unOp .. | .makeInterface .. | .makeFunc .. | .slice .. | .fieldAddr .. | .field .. | .indexAddr .. | .index ..
  | .typeAssert .. | .extract .. => true
  | .call { callee := .builtin .cap, .. } | .call { callee := .builtin .len, .. } => true
  | _ => false

def isLoad (op : Op) : Bool :=
  match op with
  | .load .. => true
  | _ => false

/-- A plan: the operations in an order; beside one that does something: which values read earlier have to stand behind it. -/
abbrev Plan := List (Nat × List Nat)

def planOk (P : Program) (ops : Array Oper) : Plan → Array Bool → Bool
  | [], listed => (Region.ready .any ops listed).isEmpty
  | (i, ks) :: l, listed =>
    match ops[i]? with
    | none => false
    | some o =>
      (if still P o.op || isLoad o.op then (Region.ready .any ops listed).contains i && Region.free .any ops listed i
       else (Region.ready .any ops listed) == [i] && (List.range ops.size).all fun k => !listed.getD k false || !((ops[k]?).map (fun o => isLoad o.op)).getD false || waits ops 3 i k || ks.contains k)
      && planOk P ops l (listed.setIfInBounds i true)

def planAll (P : Program) (ops : Array Oper) (l : Plan) : Bool := Region.noSelect ops && Nat.ble l.length ops.size && planOk P ops l (Array.replicate ops.size false)

/-- What was read: by which operation, of which type, where, and what. -/
abbrev Acc := List (Nat × TypeId × Nat × Nat × Value)

section
variable (P : Program)
def keepOne (h : Heap) (k : Nat) : Acc → Prop
  | [] => True
  | (j, t, b, o, v) :: l => (if j = k then aload P h t b o = some v else True) ∧ keepOne h k l

def keeps (acc : Acc) (h : Heap) : List Nat → Prop
  | [] => True
  | k :: ks => keepOne P h k acc ∧ keeps acc h ks
end

section
variable (P : Program) (w0 : World)

def noBlocks : Heap := ⟨0, fun _ => none⟩

def planW (ops : Array Oper) : Plan → Acc → Tm → Df → Heap → (Tm → Df → Heap → Prop) → Prop
  | [], _, tm, df, h, K => K tm df h
  | (i, ks) :: l, acc, tm, df, h, K =>
    match ops[i]? with
    | none => False
    | some o =>
      if still P o.op then
        fork (awanted ops tm o) (got (aop w0.heap.size P tm noBlocks o.op 0) fun out => match out with
          | .val v _ => planW ops l acc (put tm o.dst v) df h K
          | _ => False) (planW ops l acc (put tm o.dst undef) df h K)
      else if isLoad o.op then
        fork (awanted ops tm o) (match o.op with
          | .load t a => match eval tm a with
            | .pointer (some ⟨b, off, none⟩) => got (aload P h t b off) fun v => planW ops l ((i, t, b, off, v) :: acc) (put tm o.dst v) df h K
            | _ => False
          | _ => False) (planW ops l acc (put tm o.dst undef) df h K)
      else oneW P w0 ops o tm df h fun tm df h' => keeps P acc h' ks ∧ planW ops l acc tm df h' K
end
end Go.Proofs.YtbjaapiliegegaaGreatDoor.Sy
