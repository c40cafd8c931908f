/- Of the proof of FnNoBody: Ce1 Ce2. -/
import Derived.Test.YtbjaapiliegegaaGreatDoorCe0
import Derived.WalkKit
import Derived.Lib.FrozenHead
set_option linter.unusedVariables false
set_option linter.unusedSimpArgs false
section
namespace Go.Proofs.YtbjaapiliegegaaGreatDoor.Ce
open Go Go.RowKit
def bt (N b : Nat) : Nat := if b < n0 then b else b - n0 + N
section
variable (N : Nat)
def addr : Option (Nat × Nat) → Option Addr
 | none => none
 | some (b, o) => some ⟨bt N b, o, none⟩
mutual
def RV : AV → Value → Prop
 | .bool b, V => V = .bool b
 | .int k n, V => V = .int k n
 | .str s, V => V = .string ⟨s.toArray⟩
 | .ptr a, V => V = .pointer (addr N a)
 | .slice a n (some c), V => V = .slice (addr N a) n c
 | .slice a n none, V => ∃ c, n ≤ c ∧ V = .slice (addr N a) n c
 | .map r, V => V = .map (r.map (bt N))
 | .func fn f c, V => ∃ F C, V = .func fn F C ∧ RVs f F.toList ∧ RVs c C.toList
 | .nilFunc, V => V = .nilFunc
 | .iface t v, V => ∃ U, V = .iface t U ∧ RV v U
 | .nilIface, V => V = .nilIface
 | .agg cs, V => ∃ C, V = .agg C ∧ RVs cs C.toList
 | .tuple vs, V => ∃ C, V = .tuple C ∧ RVs vs C.toList
 | .empty, V => ∃ a c, V = .slice a 0 c
 | .any, _ => True
def RVs : List AV → List Value → Prop
 | [], Vs => Vs = []
 | v :: vs, Vs => ∃ W Ws, Vs = W :: Ws ∧ RV v W ∧ RVs vs Ws
end
def RE : List (AV × AV × Nat) → List MapEntry → Prop
 | [], Es => Es = []
 | (k, v, b) :: es, Es => ∃ E Es', Es = E :: Es' ∧ RV N k E.key ∧ RV N v E.val ∧ E.born = b ∧ RE es Es'
def RO : AO → Obj → Prop
 | .cells c e lo hi, O => ∃ C, O = .cells C e (lo, hi) ∧ RVs N c C.toList
 | .more c e, O => ∃ C fz D, O = .cells C e fz ∧ RVs N c D ∧ ∃ D', C.toList = D ++ D'
 | .map es clock, O => ∃ E, O = .map E clock ∧ RE N es E.toList
 | .iter m since seen st, O => O = .mapIter (m.map (bt N)) since seen.toArray st
 | .part c, O => ∃ C e fz, O = .cells C e fz ∧ ∀ o v, look c o = some v → ∃ V, C[o]? = some V ∧ RV N v V
 | .unk, _ => True
def Den (h : Heap) (w : World) : Prop := ∀ b o, h.at b = some o → b < h.n ∧ ∃ O, w.heap[bt N b]? = some O ∧ RO N o O
structure Full (w0 : World) (h : Heap) (w : World) : Prop where
 den : Den N h w
 ge : n0 ≤ h.n
 size : w.heap.size = h.n - n0 + N
 below : Below N w0 w
structure RF (nt : Nat) (tm : Tm) (T : Array Value) : Prop where
 size : T.size = nt
 at_ : ∀ t, RV N (tget tm t) (T.getD t undef)
end
section
variable {N : Nat}
theorem RV_nil : RV N nil undef := ⟨#[], rfl, rfl⟩
theorem RVs_length : ∀ {vs : List AV} {Vs : List Value}, RVs N vs Vs → vs.length = Vs.length
 | [], _, h => by rw [show _ = [] from h]; rfl
 | _ :: _, _, ⟨_, _, e, _, h⟩ => by rw [e]; simp [RVs_length h]
theorem RVs_get : ∀ {vs : List AV} {Vs : List Value}, RVs N vs Vs → ∀ {i : Nat} {v : AV}, vs[i]? = some v → ∃ V, Vs[i]? = some V ∧ RV N v V
 | [], _, _, i, v, e => by simp at e
 | x :: xs, _, ⟨W, Ws, e, h, hs⟩, 0, v, ev => by subst e; simp at ev; subst ev; exact ⟨W, by simp, h⟩
 | x :: xs, _, ⟨W, Ws, e, h, hs⟩, i + 1, v, ev => by subst e; simpa using RVs_get hs (i := i) (by simpa using ev)
theorem RVs_append : ∀ {vs us : List AV} {Vs Us : List Value}, RVs N vs Vs → RVs N us Us → RVs N (vs ++ us) (Vs ++ Us)
 | [], us, Vs, Us, h, hu => by rw [show Vs = [] from h]; exact hu
 | _ :: _, us, Vs, Us, ⟨W, Ws, e, h, hs⟩, hu => by subst e; exact ⟨W, Ws ++ Us, rfl, h, RVs_append hs hu⟩
theorem RVs_takeN : ∀ {n : Nat} {vs r : List AV} {Vs : List Value}, RVs N vs Vs → takeN n vs = some r → n ≤ Vs.length ∧ RVs N r (Vs.take n)
 | 0, _, r, Vs, _, e => by simp [takeN] at e; subst e; exact ⟨Nat.zero_le _, by simp [RVs]⟩
 | n + 1, [], r, Vs, _, e => by simp [takeN] at e
 | n + 1, v :: l, r, Vs, ⟨W, Ws, eV, h, hs⟩, e => by
  subst eV
  simp only [takeN] at e
  cases hq : takeN n l with
  | none => rw [hq] at e; cases e
  | some q =>
   rw [hq] at e
   injection e with e
   subst e
   obtain ⟨h1, h2⟩ := RVs_takeN hs hq
   exact ⟨by simpa using h1, W, Ws.take n, by simp, h, h2⟩
theorem RVs_dropN : ∀ {n : Nat} {vs : List AV} {Vs : List Value}, RVs N vs Vs → RVs N (dropN n vs) (Vs.drop n)
 | 0, _, _, h => by simpa [dropN] using h
 | n + 1, [], Vs, h => by rw [show Vs = [] from h]; simp [dropN, RVs]
 | n + 1, _ :: l, _, ⟨W, Ws, e, _, hs⟩ => by subst e; simpa [dropN] using RVs_dropN hs
theorem RVs_take : ∀ {n : Nat} {vs : List AV} {Vs : List Value}, RVs N vs Vs → RVs N (vs.take n) (Vs.take n)
 | 0, _, _, _ => by simp [RVs]
 | n + 1, [], Vs, h => by rw [show Vs = [] from h]; simp [RVs]
 | n + 1, _ :: l, _, ⟨W, Ws, e, h, hs⟩ => by subst e; exact ⟨W, Ws.take n, by simp, h, RVs_take hs⟩
theorem RVs_drop : ∀ {n : Nat} {vs : List AV} {Vs : List Value}, RVs N vs Vs → RVs N (vs.drop n) (Vs.drop n)
 | 0, _, _, h => by simpa using h
 | n + 1, [], Vs, h => by rw [show Vs = [] from h]; simp [RVs]
 | n + 1, _ :: l, _, ⟨W, Ws, e, _, hs⟩ => by subst e; simpa using RVs_drop hs
theorem RVs_splice : ∀ {c vs r : List AV} {o : Nat} {C Vs : List Value}, splice c o vs = some r → RVs N c C → RVs N vs Vs →
  o + Vs.length ≤ C.length ∧ RVs N r (C.take o ++ Vs ++ C.drop (o + Vs.length)) := by
 intro c
 induction c with
 | nil =>
  intro vs r o C Vs e hc hv
  cases o with
  | zero =>
   cases vs with
   | nil =>
    simp [splice] at e
    subst e
    rw [show Vs = [] from hv, show C = [] from hc]
    simp [RVs]
   | cons v vs => simp [splice] at e
  | succ o => simp [splice] at e
 | cons x c ih =>
  intro vs r o C Vs e hc hv
  obtain ⟨W, Ws, eC, hx, hs⟩ := hc
  subst eC
  cases o with
  | zero =>
   cases vs with
   | nil =>
    simp [splice] at e
    subst e
    rw [show Vs = [] from hv]
    exact ⟨by simp, W, Ws, by simp, hx, hs⟩
   | cons v vs =>
    obtain ⟨U, Us, eV, hu, hus⟩ := hv
    subst eV
    simp only [splice] at e
    cases hq : splice c 0 vs with
    | none => rw [hq] at e; cases e
    | some q =>
     rw [hq] at e
     injection e with e
     subst e
     obtain ⟨h1, h2⟩ := ih hq hs hus
     refine ⟨by simpa using h1, U, _, ?_, hu, h2⟩
     simp
  | succ o =>
   simp only [splice] at e
   cases hq : splice c o vs with
   | none => rw [hq] at e; cases e
   | some q =>
    rw [hq] at e
    injection e with e
    subst e
    obtain ⟨h1, h2⟩ := ih hq hs hv
    refine ⟨by simp; omega, W, _, ?_, hx, h2⟩
    simp [Nat.add_right_comm]
theorem RVs_replicate {v : AV} {V : Value} (h : RV N v V) : ∀ n, RVs N (List.replicate n v) (List.replicate n V)
 | 0 => by simp [RVs]
 | n + 1 => ⟨V, List.replicate n V, by simp [List.replicate_succ], h, RVs_replicate h n⟩
theorem single_one {v : AV} {V : Value} (h : RV N v V) (hs : single v = true) : V.oneCell' = true := by
 cases v
 case slice a n c => cases c <;> simp only [RV] at h <;> first | (subst h; rfl) | (obtain ⟨c, _, rfl⟩ := h; rfl)
 case agg => simp [single] at hs
 case tuple => simp [single] at hs
 case any => simp [single] at hs
 all_goals first
  | (simp only [RV] at h; subst h; rfl)
  | (obtain ⟨_, _, rfl, _⟩ := h; rfl)
  | (obtain ⟨_, rfl, _⟩ := h; rfl)
  | (obtain ⟨_, _, rfl⟩ := h; rfl)
theorem singles_one : ∀ {vs : List AV} {Vs : List Value}, RVs N vs Vs → singles vs = true → ∀ V ∈ Vs, V.oneCell' = true
 | [], Vs, h, _, V, hV => by rw [show Vs = [] from h] at hV; cases hV
 | v :: vs, Vs, ⟨W, Ws, e, h, hs⟩, hb, V, hV => by
  subst e
  simp only [singles, Bool.and_eq_true] at hb
  rcases List.mem_cons.1 hV with rfl | hV
  ·exact single_one h hb.1
  ·exact singles_one hs hb.2 V hV
theorem cellsOf_RV {v : AV} {V : Value} (h : RV N v V) (ha : v ≠ .any) : RVs N (cellsOf v) V.cells.toList := by
 have one : ∀ {U : Value}, RV N v U → RVs N [v] [U] := fun h => ⟨_, [], rfl, h, rfl⟩
 cases v <;> simp only [cellsOf]
 case agg cs => obtain ⟨C, rfl, hc⟩ := h; exact hc
 case any => exact absurd rfl ha
 case slice a n c => cases c <;> simp only [RV] at h <;> first | (subst h; exact one rfl) | (obtain ⟨c, hc, rfl⟩ := h; exact one ⟨c, hc, rfl⟩)
 case func fn f c => obtain ⟨F, C, rfl, h⟩ := h; exact one ⟨F, C, rfl, h⟩
 case iface t v => obtain ⟨U, rfl, h⟩ := h; exact one ⟨U, rfl, h⟩
 case tuple vs => obtain ⟨C, rfl, h⟩ := h; exact one ⟨C, rfl, h⟩
 case empty => obtain ⟨a, c, rfl⟩ := h; exact one ⟨a, c, rfl⟩
 all_goals (simp only [RV] at h; subst h; exact one rfl)
theorem ofVal_RV {V : Value} {v : AV} (e : ofVal V = some v) : RV N v V := by
 cases V <;> simp only [ofVal] at e
 case pointer a => cases a <;> first | (cases e; rfl) | cases e
 case slice a n c => cases a <;> first | (cases e; rfl) | cases e
 case map r => cases r <;> first | (cases e; rfl) | cases e
 case func fn f c =>
  split at e
  ·rename_i h
   cases e
   obtain ⟨h1, h2⟩ := h
   exact ⟨f, c, rfl, by rw [Array.eq_empty_of_size_eq_zero h1]; rfl, by rw [Array.eq_empty_of_size_eq_zero h2]; rfl⟩
  ·cases e
 case tuple vs =>
  split at e
  ·rename_i h
   cases e
   exact ⟨vs, rfl, by rw [Array.eq_empty_of_size_eq_zero h]; rfl⟩
  ·cases e
 case string s => cases e; exact congrArg Value.string (by cases s; simp)
 all_goals first | (cases e; rfl) | cases e
theorem ofVals_RV : ∀ {Vs : List Value} {vs : List AV}, ofVals Vs = some vs → RVs N vs Vs
 | [], vs, e => by simp [ofVals] at e; subst e; rfl
 | V :: Vs, vs, e => by
  simp only [ofVals] at e
  split at e
  ·rename_i x xs h1 h2
   cases e
   exact ⟨V, Vs, rfl, ofVal_RV h1, ofVals_RV h2⟩
  ·cases e
theorem ofZero_RV {V : Value} {v : AV} (e : ofZero V = some v) : RV N v V := by
 cases V <;> simp only [ofZero] at e
 case agg cs =>
  split at e
  ·rename_i xs h
   cases e
   exact ⟨cs, rfl, ofVals_RV h⟩
  ·cases e
 all_goals exact ofVal_RV e
theorem ofVal_any {V : Value} {v : AV} (e : ofVal V = some v) : v ≠ .any := by
 rintro rfl
 cases V <;> simp only [ofVal] at e
 case pointer a => cases a <;> cases e
 case slice a n c => cases a <;> cases e
 case map r => cases r <;> cases e
 all_goals first | cases e | (split at e <;> cases e)
theorem ofZero_any {V : Value} {v : AV} (e : ofZero V = some v) : v ≠ .any := by
 cases V <;> simp only [ofZero] at e
 case agg cs => split at e <;> cases e <;> simp
 all_goals exact ofVal_any e
theorem aeval_RV {nt : Nat} {tm : Tm} {T : Array Value} {ds : List Deferred} (hF : RF N nt tm T) {x : Operand} {v : AV} (e : aeval tm x = some v) : RV N v ((⟨T, ds⟩ : Act).eval x) := by
 cases x with
 | tmp t => simp only [aeval] at e; cases e; exact hF.at_ t
 | const V => exact ofVal_RV e
 | global g =>
  simp only [aeval] at e
  split at e
  ·rename_i hg
   cases e
   show Value.pointer _ = Value.pointer _
   simp [addr, bt, hg]
  ·cases e
 | func f => simp only [aeval] at e; cases e; exact ⟨#[], #[], rfl, rfl, rfl⟩
theorem aevals_RV {nt : Nat} {tm : Tm} {T : Array Value} {ds : List Deferred} (hF : RF N nt tm T) : ∀ {xs : List Operand} {vs : List AV}, aevals tm xs = some vs → RVs N vs (xs.map (⟨T, ds⟩ : Act).eval)
 | [], vs, e => by simp [aevals] at e; subst e; rfl
 | x :: xs, vs, e => by
  simp only [aevals] at e
  split at e
  ·rename_i v vs' h1 h2
   cases e
   exact ⟨_, _, rfl, aeval_RV hF h1, aevals_RV hF h2⟩
  ·cases e
theorem beq_false_of_ne {a b : Nat} (h : a ≠ b) : Nat.beq a b = false := by
 cases hb : Nat.beq a b with
 | false => rfl
 | true => exact absurd (Nat.eq_of_beq_eq_true hb) h
theorem RF.put {nt : Nat} {tm : Tm} {T : Array Value} {ds : List Deferred} (hF : RF N nt tm T) {d : Option Tmp} {v : AV} {V : Value} (hv : RV N v V) (hf : fits nt d = true) :
  RF N nt (Ce.put tm d v) (((⟨T, ds⟩ : Act).put d V).tmps) := by
 cases d with
 | none => exact hF
 | some t =>
  have ht : t < nt := by simpa [fits] using hf
  refine ⟨by simp [Act.put, hF.size], fun u => ?_⟩
  have hs := hF.size
  by_cases hu : t = u
  ·subst hu
   simp only [Ce.put, tget, look, Nat.beq_refl, Act.put]
   simpa [hs, ht] using hv
  ·have : Nat.beq t u = false := beq_false_of_ne hu
   have h1 := hF.at_ u
   simp only [Ce.put, tget, look, this, Act.put] at h1 ⊢
   rw [show (T.setIfInBounds t V).getD u undef = T.getD u undef by simp [Array.getElem?_setIfInBounds_ne hu]]
   exact h1
theorem slots_at : ∀ {vs : List AV} {Vs : List Value} (k : Nat), RVs N vs Vs → ∀ t, RV N (tget (slots k vs) t) (if k ≤ t then Vs.getD (t - k) undef else undef)
 | [], Vs, k, h, t => by
  rw [show Vs = [] from h]
  simp only [slots, tget, look]
  split <;> exact RV_nil
 | v :: vs, Vs, k, ⟨W, Ws, e, h, hs⟩, t => by
  subst e
  have ih := slots_at (k + 1) hs t
  by_cases hk : k = t
  ·subst hk
   simp only [slots, tget, look, Nat.beq_refl]
   simpa using h
  ·have hb : Nat.beq k t = false := beq_false_of_ne hk
   simp only [slots, tget, look, hb] at ih ⊢
   by_cases hl : k + 1 ≤ t
   ·rw [if_pos hl] at ih
    rw [if_pos (by omega)]
    rw [show t - k = (t - (k + 1)) + 1 by omega, List.getD_cons_succ]
    exact ih
   ·rw [if_neg hl] at ih
    rw [if_neg (by omega)]
    exact ih
theorem RF.start {vs : List AV} {Vs : List Value} {n : Nat} (h : RVs N vs Vs) : RF N (Nat.max n vs.length) (slots 0 vs) (Vs.toArray ++ Array.replicate (n - Vs.toArray.size) undef) := by
 have hl := RVs_length h
 refine ⟨?_, fun t => ?_⟩
 ·simp only [Array.size_append, List.size_toArray, Array.size_replicate, hl]
  show _ = max n Vs.length
  omega
 ·have h1 := slots_at 0 h t
  simp only [Nat.zero_le, if_true, Nat.sub_zero] at h1
  have : (Vs.toArray ++ Array.replicate (n - Vs.toArray.size) undef).getD t undef = Vs.getD t undef := by
   rw [Array.getD_eq_getD_getElem?, List.getD_eq_getElem?_getD, Array.getElem?_append]
   by_cases ht : t < Vs.length
   ·rw [if_pos (by simpa using ht)]; simp
   ·rw [if_neg (by simpa using ht), List.getElem?_eq_none (by omega), Array.getElem?_replicate]
    split <;> rfl
  rw [this]
  exact h1
theorem at_put (h : Heap) (b : Nat) (o : AO) (c : Nat) : (h.put b o).at c = if b = c then some o else h.at c := by
 simp only [Heap.at, Heap.put, look]
 by_cases e : b = c
 ·subst e; simp
 ·rw [beq_false_of_ne e, if_neg e]
theorem at_new (h : Heap) (o : AO) (c : Nat) : (h.new o).at c = if h.n = c then some o else h.at c := by
 simp only [Heap.at, Heap.new, look]
 by_cases e : h.n = c
 ·subst e; simp
 ·rw [beq_false_of_ne e, if_neg e]
theorem bt_lt {b : Nat} (h : b < n0) : bt N b = b := by simp [bt, h]
theorem bt_ge {b : Nat} (h : n0 ≤ b) : bt N b = b - n0 + N := by simp [bt, Nat.not_lt.2 h]
theorem bt_ne {b c : Nat} (hN : n0 ≤ N) (hb : n0 ≤ b) (hne : b ≠ c) : bt N c ≠ bt N b := by
 rw [bt_ge hb]
 by_cases hc : c < n0
 ·rw [bt_lt hc]; omega
 ·rw [bt_ge (by omega)]; omega
theorem add_at (b o j : Nat) : (⟨b, o, none⟩ : Addr).add j = ⟨b, o + j, none⟩ := by
 unfold Addr.add
 split
 ·subst j; rfl
 ·rfl
theorem cell_in {w : World} {b o : Nat} {C : Array Value} {e : TypeId} {fz : Nat × Nat} (h : w.heap[b]? = some (.cells C e fz)) : w.cell? ⟨b, o, none⟩ = C[o]? := by
 simp [World.cell?, h]
theorem cellAt_ok {h : Heap} {w : World} (hD : Den N h w) {b o : Nat} {v : AV} (e : cellAt h b o = some v) : ∃ V, w.cell? ⟨bt N b, o, none⟩ = some V ∧ RV N v V := by
 unfold cellAt at e
 cases ha : h.at b with
 | none => rw [ha] at e; cases e
 | some q =>
  rw [ha] at e
  obtain ⟨_, O, hO, hR⟩ := hD b q ha
  cases q <;> simp only at e
  case cells c el lo hi =>
   obtain ⟨C, rfl, hc⟩ := hR
   obtain ⟨V, hV, hr⟩ := RVs_get hc e
   exact ⟨V, by rw [cell_in hO]; simpa using hV, hr⟩
  case more c el =>
   obtain ⟨C, fz, D, rfl, hc, D', hDD⟩ := hR
   obtain ⟨V, hV, hr⟩ := RVs_get hc e
   refine ⟨V, ?_, hr⟩
   rw [cell_in hO, ← Array.getElem?_toList, hDD]
   exact List.getElem?_append_left (List.getElem?_eq_some_iff.1 hV).1 ▸ hV
  case part c =>
   obtain ⟨C, el, fz, rfl, hc⟩ := hR
   obtain ⟨V, hV, hr⟩ := hc _ _ e
   exact ⟨V, by rw [cell_in hO]; exact hV, hr⟩
  all_goals cases e
theorem loadN_ok {h : Heap} {w : World} (hD : Den N h w) {b o n : Nat} {vs : List AV} (e : loadN h b o n = some vs) :
  ∃ Vs, RVs N vs Vs ∧ Vs.length = n ∧ ∀ j V, Vs[j]? = some V → w.cell? ⟨bt N b, o + j, none⟩ = some V := by
 unfold loadN at e
 cases ha : h.at b with
 | none => rw [ha] at e; cases e
 | some q =>
  rw [ha] at e
  obtain ⟨_, O, hO, hR⟩ := hD b q ha
  cases q <;> simp only at e
  case cells c el lo hi =>
   obtain ⟨C, rfl, hc⟩ := hR
   obtain ⟨h1, h2⟩ := RVs_takeN (RVs_dropN (n := o) hc) e
   refine ⟨_, h2, by simp at h1 ⊢; omega, fun j V hV => ?_⟩
   rw [List.getElem?_take] at hV
   split at hV
   ·rw [cell_in hO, ← Array.getElem?_toList]; simpa using hV
   ·cases hV
  case more c el =>
   obtain ⟨C, fz, D, rfl, hc, D', hDD⟩ := hR
   obtain ⟨h1, h2⟩ := RVs_takeN (RVs_dropN (n := o) hc) e
   refine ⟨_, h2, by simp at h1 ⊢; omega, fun j V hV => ?_⟩
   rw [List.getElem?_take] at hV
   split at hV
   ·rw [cell_in hO, ← Array.getElem?_toList, hDD]
    have hV' : D[o + j]? = some V := by simpa using hV
    rw [List.getElem?_append_left (List.getElem?_eq_some_iff.1 hV').1]
    exact hV'
   ·cases hV
  case part c =>
   obtain ⟨C, el, fz, rfl, hc⟩ := hR
   have key : ∀ (n o : Nat) (vs : List AV), loadP c o n = some vs → ∃ Vs, RVs N vs Vs ∧ Vs.length = n ∧ ∀ j V, Vs[j]? = some V → w.cell? ⟨bt N b, o + j, none⟩ = some V := by
    intro n
    induction n with
    | zero => intro o vs e; simp [loadP] at e; subst e; exact ⟨[], rfl, rfl, fun j V hV => by simp at hV⟩
    | succ n ih =>
     intro o vs e
     simp only [loadP] at e
     split at e
     ·rename_i v us h1 h2
      cases e
      obtain ⟨V, hV, hr⟩ := hc _ _ h1
      obtain ⟨Vs, hrs, hl, hcs⟩ := ih _ _ h2
      refine ⟨V :: Vs, ⟨V, Vs, rfl, hr, hrs⟩, by simp [hl], fun j U hU => ?_⟩
      cases j with
      | zero => simp at hU; subst hU; rw [cell_in hO]; exact hV
      | succ j =>
       have := hcs j U (by simpa using hU)
       rw [show o + (j + 1) = o + 1 + j by omega]
       exact this
     ·cases e
   exact key _ _ _ e
  all_goals cases e
theorem run_loadN {P : Program} {w : World} {b o n : Nat} {Vs : List Value} (hl : Vs.length = n) (hc : ∀ j V, Vs[j]? = some V → w.cell? ⟨b, o + j, none⟩ = some V) :
  (loadCells ⟨b, o, none⟩ n).run P w = .ok Vs.toArray w := by
 have := run_loadCells_list (P := P) w ⟨b, o, none⟩ Vs (fun j V hV => by rw [add_at]; exact hc j V hV)
 rwa [hl] at this
theorem Full.new {w0 : World} {h : Heap} {w : World} (hF : Full N w0 h w) (hN : N = w0.heap.size) {o : AO} {O : Obj} (hR : RO N o O) :
  Full N w0 (h.new o) (w.alloc O) ∧ bt N h.n = w.heap.size := by
 have hb : bt N h.n = w.heap.size := by rw [bt_ge hF.ge, hF.size]
 refine ⟨⟨fun b q e => ?_, Nat.le_succ_of_le hF.ge, ?_, hF.below.alloc (by rw [hF.size]; omega) O⟩, hb⟩
 ·rw [at_new] at e
  split at e
  ·rename_i hbe
   subst hbe
   cases e
   refine ⟨Nat.lt_succ_self _, O, ?_, hR⟩
   rw [hb]
   exact heap_alloc_new w O
  ·obtain ⟨hlt, O', hO', hR'⟩ := hF.den b q e
   refine ⟨Nat.lt_succ_of_lt hlt, O', ?_, hR'⟩
   have hlt' : bt N b < w.heap.size := (Array.getElem?_eq_some_iff.1 hO').1
   rw [Below.heap_alloc w O _ hlt']
   exact hO'
 ·have := hF.size
  have hg := hF.ge
  show (w.heap.push O).size = h.n + 1 - n0 + N
  simp only [Array.size_push]
  omega
theorem Full.turn {w0 : World} {h : Heap} {w w' : World} (hF : Full N w0 h w) (hN : n0 ≤ N) {b : Nat} (hb : n0 ≤ b) (hlt : b < h.n) {o : AO} {O : Obj}
  (hO : w'.heap[bt N b]? = some O) (hR : RO N o O) (hs : w'.heap.size = w.heap.size) (hk : ∀ k, k ≠ bt N b → w'.heap[k]? = w.heap[k]?)
  (h1 : w'.os = w.os) (h2 : w'.tape = w.tape) (h3 : w'.output = w.output) : Full N w0 (h.put b o) w' := by
 refine ⟨fun c q e => ?_, hF.ge, by rw [hs]; exact hF.size, ?_⟩
 ·rw [at_put] at e
  split at e
  ·rename_i hbc
   subst hbc
   cases e
   exact ⟨hlt, O, hO, hR⟩
  ·rename_i hbc
   obtain ⟨hl, O', hO', hR'⟩ := hF.den c q e
   exact ⟨hl, O', by rw [hk _ (bt_ne hN hb hbc)]; exact hO', hR'⟩
 ·refine hF.below.trans ⟨h1, h2, h3, by omega, fun k hkN => hk k ?_⟩
  rw [bt_ge hb]
  omega
theorem setN_ok {P : Program} {w0 : World} {h : Heap} {w : World} (hF : Full N w0 h w) (hN : n0 ≤ N) {b o : Nat} {vs : List AV} {Vs : List Value} {h' : Heap} (e : setN h b o vs = some h') (hv : RVs N vs Vs) :
  ∃ w', (storeCells ⟨bt N b, o, none⟩ Vs).run P w = .ok () w' ∧ Full N w0 h' w' := by
 unfold setN at e
 split at e
 ·cases e
 rename_i hb
 cases ha : h.at b with
 | none => rw [ha] at e; cases e
 | some q =>
  rw [ha] at e
  cases q <;> simp only at e
  case cells c el lo hi =>
   split at e
   ·rename_i hs
    simp only [Bool.and_eq_true, decide_eq_true_eq] at hs
    split at e
    ·rename_i c' hsp
     cases e
     obtain ⟨hlt, O, hO, C, rfl, hc⟩ := hF.den b _ ha
     obtain ⟨h1, h2⟩ := RVs_splice hsp hc hv
     have hrun := run_storeCells_atF P (bt N b) o el (lo, hi) Vs 0 C w hO (by simpa using hs.2) (by simpa using h1) (singles_one hv hs.1)
     refine ⟨_, hrun, hF.turn hN (by omega) hlt (setRow_heap w _ C _ el _ hO) ⟨_, rfl, by simpa using h2⟩ (by simp) (fun k hk => setRow_other w _ k _ hk) rfl rfl rfl⟩
    ·cases e
   ·cases e
  all_goals cases e
end
end Go.Proofs.YtbjaapiliegegaaGreatDoor.Ce
end
section
namespace Go.Proofs.YtbjaapiliegegaaGreatDoor.Ce
open Go Go.RowKit
section
variable {N : Nat} {P : Program}
theorem aggT_run {t : TypeId} {b : Bool} (e : aggT P t = some b) (w : World) : (isAgg t).run P w = .ok b w := by
 unfold aggT at e
 split at e <;> cases e
 ·rename_i h; simp [isAgg, run_underlying h]
 ·rename_i h; simp [isAgg, run_underlying h]
 ·rename_i d hd h h'
  rw [isAgg]
  simp only [Sem.run_bind, run_underlying h', Result.andThen_ok]
  cases d <;> first | rfl | exact absurd rfl (hd _) | exact absurd rfl (h _ _)
theorem size_run {t : TypeId} {i : TypeInfo} (e : P.info? t = some i) (w : World) : (sizeOf t).run P w = .ok i.size w := by
 simp [sizeOf, typeInfo, e]
theorem info_run {t : TypeId} {i : TypeInfo} (e : P.info? t = some i) (w : World) : (typeInfo t).run P w = .ok i w := by
 simp [typeInfo, e]
theorem azero_run {t : TypeId} {z : AV} (e : azero P t = some z) (w : World) : ∃ Z, (zeroValue t).run P w = .ok Z w ∧ RV N z Z ∧ z ≠ .any := by
 unfold azero at e
 split at e
 ·rename_i i hi
  split at e
  ·rename_i Z hz
   exact ⟨Z, by simp [zeroValue, info_run hi, hz], ofZero_RV e, ofZero_any e⟩
  ·cases e
 ·cases e
theorem aload_ok {h : Heap} {w : World} (hD : Den N h w) {t : TypeId} {b o : Nat} {v : AV} (e : aload P h t b o = some v) :
  ∃ V, (loadVar t ⟨bt N b, o, none⟩).run P w = .ok V w ∧ RV N v V := by
 unfold aload at e
 split at e
 ·rename_i i ha hi
  split at e
  ·rename_i cs hl
   cases e
   obtain ⟨Vs, hr, hlen, hc⟩ := loadN_ok hD hl
   refine ⟨.agg Vs.toArray, ?_, Vs.toArray, rfl, by simpa using hr⟩
   simp [loadVar, aggT_run ha, size_run hi, run_loadN hlen hc]
  ·cases e
 ·rename_i i ha
  obtain ⟨V, hV, hr⟩ := cellAt_ok hD e
  refine ⟨V, ?_, hr⟩
  simp [loadVar, aggT_run ha, hV]
 ·cases e
theorem meth_run {t : TypeId} {name : String} {f : FuncId} {b : Bool} (e : ameth P t name = some (f, b)) :
  ∃ i m, P.info? t = some i ∧ i.methods.find? (·.name == name) = some m ∧ m.path.toList = [] ∧ m.func = some (f, b) := by
 unfold ameth at e
 split at e
 ·rename_i i hi
  split at e
  ·rename_i m hm
   split at e
   ·rename_i hp
    exact ⟨i, m, hi, hm, by simpa using hp, e⟩
   ·cases e
  ·cases e
 ·cases e
theorem amethod_run {t : TypeId} {v : AV} {V : Value} {name : String} {f : FuncId} {r : AV} (e : amethod P t v name = some (f, r)) (n : Nat) (w : World) :
  (method (n + 1) t V name).run P w = .ok (f, V) w ∧ r = v := by
 unfold amethod at e
 split at e <;> first | cases e | skip
 all_goals
  rename_i hu hm
  obtain ⟨i, m, hi, hf, hp, hfn⟩ := meth_run hm
  simp [method, info_run hi, hf, hp, follow, hfn, receiverAt, run_underlying hu, Place.get]
theorem bytes_beq (a b : List UInt8) : ((⟨a.toArray⟩ : ByteArray) == ⟨b.toArray⟩) = (a == b) := by
 show (a.toArray == b.toArray) = (a == b)
 simp
theorem equal_ok {w : World} : ∀ (d k : Nat) {t : TypeId} {x y : AV} {r : Bool} {X Y : Value}, aequal P d t x y = some r → RV N x X → RV N y Y →
  (Op.equalIn (d + k) t X Y).run P w = .ok r w := by
 intro d
 induction d with
 | zero => intro k t x y r X Y e; simp [aequal] at e
 | succ d ih =>
  intro k t x y r X Y e hx hy
  rw [show d + 1 + k = (d + k) + 1 by omega]
  unfold aequal at e
  split at e <;> first | cases e | skip
  case _ hu => rw [show X = _ from hx, show Y = _ from hy]; simp [Op.equalIn, run_underlying hu]
  case _ hu =>
   rw [show X = _ from hx, show Y = _ from hy]
   split at e
   ·rename_i hk; cases e; subst hk; simp [Op.equalIn, run_underlying hu]
   ·cases e
  case _ hu => rw [show X = _ from hx, show Y = _ from hy]; simp [Op.equalIn, run_underlying hu, bytes_beq]
  case _ b hu =>
   rw [show X = _ from hx, show Y = _ from hy]
   cases b <;> simp [Op.equalIn, run_underlying hu, addr]
  case _ hu => rw [show X = _ from hx, show Y = _ from hy]; simp [Op.equalIn, run_underlying hu, addr]
  case _ hu => rw [show X = _ from hx, show Y = _ from hy]; simp [Op.equalIn, run_underlying hu]
  case _ hu => obtain ⟨U, rfl, _⟩ := hy; rw [show X = _ from hx]; simp [Op.equalIn, run_underlying hu]
  case _ hu => obtain ⟨U, rfl, _⟩ := hx; rw [show Y = _ from hy]; simp [Op.equalIn, run_underlying hu]
  case _ tx vx ty vy hu =>
   obtain ⟨U, rfl, hU⟩ := hx
   obtain ⟨V, rfl, hV⟩ := hy
   split at e
   ·rename_i hne; cases e; simp [Op.equalIn, run_underlying hu, hne]
   ·rename_i heq
    have heq' : tx = ty := by simpa using heq
    subst heq'
    split at e
    ·rename_i i hi
     split at e
     ·rename_i hc
      have := ih k e hU hV
      simp [Op.equalIn, run_underlying hu, info_run hi, hc, this]
     ·cases e
    ·cases e
  case _ n c b m c' hu =>
   have hX : ∃ c, X = .slice none n c := by cases c <;> simp only [RV] at hx <;> first | exact ⟨_, hx⟩ | exact ⟨_, hx.choose_spec.2⟩
   have hY : ∃ c, Y = .slice (addr N b) m c := by cases c' <;> simp only [RV] at hy <;> first | exact ⟨_, hy⟩ | exact ⟨_, hy.choose_spec.2⟩
   obtain ⟨_, rfl⟩ := hX
   obtain ⟨_, rfl⟩ := hY
   cases b <;> simp [Op.equalIn, run_underlying hu, addr]
  case _ p n c m c' hu =>
   have hX : ∃ c, X = .slice (addr N (some p)) n c := by cases c <;> simp only [RV] at hx <;> first | exact ⟨_, hx⟩ | exact ⟨_, hx.choose_spec.2⟩
   have hY : ∃ c, Y = .slice none m c := by cases c' <;> simp only [RV] at hy <;> first | exact ⟨_, hy⟩ | exact ⟨_, hy.choose_spec.2⟩
   obtain ⟨_, rfl⟩ := hX
   obtain ⟨_, rfl⟩ := hY
   simp [Op.equalIn, run_underlying hu, addr]
  case _ b hu => rw [show X = _ from hx, show Y = _ from hy]; cases b <;> simp [Op.equalIn, run_underlying hu]
  case _ hu => rw [show X = _ from hx, show Y = _ from hy]; simp [Op.equalIn, run_underlying hu]
  case _ hu => rw [show X = _ from hx, show Y = _ from hy]; simp [Op.equalIn, run_underlying hu]
  case _ hu => obtain ⟨F, C, rfl, _⟩ := hy; rw [show X = _ from hx]; simp [Op.equalIn, run_underlying hu]
  case _ hu => obtain ⟨F, C, rfl, _⟩ := hx; rw [show Y = _ from hy]; simp [Op.equalIn, run_underlying hu]
theorem equal_run {w : World} {t : TypeId} {x y : AV} {r : Bool} {X Y : Value} (e : aequal P 4 t x y = some r) (hx : RV N x X) (hy : RV N y Y) :
  (Op.equal t X Y).run P w = .ok r w := by
 have := equal_ok (w := w) 4 9996 e hx hy
 exact this
theorem guard_ok {w : World} {op : BinOp} {t : TypeId} {x y : Operand} {a b : AV} {A B : Value} (e : guardOk op x y a b = true) (ha : RV N a A) (hb : RV N b B) :
  (eqGuard op t x y A B).run P w = .ok () w := by
 have hA : ∀ {a : AV} {A : Value}, RV N a A → A = .nilIface → a = .nilIface ∨ a = .any := by
  intro a A h e
  subst e
  cases a <;> simp [RV] at h ⊢
  case slice x n c => cases c <;> simp [RV] at h
 have hG : ∀ {a : AV} {A : Value} {C : Array Value}, RV N a A → A = .agg C → (∃ cs, a = .agg cs) ∨ a = .any := by
  intro a A C h e
  subst e
  cases a <;> simp [RV] at h ⊢
  case slice x n c => cases c <;> simp [RV] at h
 unfold eqGuard
 cases op
 case eql | neq =>
  simp only [guardOk] at e
  simp only [Bool.not_true, Bool.false_eq_true, ↓reduceIte]
  split
  ·rename_i h1 h2
   rcases hA ha rfl with rfl | rfl
   ·rcases hA hb rfl with rfl | rfl
    ·cases x <;> cases y <;> first | rfl | (simp [isConst] at e; done)
    ·simp at e
   ·simp at e
  ·rename_i C D
   rcases hG ha rfl with ⟨cs, rfl⟩ | rfl
   ·rcases hG hb rfl with ⟨ds, rfl⟩ | rfl
    ·simp at e
    ·simp at e
   ·simp at e
  ·rfl
 all_goals rfl
theorem bits_ok {w : World} {op : BinOp} {k : IntKind} {a b : Int} {r : AV} (e : abits op k a b = some r) : ∃ R, (Op.intBits op k a b).run P w = .ok R w ∧ RV N r R := by
 unfold abits at e
 cases op <;> simp only at e <;> first | cases e | skip
 all_goals exact ⟨_, rfl, rfl⟩
theorem slice_RV {a : Option (Nat × Nat)} {n : Nat} {c : Option Nat} {X : Value} (h : RV N (.slice a n c) X) :
  ∃ c', X = .slice (addr N a) n c' ∧ (∀ k, c = some k → c' = k) ∧ (c = none → n ≤ c') := by
 cases c with
 | some k => exact ⟨k, h, fun j e => by cases e; rfl, fun e => by cases e⟩
 | none => obtain ⟨c', h1, h2⟩ := h; exact ⟨c', h2, fun j e => by (cases e), fun _ => h1⟩
def other : Value → Bool
 | .int .. | .float .. | .complex .. | .string _ | .agg _ | .tuple _ | .chan _ => false
 | _ => true
theorem bin_other (t : TypeId) (X Y : Value) (h : other X = true) :
  binOp .eql t X Y = (do pure (.bool (← Op.equal t X Y))) ∧ binOp .neq t X Y = (do pure (.bool (!(← Op.equal t X Y)))) := by
 cases X <;> first | (simp [other] at h; done) | (cases Y <;> simp [binOp])
theorem bin_ok {w : World} {op : BinOp} {t : TypeId} {x y r : AV} {X Y : Value} (e : abin P op t x y = some r) (hx : RV N x X) (hy : RV N y Y) :
  ∃ R, (binOp op t X Y).run P w = .ok R w ∧ RV N r R := by
 unfold abin at e
 split at e
 ·rename_i k a k' b
  rw [show X = _ from hx, show Y = _ from hy]
  cases op
  case shl =>
   simp only at e
   split at e
   ·cases e
   ·rename_i hb; cases e; exact ⟨_, by simp [binOp, Op.shift, hb], rfl⟩
  case shr =>
   simp only at e
   split at e
   ·cases e
   ·rename_i hb; cases e; exact ⟨_, by simp [binOp, Op.shift, hb], rfl⟩
  all_goals
   simp only at e
   split at e
   ·cases e
   rename_i hk
   have hk' : k = k' := by simpa using hk
   subst hk'
  case h_1.quo.isFalse =>
   by_cases hb : b = 0
   ·rw [if_pos hb] at e; cases e
   ·rw [if_neg hb] at e; cases e; exact ⟨_, by simp [binOp, Op.intDiv, hb], rfl⟩
  case h_1.rem.isFalse =>
   by_cases hb : b = 0
   ·rw [if_pos hb] at e; cases e
   ·rw [if_neg hb] at e; cases e; exact ⟨_, by simp [binOp, Op.intDiv, hb], rfl⟩
  case h_1.and.isFalse | h_1.or.isFalse | h_1.xor.isFalse | h_1.andNot.isFalse =>
   obtain ⟨R, h1, h2⟩ := bits_ok (N := N) (P := P) (w := w) e
   exact ⟨R, by simpa [binOp] using h1, h2⟩
  all_goals
   cases e
   refine ⟨_, ?_, rfl⟩
   first
    | (simp [binOp, Op.intArith]; done)
    | (simp [binOp, Op.intCmp]; done)
 ·rename_i a b
  rw [show X = _ from hx, show Y = _ from hy]
  cases op <;> simp only at e <;> first | cases e | skip
  case add =>
   split at e
   ·rename_i hl
    cases e
    refine ⟨.string ⟨(a ++ b).toArray⟩, ?_, rfl⟩
    have h1 : ¬ (((⟨a.toArray⟩ : ByteArray).size + (⟨b.toArray⟩ : ByteArray).size : Nat) : Int) > IntKind.i64.max := by
     simp only [ByteArray.size, List.size_toArray]
     have : IntKind.i64.max = 9223372036854775807 := rfl
     rw [this]
     have h40 : (2 : Nat) ^ 40 = 1099511627776 := rfl
     omega
    have h2 : (⟨a.toArray⟩ : ByteArray) ++ ⟨b.toArray⟩ = ⟨(a ++ b).toArray⟩ := by
     apply ByteArray.ext
     simp
    simp only [binOp, Op.stringOp, if_neg h1, Sem.run_pure, h2]
   ·cases e
  case h_2.eql.refl => exact ⟨_, by simp [binOp, Op.stringOp], rfl⟩
  case h_2.neq.refl => exact ⟨_, by simp [binOp, Op.stringOp], rfl⟩
  case h_2.lss.refl => exact ⟨_, by simp [binOp, Op.stringOp], rfl⟩
 ·rename_i hni hns
  have key : ∀ (r : Bool), aequal P 4 t x y = some r → (binOp .eql t X Y).run P w = .ok (.bool r) w ∧ (binOp .neq t X Y).run P w = .ok (.bool (!r)) w := by
   intro r h
   have hrun := equal_run (w := w) h hx hy
   have ho : other X = true := by
    unfold aequal at h
    split at h <;> first
     | (exact (hni _ _ _ _ rfl rfl).elim)
     | (exact (hns _ _ rfl rfl).elim)
     | (cases h; done)
     | skip
    all_goals first
     | (rw [show X = _ from hx]; rfl)
     | (obtain ⟨_, rfl, _⟩ := hx; rfl)
     | (obtain ⟨_, _, rfl, _⟩ := hx; rfl)
     | skip
    all_goals (obtain ⟨_, rfl, _⟩ := slice_RV hx; rfl)
   obtain ⟨h1, h2⟩ := bin_other t X Y ho
   rw [h1, h2]
   simp [hrun]
  cases op <;> simp only at e <;> first | cases e | skip
  all_goals
   split at e
   ·rename_i r' h
    cases e
    first
     | exact ⟨_, (key _ h).1, rfl⟩
     | exact ⟨_, (key _ h).2, rfl⟩
   ·cases e
theorem un_ok {w : World} {op : UnOp} {x r : AV} {X : Value} (e : aun op x = some r) (hx : RV N x X) : ∃ R, (Op.unary op X).run P w = .ok R w ∧ RV N r R := by
 unfold aun at e
 split at e <;> cases e
 ·rw [show X = _ from hx]; exact ⟨_, rfl, rfl⟩
 ·rw [show X = _ from hx]; exact ⟨_, by simp [Op.unary, Op.intArith], rfl⟩
end
end Go.Proofs.YtbjaapiliegegaaGreatDoor.Ce
end
