/- Runs over known values: what the words of blocks say of the true world. -/
import Derived.Test.YtbjaapiliegegaaGreatDoorSa0
import Derived.Lib.FrozenHead
import Derived.Lib.ConvBytes
namespace Go.Proofs.YtbjaapiliegegaaGreatDoor.Sy
open Go Go.RowKit

@[simp] theorem at_put_eq (h : Heap) (b : Nat) (o : AO) : (h.put b o).at b = some o := by simp [Heap.at, Heap.put]
theorem at_put_ne (h : Heap) {b c : Nat} (o : AO) (hb : c ≠ b) : (h.put b o).at c = h.at c := by simp [Heap.at, Heap.put, hb]
@[simp] theorem at_new_eq (h : Heap) (o : AO) : (h.new o).at h.n = some o := by simp [Heap.at, Heap.new]
theorem at_new_ne (h : Heap) {c : Nat} (o : AO) (hb : c ≠ h.n) : (h.new o).at c = h.at c := by simp [Heap.at, Heap.new, hb]
@[simp] theorem n_put (h : Heap) (b : Nat) (o : AO) : (h.put b o).n = h.n := rfl
@[simp] theorem n_new (h : Heap) (o : AO) : (h.new o).n = h.n + 1 := rfl

theorem add_at (b o j : Nat) : (⟨b, o, none⟩ : Addr).add j = ⟨b, o + j, none⟩ := by
  unfold Addr.add
  split
  · subst j; rfl
  · rfl

theorem cell_in {w : World} {b o : Nat} {C : Array Value} {e : TypeId} {fz : Nat × Nat} (h : w.heap[b]? = some (.cells C e fz)) : w.cell? ⟨b, o, none⟩ = C[o]? := by
  simp [World.cell?, h]

section
variable {w0 : World} {h : Heap} {w : World} {P : Program}

theorem Full.ge (hF : Full w0 h w) : w0.heap.size ≤ h.n := by have := hF.below.size; have := hF.size; omega

theorem Full.lt (hF : Full w0 h w) {b : Nat} {o : AO} (e : h.at b = some o) : b < h.n := by
  have := (Array.getElem?_eq_some_iff.1 (hF.den b o e)).1
  have := hF.size
  omega

theorem Full.drew (hF : Full w0 h w) : Full w0 h w.drew := ⟨hF.size, hF.den, hF.below.drew⟩

theorem Full.row (hF : Full w0 h w) {b : Nat} {c : List Value} {e : TypeId} {lo hi : Nat} (ha : h.at b = some (.cells c e lo hi)) : w.heap[b]? = some (.cells c.toArray e (lo, hi)) := hF.den b _ ha

theorem cellAt_ok (hF : Full w0 h w) {b o : Nat} {v : Value} (e : cellAt h b o = some v) : w.cell? ⟨b, o, none⟩ = some v := by
  unfold cellAt at e
  split at e
  · rename_i c el lo hi ha
    rw [cell_in (hF.row ha)]
    simpa using e
  · cases e

theorem loadN_ok (hF : Full w0 h w) {b o n : Nat} {vs : List Value} (e : loadN h b o n = some vs) :
    vs.length = n ∧ ∀ j V, vs[j]? = some V → w.cell? ⟨b, o + j, none⟩ = some V := by
  unfold loadN at e
  split at e
  · rename_i c el lo hi ha
    split at e
    · rename_i hl
      cases e
      refine ⟨by simp; omega, fun j V hV => ?_⟩
      rw [List.getElem?_take] at hV
      split at hV
      · rw [cell_in (hF.row ha), ← Array.getElem?_toList]; simpa using hV
      · cases hV
    · cases e
  · cases e

theorem run_loadN {b o n : Nat} {vs : List Value} (hl : vs.length = n) (hc : ∀ j V, vs[j]? = some V → w.cell? ⟨b, o + j, none⟩ = some V) :
    (loadCells ⟨b, o, none⟩ n).run P w = .ok vs.toArray w := by
  have := run_loadCells_list (P := P) w ⟨b, o, none⟩ vs (fun j V hV => by rw [add_at]; exact hc j V hV)
  rwa [hl] at this

theorem load_run (hF : Full w0 h w) {b o n : Nat} {vs : List Value} (e : loadN h b o n = some vs) : (loadCells ⟨b, o, none⟩ n).run P w = .ok vs.toArray w :=
  run_loadN (loadN_ok hF e).1 (loadN_ok hF e).2

theorem Full.grow (hF : Full w0 h w) {w' : World} {o : AO} (hs : w'.heap.size = w.heap.size + 1) (hO : w'.heap[w.heap.size]? = some o.obj)
    (hold : ∀ j, j < w.heap.size → w'.heap[j]? = w.heap[j]?) (h1 : w'.os = w.os) (h2 : w'.tape = w.tape) (h3 : w'.output = w.output) : Full w0 (h.new o) w' := by
  have hz := hF.size
  have hg := hF.below.size
  refine ⟨by rw [hs, hz]; rfl, fun b q e => ?_, hF.below.trans ⟨h1, h2, h3, by omega, fun k hk => hold k (by omega)⟩⟩
  by_cases hb : b = h.n
  · subst hb
    rw [at_new_eq] at e
    cases e
    rw [← hz]
    exact hO
  · rw [at_new_ne h o hb] at e
    have hO' := hF.den b q e
    rw [hold _ (Array.getElem?_eq_some_iff.1 hO').1]
    exact hO'

theorem Full.new (hF : Full w0 h w) (o : AO) : Full w0 (h.new o) (w.alloc o.obj) :=
  hF.grow (by simp) (heap_alloc_new w _) (fun j hj => Below.heap_alloc w _ j hj) rfl rfl rfl

/-- One block is turned. -/
theorem Full.turn {w' : World} (hF : Full w0 h w) {b : Nat} (hb : w0.heap.size ≤ b) {o : AO}
    (hO : w'.heap[b]? = some o.obj) (hs : w'.heap.size = w.heap.size) (hk : ∀ k, k ≠ b → w'.heap[k]? = w.heap[k]?)
    (h1 : w'.os = w.os) (h2 : w'.tape = w.tape) (h3 : w'.output = w.output) : Full w0 (h.put b o) w' := by
  refine ⟨by rw [hs]; exact hF.size, fun c q e => ?_, hF.below.trans ⟨h1, h2, h3, by omega, fun k hkN => hk k (by omega)⟩⟩
  by_cases hc : c = b
  · subst hc
    rw [at_put_eq] at e
    cases e
    exact hO
  · rw [at_put_ne h o hc] at e
    rw [hk c hc]
    exact hF.den c q e

theorem run_storeCells_out (P : Program) (g o : Nat) (t : TypeId) (lo hi : Nat) : ∀ (vs : List Value) (i : Nat) (cur : Array Value) (w : World), w.heap[g]? = some (.cells cur t (lo, hi)) → (hi ≤ o + i ∨ o + i + vs.length ≤ lo) → o + i + vs.length ≤ cur.size → (∀ v ∈ vs, v.oneCell' = true) →
    (storeCells ⟨g, o, none⟩ vs i).run P w = .ok () (w.setRow g (cur.toList.take (o + i) ++ vs ++ cur.toList.drop (o + i + vs.length)).toArray)
  | [], i, cur, w, hg, _, _, _ => by
    simp only [storeCells, List.append_nil, List.length_nil, Nat.add_zero, List.take_append_drop, Array.toArray_toList]
    rw [setRow_self w g cur t (lo, hi) hg]
    rfl
  | v :: rest, i, cur, w, hg, hfz, hl, h1 => by
    have hi' : o + i < cur.size := by simp at hl; omega
    have hadd : (⟨g, o, none⟩ : Addr).add i = ⟨g, o + i, none⟩ := add_at g o i
    have hcell : w.cell? ⟨g, o + i, none⟩ = some cur[o + i] := by simp [World.cell?, hg, hi']
    have hfro : w.frozen? ⟨g, o + i, none⟩ = false := by
      simp only [World.frozen?, hg, Bool.and_eq_false_iff, decide_eq_false_iff_not]
      simp only [List.length_cons] at hfz
      omega
    have hst : (store ((⟨g, o, none⟩ : Addr).add i) v).run P w = .ok () (w.setRow g (cur.setIfInBounds (o + i) v)) := by
      rw [hadd, run_store P w _ v _ (h1 v (by simp)), hcell]
      simp [hfro, setCell_eq_setRow w g (o + i) cur t (lo, hi) v hg]
    have ih := run_storeCells_out P g o t lo hi rest (i + 1) (cur.setIfInBounds (o + i) v) (w.setRow g (cur.setIfInBounds (o + i) v)) (setRow_heap w g cur _ t _ hg) (by simp only [List.length_cons] at hfz; omega) (by simp at hl ⊢; omega) (fun x hx => h1 x (by simp [hx]))
    simp only [storeCells, Sem.run_bind, hst, Result.andThen_ok, ih, setRow_setRow]
    congr 3
    have e := list_seg_step cur.toList (o + i) v rest (by simp at hl ⊢; omega)
    simpa [Array.toList_setIfInBounds, Nat.add_assoc] using e

theorem setN_ok (hF : Full w0 h w) {b o : Nat} {vs : List Value} {h' : Heap} (e : setN w0.heap.size h b o vs = some h') :
    ∃ w', (storeCells ⟨b, o, none⟩ vs).run P w = .ok () w' ∧ Full w0 h' w' := by
  unfold setN at e
  split at e
  · rename_i c el lo hi ha
    split at e
    · rename_i hc
      obtain ⟨hb, hs, hfz, hl⟩ := hc
      cases e
      have hO := hF.row ha
      have hone : ∀ v ∈ vs, v.oneCell' = true := by
        intro v hv
        have := hs v hv
        cases v <;> first | rfl | (simp [single] at this)
      have hrun := run_storeCells_out P b o el lo hi vs 0 c.toArray w hO (by simpa using hfz) (by simpa using hl) hone
      refine ⟨_, hrun, hF.turn hb ?_ (by simp) (fun k hk => setRow_other w _ k _ hk) rfl rfl rfl⟩
      rw [setRow_heap w _ c.toArray _ el _ hO]
      simp [AO.obj, splice]
    · cases e
  · cases e

theorem newRow_ok (hF : Full w0 h w) {e : TypeId} {c : List Value} :
    (newRow e c.toArray).run P w = .ok ⟨h.n, 0, none⟩ (w.alloc (.cells c.toArray e)) ∧ Full w0 (h.new (.cells c e 0 0)) (w.alloc (.cells c.toArray e)) := by
  have h1 := hF.new (.cells c e 0 0)
  refine ⟨?_, h1⟩
  rw [← hF.size]
  simp [newRow]

theorem aggT_run {t : TypeId} {b : Bool} (e : aggT P t = some b) (w : World) : (isAgg t).run P w = .ok b w := by
  unfold aggT at e
  split at e <;> cases e
  · rename_i h; simp [isAgg, run_underlying h]
  · rename_i h; simp [isAgg, run_underlying h]
  · rename_i d hd h h'
    rw [isAgg]
    simp only [Sem.run_bind, run_underlying h', Result.andThen_ok]
    cases d <;> first | rfl | exact absurd rfl (hd _) | exact absurd rfl (h _ _)

theorem info_run {t : TypeId} {i : TypeInfo} (e : P.info? t = some i) (w : World) : (typeInfo t).run P w = .ok i w := by
  simp [typeInfo, e]

theorem sizeT_info {t : TypeId} {z : Nat} (e : sizeT P t = some z) : ∃ i, P.info? t = some i ∧ i.size = z := by
  unfold sizeT at e
  split at e
  · rename_i i hi; cases e; exact ⟨i, hi, rfl⟩
  · cases e

theorem size_run {t : TypeId} {z : Nat} (e : sizeT P t = some z) (w : World) : (sizeOf t).run P w = .ok z w := by
  obtain ⟨i, hi, rfl⟩ := sizeT_info e
  simp [sizeOf, typeInfo, hi]

theorem zeroT_info {t : TypeId} {v : Value} (e : zeroT P t = some v) : ∃ i, P.info? t = some i ∧ i.zero = some v := by
  unfold zeroT at e
  split at e
  · rename_i i hi; exact ⟨i, hi, e⟩
  · cases e

theorem zero_run {t : TypeId} {v : Value} (e : zeroT P t = some v) (w : World) : (zeroValue t).run P w = .ok v w := by
  obtain ⟨i, hi, hz⟩ := zeroT_info e
  simp [zeroValue, info_run hi, hz]

theorem bytesT_info {t : TypeId} {y : Nat} (e : bytesT P t = some y) : ∃ i, P.info? t = some i ∧ i.bytes = y := by
  unfold bytesT at e
  split at e
  · rename_i i hi; cases e; exact ⟨i, hi, rfl⟩
  · cases e

theorem cmpT_info {t : TypeId} {y : Bool} (e : cmpT P t = some y) : ∃ i, P.info? t = some i ∧ i.comparable = y := by
  unfold cmpT at e
  split at e
  · rename_i i hi; cases e; exact ⟨i, hi, rfl⟩
  · cases e

theorem aload_ok (hF : Full w0 h w) {t : TypeId} {b o : Nat} {v : Value} (e : aload P h t b o = some v) :
    (loadVar t ⟨b, o, none⟩).run P w = .ok v w := by
  unfold aload at e
  split at e
  · rename_i n ha hi
    split at e
    · rename_i cs hl
      cases e
      simp [loadVar, aggT_run ha, size_run hi, load_run hF hl]
    · cases e
  · rename_i n ha hi
    simp [loadVar, aggT_run ha, cellAt_ok hF e]
  · cases e

theorem store_ok (hF : Full w0 h w) {t : TypeId} {b o : Nat} {v : Value} {h' : Heap} (e : astore w0.heap.size P h t b o v = some h') :
    ∃ w', (Instr.storeAt t (.pointer (some ⟨b, o, none⟩)) v).run P w = .ok () w' ∧ Full w0 h' w' := by
  unfold astore at e
  split at e
  · rename_i n hi
    split at e
    · rename_i hl
      obtain ⟨w', h1, h2⟩ := setN_ok (P := P) hF e
      exact ⟨w', by simp [Instr.storeAt, Instr.sureAddr, storeVar, size_run hi, hl, h1], h2⟩
    · cases e
  · cases e

theorem alloc_ok (hF : Full w0 h w) {e : TypeId} {z : Value} (hz : zeroT P e = some z) :
    ∃ w', (Instr.alloc e true (.tuple #[])).run P w = .ok (ptr h.n 0) w' ∧ Full w0 (h.new (.cells z.cells.toList e 0 0)) w' := by
  obtain ⟨h1, h2⟩ := newRow_ok (P := P) hF (e := e) (c := z.cells.toList)
  rw [Array.toArray_toList] at h1 h2
  exact ⟨_, by simp [Instr.alloc, zero_run hz, newVar, h1], h2⟩

theorem box_ok (hF : Full w0 h w) {e : TypeId} {v : Value} :
    ∃ w', (Instr.box e v).run P w = .ok (ptr h.n 0) w' ∧ Full w0 (h.new (.cells v.cells.toList e 0 0)) w' := by
  obtain ⟨h1, h2⟩ := newRow_ok (P := P) hF (e := e) (c := v.cells.toList)
  rw [Array.toArray_toList] at h1 h2
  exact ⟨_, by simp [Instr.box, newVar, h1], h2⟩

theorem get_map (hF : Full w0 h w) {b : Nat} {es : List MapEntry} {clock : Nat} (e : h.at b = some (.map es clock)) :
    w.heap[b]? = some (.map es.toArray clock) ∧ (getObj b).run P w = .ok (.map es.toArray clock) w := by
  have hO := hF.den b _ e
  exact ⟨hO, by simp [getObj, Sem.run, hO, AO.obj]⟩

theorem setObj_ok (hF : Full w0 h w) {b : Nat} (hb : w0.heap.size ≤ b) {O o' : AO} (ha : h.at b = some O) (hc : ∀ c e lo hi, O ≠ .cells c e lo hi) :
    ∃ w', (setObj b o'.obj).run P w = .ok () w' ∧ Full w0 (h.put b o') w' := by
  have hQ := hF.den b _ ha
  have hlt' : b < w.heap.size := (Array.getElem?_eq_some_iff.1 hQ).1
  refine ⟨{ w with heap := w.heap.setIfInBounds b o'.obj }, ?_, hF.turn hb (o := o') ?_ ?_ ?_ rfl rfl rfl⟩
  · cases O with
    | cells c e lo hi => exact absurd rfl (hc c e lo hi)
    | map es clock => simp [setObj, Sem.run, hQ, AO.obj]
    | miter m since seen st => simp [setObj, Sem.run, hQ, AO.obj]
    | siter s pos => simp [setObj, Sem.run, hQ, AO.obj]
  · simp [hlt']
  · simp
  · intro k hk
    simp [Array.getElem?_setIfInBounds_ne (Ne.symm hk)]
end
end Go.Proofs.YtbjaapiliegegaaGreatDoor.Sy
