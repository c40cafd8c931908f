/- The reckoner's operations that make or write memory. -/
import Derived.Test.YtbjaapiliegegaaGreatDoorCe4
namespace Go.Proofs.YtbjaapiliegegaaGreatDoor.Ce
open Go Go.RowKit

section
variable {N : Nat} {P : Program} {w0 : World} {h : Heap} {w : World}

theorem Full.drew (hF : Full N w0 h w) : Full N w0 h w.drew := ⟨hF.den, hF.ge, hF.size, hF.below.drew⟩

theorem newRow_ok (hF : Full N w0 h w) (hN : N = w0.heap.size) {e : TypeId} {C : Array Value} {o : AO} (hR : RO N o (.cells C e)) :
    (newRow e C).run P w = .ok ⟨bt N h.n, 0, none⟩ (w.alloc (.cells C e)) ∧ Full N w0 (h.new o) (w.alloc (.cells C e)) := by
  obtain ⟨h1, h2⟩ := hF.new hN hR
  refine ⟨?_, h1⟩
  rw [h2]
  simp [newRow]

theorem alloc_ok (hF : Full N w0 h w) (hN : N = w0.heap.size) {e : TypeId} {z : AV} (hz : azero P e = some z) :
    ∃ w', (Instr.alloc e true (.tuple #[])).run P w = .ok (.pointer (some ⟨bt N h.n, 0, none⟩)) w' ∧ Full N w0 (h.new (.cells (cellsOf z) e 0 0)) w' := by
  obtain ⟨Z, hZ, hr, hna⟩ := azero_run (N := N) hz w
  obtain ⟨h1, h2⟩ := newRow_ok (P := P) hF hN (o := .cells (cellsOf z) e 0 0) (C := Z.cells) (e := e) ⟨_, rfl, cellsOf_RV hr hna⟩
  exact ⟨_, by simp [Instr.alloc, hZ, newVar, h1], h2⟩

theorem box_ok (hF : Full N w0 h w) (hN : N = w0.heap.size) {e : TypeId} {v : AV} {V : Value} (hv : RV N v V) (hna : v ≠ .any) :
    ∃ w', (Instr.box e V).run P w = .ok (.pointer (some ⟨bt N h.n, 0, none⟩)) w' ∧ Full N w0 (h.new (.cells (cellsOf v) e 0 0)) w' := by
  obtain ⟨h1, h2⟩ := newRow_ok (P := P) hF hN (o := .cells (cellsOf v) e 0 0) (C := V.cells) (e := e) ⟨_, rfl, cellsOf_RV hv hna⟩
  exact ⟨_, by simp [Instr.box, newVar, h1], h2⟩

theorem singles_any {v : AV} {vs : List AV} (e : cellsOf v = vs) (hs : singles vs = true) : v ≠ .any := by
  rintro rfl
  subst e
  simp [cellsOf, singles, single] at hs

theorem setN_singles {b o : Nat} {vs : List AV} {h' : Heap} (e : setN h b o vs = some h') : singles vs = true := by
  unfold setN at e
  split at e
  · cases e
  · split at e
    · split at e
      · rename_i hs
        simp only [Bool.and_eq_true] at hs
        exact hs.1
      · cases e
    · cases e

theorem store_ok (hF : Full N w0 h w) (hN : n0 ≤ N) {t : TypeId} {b o : Nat} {v : AV} {V : Value} {h' : Heap} (e : astore P h t b o v = some h') (hv : RV N v V) :
    ∃ w', (Instr.storeAt t (.pointer (some ⟨bt N b, o, none⟩)) V).run P w = .ok () w' ∧ Full N w0 h' w' := by
  unfold astore at e
  split at e
  · rename_i i hi
    split at e
    · rename_i hl
      have hvc := cellsOf_RV hv (singles_any rfl (setN_singles e))
      obtain ⟨w', h1, h2⟩ := setN_ok (P := P) hF hN e hvc
      refine ⟨w', ?_, h2⟩
      have hlen : V.cells.size = i.size := by rw [← hl, RVs_length hvc]; simp
      simp [Instr.storeAt, Instr.sureAddr, storeVar, size_run hi, hlen, h1]
    · cases e
  · cases e

theorem zeros_map {Z : Value} (hz : ∀ C, Z ≠ .agg C) (n : Nat) : (Array.range n).map (fun j => Z.cells[j % Z.cells.size]!) = Array.replicate n Z := by
  have hc : Z.cells = #[Z] := by cases Z <;> first | rfl | exact absurd rfl (hz _)
  apply Array.ext
  · simp
  · intro j h1 h2
    simp [hc, Nat.mod_one]

theorem ofVal_agg {V : Value} {v : AV} (e : ofVal V = some v) : ∀ C, V ≠ .agg C := by
  rintro C rfl
  cases e

theorem makeSlice_ok (hF : Full N w0 h w) (hN : N = w0.heap.size) {t : TypeId} {l c v : AV} {L C : Value} {h' : Heap} (e : amakeSlice P h t l c = some (v, h')) (hl : RV N l L) (hc : RV N c C) :
    ∃ V w', (Instr.makeSlice t L C).run P w = .ok V w' ∧ RV N v V ∧ Full N w0 h' w' := by
  unfold amakeSlice at e
  split at e
  · rename_i el k1 l' k2 c' hu
    rw [show L = _ from hl, show C = _ from hc]
    split at e
    · rename_i i hi
      split at e
      · rename_i hb
        obtain ⟨hs, h0, hlc, hc40, hby, hcb⟩ := hb
        split at e
        · rename_i z hz
          split at e
          · rename_i zv hzv
            cases e
            have h40 : (2 : Int) ^ 40 = 1099511627776 := rfl
            have h46 : (2 : Int) ^ 46 = 70368744177664 := rfl
            have w1 : IntKind.i64.wrap l' = l' := by rw [IntKind.wrap_i64]; omega
            have w2 : IntKind.i64.wrap c' = c' := by rw [IntKind.wrap_i64]; omega
            obtain ⟨h1, h2⟩ := newRow_ok (P := P) hF hN (o := .cells (List.replicate c'.toNat zv) el 0 0) (C := Array.replicate c'.toNat z) (e := el) ⟨_, rfl, by simpa using RVs_replicate (ofVal_RV hzv) c'.toNat⟩
            refine ⟨.slice (some ⟨bt N h.n, 0, none⟩) l'.toNat c'.toNat, _, ?_, rfl, h2⟩
            have hm : (i.bytes : Int) * c' ≤ 70368744177664 := by rw [Int.mul_comm]; omega
            have hcond : (decide (c' < 0) || decide ((i.bytes : Int) * c' > 2 ^ 48) || decide (l' < 0) || decide (l' > c')) = false := by
              have h48 : (2 : Int) ^ 48 = 281474976710656 := rfl
              simp only [Bool.or_eq_false_iff, decide_eq_false_iff_not, h48]
              omega
            simp only [Instr.makeSlice, Sem.run_bind, run_underlying hu, Result.andThen_ok, asInt, asIntOf, Sem.run_pure, info_run hi, w1, w2, hcond]
            rw [if_neg (by simp)]
            simp only [Sem.run_bind, run_askRoom, Result.andThen_ok, size_run hi, hs, Nat.mul_one]
            by_cases hc0 : c'.toNat = 0
            · rw [hc0] at h1 ⊢
              have h1' : (newRow el #[]).run P w = _ := h1
              simp [show ∀ f : Nat → Value, (Array.range 0).map f = #[] from fun f => Array.eq_empty_of_size_eq_zero (by simp), h1']
            · simp only [if_neg hc0, Sem.run_bind, zeroValue, info_run hi, hz, Result.andThen_ok, Sem.run_pure, zeros_map (ofVal_agg hzv), h1]
          · cases e
        · cases e
      · cases e
    · cases e
  · cases e

theorem firstN_ok (hD : Den N h w) {n : Nat} {x : AV} {X : Value} {cs : List AV} (e : firstN h n x = some cs) (hx : RV N x X) :
    ∃ Cs, (Builtin.firstCells 1 n X).run P w = .ok Cs w ∧ RVs N cs Cs.toList := by
  unfold firstN at e
  split at e
  · rename_i b o l c
    obtain ⟨c', rfl, _⟩ := slice_RV hx
    obtain ⟨Vs, hr, hl, hc⟩ := loadN_ok hD e
    exact ⟨Vs.toArray, by simp [Builtin.firstCells, addr, run_loadN hl hc], by simpa using hr⟩
  · rename_i l c
    obtain ⟨c', rfl, _⟩ := slice_RV hx
    split at e
    · cases e; exact ⟨#[], by simp [Builtin.firstCells, addr], rfl⟩
    · cases e
  · split at e
    · rename_i hn
      cases e
      obtain ⟨a, c, rfl⟩ := hx
      subst hn
      cases a with
      | none => exact ⟨#[], by simp [Builtin.firstCells], rfl⟩
      | some a => exact ⟨#[], by simp [Builtin.firstCells, loadCells, loadCellsFrom], rfl⟩
    · cases e
  · rename_i s
    rw [show X = _ from hx]
    cases e
    refine ⟨_, by simp [Builtin.firstCells]; rfl, ?_⟩
    have key : ∀ l : List UInt8, RVs N (l.map fun b => AV.int .u8 b.toNat) (l.map fun b => Value.int .u8 b.toNat) := by
      intro l
      induction l with
      | nil => rfl
      | cons b l ih => exact ⟨_, _, rfl, rfl, ih⟩
    have := key (s.take n)
    simpa [ByteArray.data_extract, List.extract_eq_take_drop] using this
  · cases e

theorem lenOf_ok {x : AV} {X : Value} {n : Nat} (e : alenOf x = some n) (hx : RV N x X) : (Builtin.lenOf X).run P w = .ok n w := by
  unfold alenOf at e
  split at e <;> first | (cases e; done) | skip
  · obtain ⟨c', rfl, _⟩ := slice_RV hx; cases e; rfl
  · obtain ⟨a, c, rfl⟩ := hx; cases e; rfl
  · rw [show X = _ from hx]; cases e; simp [Builtin.lenOf, ByteArray.size]

theorem copy_ok (hF : Full N w0 h w) (hN : n0 ≤ N) {ts : Array TypeId} {t ty : TypeId} {d x v : AV} {D X : Value} {h' : Heap} (ht : ts[0]? = some t) (e : acopy P h t d x = some (v, h')) (hd : RV N d D) (hx : RV N x X) :
    ∃ V w', (Builtin.copy_ ts ty #[D, X]).run P w = .ok V w' ∧ RV N v V ∧ Full N w0 h' w' := by
  unfold acopy at e
  split at e
  · rename_i el a dl dc sl hu hsl
    obtain ⟨c', rfl, _⟩ := slice_RV hd
    split at e
    · rename_i i hi
      split at e
      · rename_i hs
        split at e
        · rename_i cs hcs
          obtain ⟨Cs, hCs, hr⟩ := firstN_ok (P := P) hF.den hcs hx
          have hn : Nat.min sl dl = min sl dl := rfl
          split at e
          · rename_i b o
            split at e
            · rename_i h2 hset
              cases e
              obtain ⟨w', h1, h3⟩ := setN_ok (P := P) hF hN hset hr
              refine ⟨goInt (min sl dl : Nat), w', ?_, rfl, h3⟩
              simp [Builtin.copy_, ht, run_underlying hu, lenOf_ok (P := P) (w := w) hsl hx, hn, size_run hi, hs, hCs, addr, h1]
            · cases e
          · split at e
            · rename_i hl0
              cases e
              refine ⟨goInt (min sl dl : Nat), w, ?_, rfl, hF⟩
              simp [Builtin.copy_, ht, run_underlying hu, lenOf_ok (P := P) (w := w) hsl hx, hn, size_run hi, hs, hCs, addr]
            · cases e
        · cases e
      · cases e
    · cases e
  · cases e

end
end Go.Proofs.YtbjaapiliegegaaGreatDoor.Ce
