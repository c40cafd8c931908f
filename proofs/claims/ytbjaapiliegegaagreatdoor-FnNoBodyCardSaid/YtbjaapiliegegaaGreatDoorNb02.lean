/- Of the proof of FnNoBody: Sa3 Sa4. -/
import Derived.Test.YtbjaapiliegegaaGreatDoorNb01
set_option linter.unusedVariables false
set_option linter.unusedSimpArgs false
section
namespace Go.Proofs.YtbjaapiliegegaaGreatDoor.Sy
open Go Go.RowKit
section
variable {w0 : World} {h : Heap} {w : World} {P : Program}
theorem set_fold (off : Nat) : ∀ (l : List Value) (k : Nat) (cs : Array Value), off + k + l.length ≤ cs.size →
  ((l.zipIdx k).foldl (fun (cs : Array Value) (p : Value × Nat) => cs.setIfInBounds (off + p.2) p.1) cs).toList = cs.toList.take (off + k) ++ l ++ cs.toList.drop (off + k + l.length)
 | [], k, cs, _ => by simp
 | c :: l, k, cs, h => by
  simp only [List.zipIdx_cons, List.foldl_cons]
  rw [set_fold off l (k + 1) _ (by simp at h ⊢; omega)]
  simp only [Array.toList_setIfInBounds, List.length_cons]
  have e := list_seg_step cs.toList (off + k) c l (by simp at h ⊢; omega)
  simpa [Nat.add_assoc, Nat.add_comm 1] using e
theorem fill_ok {pl : Nat → Option (Nat × Nat)} : ∀ {parts : List (Nat × Value)} {cells r : List Value}, afill pl cells parts = some r →
  Instr.fill pl cells.toArray parts = some r.toArray
 | [], cells, r, e => by
  simp only [afill] at e
  cases e
  rfl
 | (i, v) :: rest, cells, r, e => by
  simp only [afill] at e
  split at e
  ·cases e
  ·rename_i off size hpl
   split at e
   ·rename_i hl
    obtain ⟨h1, h2⟩ := hl
    have ih := fill_ok e
    simp only [Instr.fill, hpl]
    rw [if_neg (by simp [h1]; omega)]
    rw [← ih]
    congr 1
    apply Array.toList_inj.1
    have := set_fold off v.cells.toList 0 cells.toArray (by simp; omega)
    rw [← Array.foldl_toList, Array.toList_zipIdx]
    simpa [splice] using this
   ·cases e
theorem places_ok : ∀ {fs : List Field} {pl : List (Nat × Nat)}, placesOf P fs = some pl → fs.mapM (fun f => (P.info? f.type).map fun i => (f.offset, i.size)) = some pl
 | [], pl, e => by simp [placesOf] at e; subst e; rfl
 | f :: fs, pl, e => by
  simp only [placesOf] at e
  split at e
  ·rename_i z r h1 h2
   cases e
   obtain ⟨i, hi, rfl⟩ := sizeT_info h1
   simp [List.mapM_cons, hi, places_ok h2]
  ·cases e
theorem build_ok {t : TypeId} {parts : Array (Nat × Value)} {v : Value} (e : abuild P t parts.toList = some v) :
  (Instr.build t parts).run P w = .ok v w := by
 unfold abuild at e
 split at e
 ·rename_i z fs hz hu
  obtain ⟨i, hi, hZ⟩ := zeroT_info hz
  split at e
  ·rename_i pl hpl
   unfold partsT at hpl
   rw [hu] at hpl
   simp only at hpl
   split at e
   ·rename_i cs hcs
    cases e
    have hR : Instr.fill (fun i => pl[i]?) _ _ = _ := fill_ok hcs
    rw [Array.toArray_toList] at hR
    refine run_build w t parts cs.toArray ?_
    unfold Program.built
    simp only [hi, hu, hZ, places_ok hpl]
    simpa using hR
   ·cases e
  ·cases e
 ·rename_i z n el hz hu
  obtain ⟨i, hi, hZ⟩ := zeroT_info hz
  split at e
  ·rename_i q hq
   obtain ⟨j, hj, rfl⟩ := sizeT_info hq
   split at e
   ·rename_i cs hcs
    cases e
    have hR : Instr.fill (fun i => some (i * j.size, j.size)) _ _ = _ := fill_ok hcs
    rw [Array.toArray_toList] at hR
    refine run_build w t parts cs.toArray ?_
    unfold Program.built
    simp only [hi, hu, hZ, hj]
    exact hR
   ·cases e
  ·cases e
 ·cases e
theorem zeros_length (z : List Value) (n : Nat) : (zeros z n).length = n * z.length := by
 unfold zeros
 induction n with
 | zero => simp
 | succ n ih => rw [List.replicate_succ, List.flatten_cons, List.length_append, ih, Nat.succ_mul, Nat.add_comm]
theorem zeros_get (z : List Value) : ∀ (n i : Nat), i < n * z.length → (zeros z n)[i]? = z[i % z.length]?
 | 0, i, hi => by simp at hi
 | n + 1, i, hi => by
  have hz : zeros z (n + 1) = z ++ zeros z n := by simp [zeros, List.replicate_succ]
  rw [hz]
  by_cases hl : i < z.length
  ·rw [List.getElem?_append_left hl, Nat.mod_eq_of_lt hl]
  ·have hl' : z.length ≤ i := by omega
   rw [List.getElem?_append_right hl', zeros_get z n (i - z.length) (by rw [Nat.succ_mul] at hi; omega)]
   congr 1
   conv => rhs; rw [show i = (i - z.length) + z.length by omega, Nat.add_mod_right]
theorem zeros_range (z : Array Value) (n : Nat) : ((Array.range (n * z.size)).map (fun j => z[j % z.size]!)).toList = zeros z.toList n := by
 apply List.ext_getElem?
 intro i
 by_cases hi : i < n * z.size
 ·have hpos : 0 < z.size := by
   rcases Nat.eq_zero_or_pos z.size with h0 | h0
   ·rw [h0] at hi; simp at hi
   ·exact h0
  have hm : i % z.size < z.size := Nat.mod_lt _ hpos
  rw [zeros_get z.toList n i (by simpa using hi)]
  simp [hi, hm]
 ·have h1 := zeros_length z.toList n
  rw [List.getElem?_eq_none (by simp; omega), List.getElem?_eq_none (by rw [h1]; simp; omega)]
theorem zeroCells_ok (z : Array Value) (n : Nat) : (Builtin.zeroCells z n).toList = zeros z.toList n := zeros_range z n
theorem range0_map (f : Nat → Value) : (Array.range 0).map f = #[] := Array.eq_empty_of_size_eq_zero (by simp)
theorem makeSlice_ok (hF : Full w0 h w) {t : TypeId} {l c v : Value} {h' : Heap} (e : amakeSlice P h t l c = some (v, h')) :
  ∃ w', (Instr.makeSlice t l c).run P w = .ok v w' ∧ Full w0 h' w' := by
 unfold amakeSlice at e
 split at e
 ·rename_i el k1 l' k2 c' hu
  split at e
  ·rename_i z y zv hs hy hz
   split at e
   ·rename_i hb
    obtain ⟨hzz, h0, hlc, hc40, hby⟩ := hb
    cases e
    obtain ⟨i, hi, rfl⟩ := bytesT_info hy
    have h40 : (2 : Int) ^ 40 = 1099511627776 := rfl
    have w1 : IntKind.i64.wrap l' = l' := by rw [IntKind.wrap_i64]; omega
    have w2 : IntKind.i64.wrap c' = c' := by rw [IntKind.wrap_i64]; omega
    obtain ⟨h1, h2⟩ := newRow_ok (P := P) hF (e := el) (c := zeros zv.cells.toList c'.toNat)
    refine ⟨_, ?_, h2⟩
    have hm : (i.bytes : Int) * c' ≤ 64 * 1099511627776 := Int.mul_le_mul (by omega) (by omega) (by omega) (by omega)
    have hcond : (decide (c' < 0) || decide ((i.bytes : Int) * c' > 2 ^ 48) || decide (l' < 0) || decide (l' > c')) = false := by
     have h48 : (2 : Int) ^ 48 = 281474976710656 := rfl
     simp only [Bool.or_eq_false_iff, decide_eq_false_iff_not, h48]
     omega
    simp only [Instr.makeSlice, Sem.run_bind, run_underlying hu, Result.andThen_ok, asInt, asIntOf, Sem.run_pure, info_run hi, w1, w2, hcond]
    rw [if_neg (by simp)]
    simp only [Sem.run_bind, run_askRoom, Result.andThen_ok, size_run hs]
    have hzr := zeros_range zv.cells c'.toNat
    by_cases hc0 : c'.toNat * z = 0
    ·rw [if_pos hc0]
     have hnil : zeros zv.cells.toList c'.toNat = [] := by
      apply List.eq_nil_of_length_eq_zero
      rw [zeros_length]; simp; rw [← hzz]; simpa using hc0
     rw [hnil] at h1
     rw [hc0]
     simp only [Sem.run_pure, Result.andThen_ok, Sem.run_bind]
     rw [range0_map]
     have h1' : (newRow el #[]).run P w = _ := h1
     rw [h1']
     simp [hnil]
    ·rw [if_neg hc0]
     simp only [Sem.run_bind, zero_run hz, Result.andThen_ok, Sem.run_pure]
     have : (Array.range (c'.toNat * z)).map (fun j => zv.cells[j % zv.cells.size]!) = (zeros zv.cells.toList c'.toNat).toArray := by
      apply Array.toList_inj.1
      rw [hzz, hzr]
     rw [this, h1]
     simp
   ·cases e
  ·cases e
 ·cases e
theorem buildSlice_ok (hF : Full w0 h w) {t : TypeId} {len : Nat} {parts : Array (Nat × Value)} {v : Value} {h' : Heap} (e : abuildSlice P h t len parts.toList = some (v, h')) :
  ∃ w', (Instr.buildSlice t len parts).run P w = .ok v w' ∧ Full w0 h' w' := by
 unfold abuildSlice at e
 split at e
 ·rename_i el hu
  split at e
  ·rename_i k zv hs hz
   split at e
   ·rename_i hb
    obtain ⟨hk, hl⟩ := hb
    split at e
    ·rename_i cs hcs
     cases e
     obtain ⟨h1, h2⟩ := newRow_ok (P := P) hF (e := el) (c := cs)
     refine ⟨_, ?_, h2⟩
     have hR : Instr.fill (fun i => some (i * k, k)) _ _ = _ := fill_ok hcs
     have h20 : (2 : Nat) ^ 20 = 1048576 := rfl
     have h24 : (2 : Nat) ^ 24 = 16777216 := rfl
     have hbig : ¬ len * k > 2 ^ 24 := by omega
     simp only [Instr.buildSlice, Sem.run_bind, run_underlying hu, size_run hs, Result.andThen_ok]
     rw [if_neg hbig]
     by_cases h0 : len * k = 0
     ·rw [if_pos h0]
      have hnil : zeros zv.cells.toList len = [] := by
       apply List.eq_nil_of_length_eq_zero
       rw [zeros_length]; simp; rw [hk]; simpa using h0
      rw [hnil] at hR
      have hR' : Instr.fill (fun i => some (i * k, k)) ((Array.range (len * k)).map (fun j => (#[] : Array Value)[j % (#[] : Array Value).size]!)) parts.toList = some cs.toArray := by
       rw [h0, range0_map]; exact hR
      simp only [Sem.run_bind, Sem.run_pure, Result.andThen_ok, hR', h1]
     ·rw [if_neg h0]
      have hm : (Array.range (len * k)).map (fun j => zv.cells[j % zv.cells.size]!) = (zeros zv.cells.toList len).toArray := by
       apply Array.toList_inj.1
       rw [← hk, zeros_range]
      simp only [Sem.run_bind, zero_run hz, Result.andThen_ok, Sem.run_pure, hm, hR, h1]
    ·cases e
   ·cases e
  ·cases e
 ·cases e
theorem entries_ok (hF : Full w0 h w) {r : Option Nat} {es : List MapEntry} (e : entriesOf h r = some es) :
  (r = none ∧ es = []) ∨ ∃ b clock, r = some b ∧ (getObj b).run P w = .ok (.map es.toArray clock) w := by
 unfold entriesOf at e
 split at e
 ·cases e; exact .inl ⟨rfl, rfl⟩
 ·split at e
  ·rename_i b _ es' clock ha
   cases e
   exact .inr ⟨b, clock, rfl, (get_map hF ha).2⟩
  ·cases e
theorem len_ok (hF : Full w0 h w) {ts : Array TypeId} {t ty : TypeId} {x v : Value} (ht : ts[0]? = some t) (e : alen P t h x = some v) :
  (Builtin.len_ ts ty #[x]).run P w = .ok v w := by
 unfold alen at e
 split at e
 ·rename_i s hu
  cases e
  simp [Builtin.len_, ht, run_underlying hu, goInt, bytes_size]
 ·rename_i el a n c hu
  cases e
  simp [Builtin.len_, ht, run_underlying hu]; rfl
 ·rename_i k el r hu
  split at e
  ·rename_i es he
   cases e
   rcases entries_ok (P := P) hF he with ⟨rfl, rfl⟩ | ⟨b, clock, rfl, hg⟩
   ·simp [Builtin.len_, ht, run_underlying hu]; rfl
   ·simp [Builtin.len_, ht, run_underlying hu, hg, goInt]
  ·cases e
 ·cases e
theorem firstN_ok (hF : Full w0 h w) {z n : Nat} {x : Value} {cs : List Value} (e : firstN h z n x = some cs) :
  (Builtin.firstCells z n x).run P w = .ok cs.toArray w := by
 unfold firstN at e
 split at e
 ·rename_i b o l c
  unfold orNil at e
  split at e
  ·rename_i hl
   cases e
   simp [Builtin.firstCells, load_run hF hl]
  ·split at e
   ·rename_i hz
    cases e
    simp [Builtin.firstCells, hz, loadCells]
    rfl
   ·cases e
 ·unfold orNil at e
  simp only at e
  split at e
  ·rename_i hz
   cases e
   simp [Builtin.firstCells, hz, loadCells]
   rfl
  ·cases e
 ·cases e; simp [Builtin.firstCells]
 ·rename_i s
  cases e
  simp only [Builtin.firstCells, Sem.run_pure]
  congr 1
  apply Array.toList_inj.1
  simp [byteVals, bytes, List.extract_eq_take_drop]
 ·cases e
theorem lenOf_ok {x : Value} {n : Nat} (e : lenOf x = some n) : (Builtin.lenOf x).run P w = .ok n w := by
 unfold lenOf at e
 split at e <;> first | (cases e; done) | skip
 ·cases e; rfl
 ·cases e; simp [Builtin.lenOf, bytes_size]
theorem copy_ok (hF : Full w0 h w) {ts : Array TypeId} {t ty : TypeId} {d x v : Value} {h' : Heap} (ht : ts[0]? = some t) (e : acopy w0.heap.size P h t d x = some (v, h')) :
  ∃ w', (Builtin.copy_ ts ty #[d, x]).run P w = .ok v w' ∧ Full w0 h' w' := by
 unfold acopy at e
 split at e
 ·rename_i el a dl dc sl hu hsl
  split at e
  ·rename_i hs
   split at e
   ·rename_i cs hcs
    have hCs := firstN_ok (P := P) hF hcs
    have hn : Nat.min sl dl = min sl dl := rfl
    split at e
    ·rename_i b o
     split at e
     ·rename_i h2 hset
      cases e
      obtain ⟨w', h1, h3⟩ := setN_ok (P := P) hF hset
      refine ⟨w', ?_, h3⟩
      simp [Builtin.copy_, ht, run_underlying hu, lenOf_ok (P := P) (w := w) hsl, hn, size_run hs, hCs, h1, goInt]
     ·cases e
    ·split at e
     ·cases e
      exact ⟨w, by simp [Builtin.copy_, ht, run_underlying hu, lenOf_ok (P := P) (w := w) hsl, hn, size_run hs, hCs, goInt], hF⟩
     ·cases e
    ·cases e
   ·cases e
  ·cases e
 ·cases e
theorem max_ok {x y v : Value} {ts : Array TypeId} {ty : TypeId} (e : amax x y = some v) : (Builtin.max_ ts ty #[x, y]).run P w = .ok v w := by
 unfold amax at e
 split at e
 ·cases e; rfl
 ·cases e
end
end Go.Proofs.YtbjaapiliegegaaGreatDoor.Sy
end
section
namespace Go.Proofs.YtbjaapiliegegaaGreatDoor.Sy
open Go Go.RowKit
section
variable {w0 : World} {h : Heap} {w : World} {P : Program}
theorem room_ge (need c : Nat) : need ≤ room need c := Nat.le_add_right _ _
theorem putAt_ok (hF : Full w0 h w) {a : Option Addr} {k : Nat} {vs : List Value} {h' : Heap} (e : putAt w0.heap.size h a k vs = some h') :
  ∃ w', Full w0 h' w' ∧ ((a = none ∧ w' = w) ∨ ∃ b o, a = some ⟨b, o, none⟩ ∧ (storeCells ⟨b, o + k, none⟩ vs).run P w = .ok () w') := by
 unfold putAt at e
 split at e
 ·rename_i b o
  obtain ⟨w', h1, h2⟩ := setN_ok (P := P) hF e
  exact ⟨w', h2, .inr ⟨b, o, rfl, h1⟩⟩
 ·cases e
 ·split at e
  ·cases e; exact ⟨w, hF, .inl ⟨rfl, rfl⟩⟩
  ·cases e
theorem slicecap (need sc : Nat) (h : sc < need) (hn : need ≤ 2 ^ 32) : Builtin.nextslicecap need sc ≤ 2 ^ 33 + 200 := by
 have h32 : (2 : Nat) ^ 32 = 4294967296 := rfl
 have h33 : (2 : Nat) ^ 33 = 8589934592 := rfl
 have key : ∀ (r c : Nat), c ≤ 2 ^ 33 + 200 → Builtin.growBy need r c ≤ 2 ^ 33 + 200 := by
  intro r
  induction r with
  | zero => intro c hc; exact hc
  | succ r ih =>
   intro c hc
   unfold Builtin.growBy
   split
   ·exact hc
   ·exact ih _ (by omega)
 unfold Builtin.nextslicecap
 split
 ·omega
 ·split
  ·omega
  ·exact key _ _ (by omega)
theorem tail_cases {xd : TypeDesc} {z : Nat} {zv x : Value} {n : Nat} {new : List Value} (e : tailOf h xd z zv x = some (n, new)) :
  (∃ k0 k1 k, xd = .int k0 ∧ x = .int k1 k ∧ 0 ≤ k ∧ k < 2 ^ 32 ∧ n = k.toNat ∧ new = zeros zv.cells.toList n) ∨
  (((∃ q, xd = .slice q) ∨ xd = .string) ∧ lenOf x = some n ∧ firstN h z n x = some new) := by
 unfold tailOf at e
 split at e
 ·rename_i k0 k1 k
  split at e
  ·rename_i hk
   cases e
   exact .inl ⟨k0, k1, k, rfl, rfl, hk.1, hk.2, rfl, rfl⟩
  ·cases e
 ·split at e
  ·rename_i m hm
   split at e
   ·rename_i cs hcs
    cases e
    exact .inr ⟨.inl ⟨_, rfl⟩, hm, hcs⟩
   ·cases e
  ·cases e
 ·split at e
  ·rename_i m hm
   split at e
   ·rename_i cs hcs
    cases e
    exact .inr ⟨.inr rfl, hm, hcs⟩
   ·cases e
  ·cases e
 ·cases e
theorem zeros_ap {el : TypeId} {z n : Nat} {zv : Value} {new : List Value} (hzv : zeroT P el = some zv) (hnl : new.length = n * z) (hnew : new = zeros zv.cells.toList n) (u : World) :
  ((if n * z = 0 then pure #[] else do pure (Builtin.zeroCells (← zeroValue el).cells n)) : Sem (Array Value)).run P u = .ok new.toArray u := by
 split
 ·rename_i h0
  have : new = [] := List.eq_nil_of_length_eq_zero (by rw [hnl]; exact h0)
  rw [this]
  rfl
 ·simp only [Sem.run_bind, zero_run hzv, Result.andThen_ok, Sem.run_pure]
  congr 1
  apply Array.toList_inj.1
  rw [zeroCells_ok, hnew]
set_option maxHeartbeats 2000000 in
theorem append_ok (hF : Full w0 h w) {ts : Array TypeId} {ty : TypeId} {s x : Value} :
  ∃ c, ∀ v h', aappend w0.heap.size P h ts s x c = some (v, h') → ∃ w', (Builtin.append_ ts ty #[s, x]).run P w = .ok v w' ∧ Full w0 h' w' := by
 refine ⟨match ts[0]?, s, ts[1]? with
  | some st, .slice _ sl sc, some xt => (match P.underlying st, P.underlying xt with
   | some (.slice e), some xd => (match sizeT P e, zeroT P e with
    | some z, some zv => (match tailOf h xd z zv x with
     | some (n, _) => w.tape w.drawn (.appendCap (sl + n) sc e)
     | none => 0)
    | _, _ => 0)
   | _, _ => 0)
  | _, _, _ => 0, fun v h' e => ?_⟩
 unfold aappend at e
 split at e
 ·rename_i st xt a sl sc hst hxt
  simp only [hst, hxt] at e
  split at e
  ·rename_i el xd hu hux
   simp only [hu, hux] at e
   split at e
   ·rename_i z y zv hz hy hzv
    simp only [hz, hzv] at e
    split at e
    ·rename_i n new ht
     simp only [ht] at e
     obtain ⟨i, hi, hby⟩ := bytesT_info hy
     split at e
     ·rename_i hc
      obtain ⟨hzz, hnl, hy64⟩ := hc
      have hnl' : zv.cells.toList.length = z := by simp [hzz]
      have hF0 := hF
      split at e
      ·rename_i hfit
       split at e
       ·rename_i h2 hp
        cases e
        obtain ⟨w', hF', hcase⟩ := putAt_ok (P := P) hF hp
        refine ⟨w', ?_, hF'⟩
        rcases tail_cases ht with ⟨k0, k1, k, rfl, rfl, hk0, hk1, rfl, hnew⟩ | ⟨hxd, hln, hfn⟩
        ·have h32 : (2 : Int) ^ 32 = 4294967296 := rfl
         have hw : IntKind.i64.wrap k = k := by rw [IntKind.wrap_i64]; omega
         have hm : k * (i.bytes : Int) ≤ 4294967296 * 64 := Int.mul_le_mul (by omega) (by omega) (by omega) (by omega)
         have h48 : (2 : Int) ^ 48 = 281474976710656 := rfl
         have hk2 : ¬ k < 0 := by omega
         have hk3 : ¬ k * (i.bytes : Int) > 2 ^ 48 := by rw [h48]; omega
         have hap := zeros_ap (P := P) (z := z) hzv hnl hnew w
         simp only [Builtin.append_, List.getElem?_toArray, List.getElem?_cons_zero, List.getElem?_cons_succ, hst, hxt, Sem.run_bind, run_underlying hu, run_underlying hux, Sem.run_pure, Result.andThen_ok, size_run hz, asInt, asIntOf, hw, if_neg hk2, info_run hi, if_neg hk3, if_true]
         rw [if_pos hfit]
         simp only [Bool.not_true, Bool.false_eq_true, if_false, Sem.run_bind]
         rw [hap]
         simp only [Result.andThen_ok]
         rcases hcase with ⟨rfl, rfl⟩ | ⟨b, o, rfl, hst2⟩
         ·simp
         ·simp only [add_at, Sem.run_bind, hst2, Result.andThen_ok, Sem.run_pure]
        ·have hap := firstN_ok (P := P) hF hfn
         rcases hxd with ⟨q, rfl⟩ | rfl
         all_goals
          simp only [Builtin.append_, List.getElem?_toArray, List.getElem?_cons_zero, List.getElem?_cons_succ, hst, hxt, Sem.run_bind, run_underlying hu, run_underlying hux, Sem.run_pure, Result.andThen_ok, size_run hz, lenOf_ok (P := P) (w := w) hln, Bool.false_eq_true, if_false]
          rw [if_pos hfit]
          simp only [Bool.not_false, if_true, Sem.run_bind]
          rw [hap]
          simp only [Result.andThen_ok]
          rcases hcase with ⟨rfl, rfl⟩ | ⟨b, o, rfl, hst2⟩
          ·simp
          ·simp only [add_at, Sem.run_bind, hst2, Result.andThen_ok, Sem.run_pure]
       ·cases e
      ·rename_i hfit
       split at e
       ·rename_i hn32
        split at e
        ·rename_i old hold
         split at e
         ·rename_i hol
          cases e
          have hFd := hF.drew
          have hold' := firstN_ok (P := P) hFd hold
          generalize hrm : room (sl + n) (w.tape w.drawn (.appendCap (sl + n) sc el)) = rm
          obtain ⟨h1, h2⟩ := newRow_ok (P := P) hFd (e := el) (c := old ++ new ++ zeros zv.cells.toList (rm - (sl + n)))
          refine ⟨_, ?_, h2⟩
          have h32 : (2 : Nat) ^ 32 = 4294967296 := rfl
          have hmax : IntKind.i64.max = 9223372036854775807 := rfl
          have hbig : ¬ ((sl + n : Nat) : Int) > IntKind.i64.max := by rw [hmax]; omega
          have hcapb := slicecap (sl + n) sc (by omega) hn32
          have hroom : ¬ Builtin.nextslicecap (sl + n) sc * i.bytes > 2 ^ 48 := by
           have h48 : (2 : Nat) ^ 48 = 281474976710656 := rfl
           have h33 : (2 : Nat) ^ 33 = 8589934592 := rfl
           have : Builtin.nextslicecap (sl + n) sc * i.bytes ≤ (2 ^ 33 + 200) * 64 := Nat.mul_le_mul hcapb (by omega)
           omega
          have hrest : Builtin.zeroCells zv.cells (rm - (sl + n)) = (zeros zv.cells.toList (rm - (sl + n))).toArray := by
           apply Array.toList_inj.1; rw [zeroCells_ok]
          have hch : (choose (.appendCap (sl + n) sc el)).run P w = .ok rm w.drew := by
           rw [← hrm]
           have hforced : (Question.appendCap (sl + n) sc el).forced = false := rfl
           have hcut : (Question.appendCap (sl + n) sc el).cut (w.tape w.drawn (.appendCap (sl + n) sc el)) = room (sl + n) (w.tape w.drawn (.appendCap (sl + n) sc el)) := rfl
           simp [choose, Sem.run, hforced, hcut, World.drew, -World.drew_eq]
          have hsum : old.toArray ++ new.toArray ++ (zeros zv.cells.toList (rm - (sl + n))).toArray = (old ++ new ++ zeros zv.cells.toList (rm - (sl + n))).toArray := by simp
          rcases tail_cases ht with ⟨k0, k1, k, rfl, rfl, hk0, hk1, rfl, hnew⟩ | ⟨hxd, hln, hfn⟩
          ·have h32' : (2 : Int) ^ 32 = 4294967296 := rfl
           have hw : IntKind.i64.wrap k = k := by rw [IntKind.wrap_i64]; omega
           have hm : k * (i.bytes : Int) ≤ 4294967296 * 64 := Int.mul_le_mul (by omega) (by omega) (by omega) (by omega)
           have h48 : (2 : Int) ^ 48 = 281474976710656 := rfl
           have hk2 : ¬ k < 0 := by omega
           have hk3 : ¬ k * (i.bytes : Int) > 2 ^ 48 := by rw [h48]; omega
           have hap := zeros_ap (P := P) (z := z) hzv hnl hnew w.drew
           simp only [Builtin.append_, List.getElem?_toArray, List.getElem?_cons_zero, List.getElem?_cons_succ, hst, hxt, Sem.run_bind, run_underlying hu, run_underlying hux, Sem.run_pure, Result.andThen_ok, size_run hz, asInt, asIntOf, hw, if_neg hk2, info_run hi, if_neg hk3, if_true]
           rw [if_neg hfit]
           simp only [Sem.run_bind, Sem.run_pure, Result.andThen_ok, true_or, and_true, if_neg hbig, info_run hi, if_neg hroom, hch, run_askRoom]
           rw [hold']
           simp only [Bool.not_true, Bool.false_eq_true, if_false, Result.andThen_ok, Sem.run_bind]
           rw [hap]
           simp only [Result.andThen_ok, zero_run hzv, hrest, hsum, h1]
          ·have hap := firstN_ok (P := P) hFd hfn
           rcases hxd with ⟨q, rfl⟩ | rfl
           all_goals
            simp only [Builtin.append_, List.getElem?_toArray, List.getElem?_cons_zero, List.getElem?_cons_succ, hst, hxt, Sem.run_bind, run_underlying hu, run_underlying hux, Sem.run_pure, Result.andThen_ok, size_run hz, lenOf_ok (P := P) (w := w) hln, Bool.false_eq_true, if_false]
            rw [if_neg hfit]
            simp only [Sem.run_bind, Sem.run_pure, Result.andThen_ok, info_run hi]
            rw [if_neg (fun h => hbig h.1)]
            simp only [Sem.run_bind, Sem.run_pure, Result.andThen_ok, info_run hi, if_neg hroom, hch, run_askRoom]
            rw [hold']
            simp only [Bool.not_false, if_true, Result.andThen_ok, Sem.run_bind]
            rw [hap]
            simp only [Result.andThen_ok, zero_run hzv, hrest, hsum, h1]
         ·cases e
        ·cases e
       ·cases e
     ·cases e
    ·cases e
   ·cases e
  ·cases e
 ·cases e
end
end Go.Proofs.YtbjaapiliegegaaGreatDoor.Sy
end
