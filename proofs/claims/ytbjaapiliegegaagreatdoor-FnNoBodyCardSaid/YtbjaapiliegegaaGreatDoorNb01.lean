/- Of the proof of FnNoBody: Sa1 Sa2. -/
import Derived.Test.YtbjaapiliegegaaGreatDoorNb00
import Derived.Lib.FrozenHead
import Derived.Lib.ConvBytes
set_option linter.unusedVariables false
set_option linter.unusedSimpArgs false
section
namespace Go.Proofs.YtbjaapiliegegaaGreatDoor.Sy
open Go Go.RowKit
@[simp] theorem at_put_eq (h : Heap) (b : Nat) (o : AO) : (h.put b o).at b = some o := by simp [Heap.at, Heap.put]
theorem at_put_ne (h : Heap) {b c : Nat} (o : AO) (hb : c ≠ b) : (h.put b o).at c = h.at c := by simp [Heap.at, Heap.put, hb]
@[simp] theorem at_new_eq (h : Heap) (o : AO) : (h.new o).at h.n = some o := by simp [Heap.at, Heap.new]
theorem at_new_ne (h : Heap) {c : Nat} (o : AO) (hb : c ≠ h.n) : (h.new o).at c = h.at c := by simp [Heap.at, Heap.new, hb]
@[simp] theorem n_put (h : Heap) (b : Nat) (o : AO) : (h.put b o).n = h.n := rfl
@[simp] theorem n_new (h : Heap) (o : AO) : (h.new o).n = h.n + 1 := rfl
theorem add_at (b o j : Nat) : (⟨b, o, none⟩ : Addr).add j = ⟨b, o + j, none⟩ := by
 unfold Addr.add
 split
 ·subst j; rfl
 ·rfl
theorem cell_in {w : World} {b o : Nat} {C : Array Value} {e : TypeId} {fz : Nat × Nat} (h : w.heap[b]? = some (.cells C e fz)) : w.cell? ⟨b, o, none⟩ = C[o]? := by
 simp [World.cell?, h]
section
variable {w0 : World} {h : Heap} {w : World} {P : Program}
theorem Full.ge (hF : Full w0 h w) : w0.heap.size ≤ h.n := by have := hF.below.size; have := hF.size; omega
theorem Full.lt (hF : Full w0 h w) {b : Nat} {o : AO} (e : h.at b = some o) : b < h.n := by
 have := (Array.getElem?_eq_some_iff.1 (hF.den b o e)).1
 have := hF.size
 omega
theorem Full.drew (hF : Full w0 h w) : Full w0 h w.drew := ⟨hF.size, hF.den, hF.below.drew⟩
theorem Full.row (hF : Full w0 h w) {b : Nat} {c : List Value} {e : TypeId} {lo hi : Nat} (ha : h.at b = some (.cells c e lo hi)) : w.heap[b]? = some (.cells c.toArray e (lo, hi)) := hF.den b _ ha
theorem cellAt_ok (hF : Full w0 h w) {b o : Nat} {v : Value} (e : cellAt h b o = some v) : w.cell? ⟨b, o, none⟩ = some v := by
 unfold cellAt at e
 split at e
 ·rename_i c el lo hi ha
  rw [cell_in (hF.row ha)]
  simpa using e
 ·cases e
theorem loadN_ok (hF : Full w0 h w) {b o n : Nat} {vs : List Value} (e : loadN h b o n = some vs) :
  vs.length = n ∧ ∀ j V, vs[j]? = some V → w.cell? ⟨b, o + j, none⟩ = some V := by
 unfold loadN at e
 split at e
 ·rename_i c el lo hi ha
  split at e
  ·rename_i hl
   cases e
   refine ⟨by simp; omega, fun j V hV => ?_⟩
   rw [List.getElem?_take] at hV
   split at hV
   ·rw [cell_in (hF.row ha), ← Array.getElem?_toList]; simpa using hV
   ·cases hV
  ·cases e
 ·cases e
theorem run_loadN {b o n : Nat} {vs : List Value} (hl : vs.length = n) (hc : ∀ j V, vs[j]? = some V → w.cell? ⟨b, o + j, none⟩ = some V) :
  (loadCells ⟨b, o, none⟩ n).run P w = .ok vs.toArray w := by
 have := run_loadCells_list (P := P) w ⟨b, o, none⟩ vs (fun j V hV => by rw [add_at]; exact hc j V hV)
 rwa [hl] at this
theorem load_run (hF : Full w0 h w) {b o n : Nat} {vs : List Value} (e : loadN h b o n = some vs) : (loadCells ⟨b, o, none⟩ n).run P w = .ok vs.toArray w :=
 run_loadN (loadN_ok hF e).1 (loadN_ok hF e).2
theorem Full.grow (hF : Full w0 h w) {w' : World} {o : AO} (hs : w'.heap.size = w.heap.size + 1) (hO : w'.heap[w.heap.size]? = some o.obj)
  (hold : ∀ j, j < w.heap.size → w'.heap[j]? = w.heap[j]?) (h1 : w'.os = w.os) (h2 : w'.tape = w.tape) (h3 : w'.output = w.output) : Full w0 (h.new o) w' := by
 have hz := hF.size
 have hg := hF.below.size
 refine ⟨by rw [hs, hz]; rfl, fun b q e => ?_, hF.below.trans ⟨h1, h2, h3, by omega, fun k hk => hold k (by omega)⟩⟩
 by_cases hb : b = h.n
 ·subst hb
  rw [at_new_eq] at e
  cases e
  rw [← hz]
  exact hO
 ·rw [at_new_ne h o hb] at e
  have hO' := hF.den b q e
  rw [hold _ (Array.getElem?_eq_some_iff.1 hO').1]
  exact hO'
theorem Full.new (hF : Full w0 h w) (o : AO) : Full w0 (h.new o) (w.alloc o.obj) :=
 hF.grow (by simp) (heap_alloc_new w _) (fun j hj => Below.heap_alloc w _ j hj) rfl rfl rfl
theorem Full.turn {w' : World} (hF : Full w0 h w) {b : Nat} (hb : w0.heap.size ≤ b) {o : AO}
  (hO : w'.heap[b]? = some o.obj) (hs : w'.heap.size = w.heap.size) (hk : ∀ k, k ≠ b → w'.heap[k]? = w.heap[k]?)
  (h1 : w'.os = w.os) (h2 : w'.tape = w.tape) (h3 : w'.output = w.output) : Full w0 (h.put b o) w' := by
 refine ⟨by rw [hs]; exact hF.size, fun c q e => ?_, hF.below.trans ⟨h1, h2, h3, by omega, fun k hkN => hk k (by omega)⟩⟩
 by_cases hc : c = b
 ·subst hc
  rw [at_put_eq] at e
  cases e
  exact hO
 ·rw [at_put_ne h o hc] at e
  rw [hk c hc]
  exact hF.den c q e
theorem run_storeCells_out (P : Program) (g o : Nat) (t : TypeId) (lo hi : Nat) : ∀ (vs : List Value) (i : Nat) (cur : Array Value) (w : World), w.heap[g]? = some (.cells cur t (lo, hi)) → (hi ≤ o + i ∨ o + i + vs.length ≤ lo) → o + i + vs.length ≤ cur.size → (∀ v ∈ vs, v.oneCell' = true) →
  (storeCells ⟨g, o, none⟩ vs i).run P w = .ok () (w.setRow g (cur.toList.take (o + i) ++ vs ++ cur.toList.drop (o + i + vs.length)).toArray)
 | [], i, cur, w, hg, _, _, _ => by
  simp only [storeCells, List.append_nil, List.length_nil, Nat.add_zero, List.take_append_drop, Array.toArray_toList]
  rw [setRow_self w g cur t (lo, hi) hg]
  rfl
 | v :: rest, i, cur, w, hg, hfz, hl, h1 => by
  have hi' : o + i < cur.size := by simp at hl; omega
  have hadd : (⟨g, o, none⟩ : Addr).add i = ⟨g, o + i, none⟩ := add_at g o i
  have hcell : w.cell? ⟨g, o + i, none⟩ = some cur[o + i] := by simp [World.cell?, hg, hi']
  have hfro : w.frozen? ⟨g, o + i, none⟩ = false := by
   simp only [World.frozen?, hg, Bool.and_eq_false_iff, decide_eq_false_iff_not]
   simp only [List.length_cons] at hfz
   omega
  have hst : (store ((⟨g, o, none⟩ : Addr).add i) v).run P w = .ok () (w.setRow g (cur.setIfInBounds (o + i) v)) := by
   rw [hadd, run_store P w _ v _ (h1 v (by simp)), hcell]
   simp [hfro, setCell_eq_setRow w g (o + i) cur t (lo, hi) v hg]
  have ih := run_storeCells_out P g o t lo hi rest (i + 1) (cur.setIfInBounds (o + i) v) (w.setRow g (cur.setIfInBounds (o + i) v)) (setRow_heap w g cur _ t _ hg) (by simp only [List.length_cons] at hfz; omega) (by simp at hl ⊢; omega) (fun x hx => h1 x (by simp [hx]))
  simp only [storeCells, Sem.run_bind, hst, Result.andThen_ok, ih, setRow_setRow]
  congr 3
  have e := list_seg_step cur.toList (o + i) v rest (by simp at hl ⊢; omega)
  simpa [Array.toList_setIfInBounds, Nat.add_assoc] using e
theorem setN_ok (hF : Full w0 h w) {b o : Nat} {vs : List Value} {h' : Heap} (e : setN w0.heap.size h b o vs = some h') :
  ∃ w', (storeCells ⟨b, o, none⟩ vs).run P w = .ok () w' ∧ Full w0 h' w' := by
 unfold setN at e
 split at e
 ·rename_i c el lo hi ha
  split at e
  ·rename_i hc
   obtain ⟨hb, hs, hfz, hl⟩ := hc
   cases e
   have hO := hF.row ha
   have hone : ∀ v ∈ vs, v.oneCell' = true := by
    intro v hv
    have := hs v hv
    cases v <;> first | rfl | (simp [single] at this)
   have hrun := run_storeCells_out P b o el lo hi vs 0 c.toArray w hO (by simpa using hfz) (by simpa using hl) hone
   refine ⟨_, hrun, hF.turn hb ?_ (by simp) (fun k hk => setRow_other w _ k _ hk) rfl rfl rfl⟩
   rw [setRow_heap w _ c.toArray _ el _ hO]
   simp [AO.obj, splice]
  ·cases e
 ·cases e
theorem newRow_ok (hF : Full w0 h w) {e : TypeId} {c : List Value} :
  (newRow e c.toArray).run P w = .ok ⟨h.n, 0, none⟩ (w.alloc (.cells c.toArray e)) ∧ Full w0 (h.new (.cells c e 0 0)) (w.alloc (.cells c.toArray e)) := by
 have h1 := hF.new (.cells c e 0 0)
 refine ⟨?_, h1⟩
 rw [← hF.size]
 simp [newRow]
theorem aggT_run {t : TypeId} {b : Bool} (e : aggT P t = some b) (w : World) : (isAgg t).run P w = .ok b w := by
 unfold aggT at e
 split at e <;> cases e
 ·rename_i h; simp [isAgg, run_underlying h]
 ·rename_i h; simp [isAgg, run_underlying h]
 ·rename_i d hd h h'
  rw [isAgg]
  simp only [Sem.run_bind, run_underlying h', Result.andThen_ok]
  cases d <;> first | rfl | exact absurd rfl (hd _) | exact absurd rfl (h _ _)
theorem info_run {t : TypeId} {i : TypeInfo} (e : P.info? t = some i) (w : World) : (typeInfo t).run P w = .ok i w := by
 simp [typeInfo, e]
theorem sizeT_info {t : TypeId} {z : Nat} (e : sizeT P t = some z) : ∃ i, P.info? t = some i ∧ i.size = z := by
 unfold sizeT at e
 split at e
 ·rename_i i hi; cases e; exact ⟨i, hi, rfl⟩
 ·cases e
theorem size_run {t : TypeId} {z : Nat} (e : sizeT P t = some z) (w : World) : (sizeOf t).run P w = .ok z w := by
 obtain ⟨i, hi, rfl⟩ := sizeT_info e
 simp [sizeOf, typeInfo, hi]
theorem zeroT_info {t : TypeId} {v : Value} (e : zeroT P t = some v) : ∃ i, P.info? t = some i ∧ i.zero = some v := by
 unfold zeroT at e
 split at e
 ·rename_i i hi; exact ⟨i, hi, e⟩
 ·cases e
theorem zero_run {t : TypeId} {v : Value} (e : zeroT P t = some v) (w : World) : (zeroValue t).run P w = .ok v w := by
 obtain ⟨i, hi, hz⟩ := zeroT_info e
 simp [zeroValue, info_run hi, hz]
theorem bytesT_info {t : TypeId} {y : Nat} (e : bytesT P t = some y) : ∃ i, P.info? t = some i ∧ i.bytes = y := by
 unfold bytesT at e
 split at e
 ·rename_i i hi; cases e; exact ⟨i, hi, rfl⟩
 ·cases e
theorem cmpT_info {t : TypeId} {y : Bool} (e : cmpT P t = some y) : ∃ i, P.info? t = some i ∧ i.comparable = y := by
 unfold cmpT at e
 split at e
 ·rename_i i hi; cases e; exact ⟨i, hi, rfl⟩
 ·cases e
theorem aload_ok (hF : Full w0 h w) {t : TypeId} {b o : Nat} {v : Value} (e : aload P h t b o = some v) :
  (loadVar t ⟨b, o, none⟩).run P w = .ok v w := by
 unfold aload at e
 split at e
 ·rename_i n ha hi
  split at e
  ·rename_i cs hl
   cases e
   simp [loadVar, aggT_run ha, size_run hi, load_run hF hl]
  ·cases e
 ·rename_i n ha hi
  simp [loadVar, aggT_run ha, cellAt_ok hF e]
 ·cases e
theorem store_ok (hF : Full w0 h w) {t : TypeId} {b o : Nat} {v : Value} {h' : Heap} (e : astore w0.heap.size P h t b o v = some h') :
  ∃ w', (Instr.storeAt t (.pointer (some ⟨b, o, none⟩)) v).run P w = .ok () w' ∧ Full w0 h' w' := by
 unfold astore at e
 split at e
 ·rename_i n hi
  split at e
  ·rename_i hl
   obtain ⟨w', h1, h2⟩ := setN_ok (P := P) hF e
   exact ⟨w', by simp [Instr.storeAt, Instr.sureAddr, storeVar, size_run hi, hl, h1], h2⟩
  ·cases e
 ·cases e
theorem alloc_ok (hF : Full w0 h w) {e : TypeId} {z : Value} (hz : zeroT P e = some z) :
  ∃ w', (Instr.alloc e true (.tuple #[])).run P w = .ok (ptr h.n 0) w' ∧ Full w0 (h.new (.cells z.cells.toList e 0 0)) w' := by
 obtain ⟨h1, h2⟩ := newRow_ok (P := P) hF (e := e) (c := z.cells.toList)
 rw [Array.toArray_toList] at h1 h2
 exact ⟨_, by simp [Instr.alloc, zero_run hz, newVar, h1], h2⟩
theorem box_ok (hF : Full w0 h w) {e : TypeId} {v : Value} :
  ∃ w', (Instr.box e v).run P w = .ok (ptr h.n 0) w' ∧ Full w0 (h.new (.cells v.cells.toList e 0 0)) w' := by
 obtain ⟨h1, h2⟩ := newRow_ok (P := P) hF (e := e) (c := v.cells.toList)
 rw [Array.toArray_toList] at h1 h2
 exact ⟨_, by simp [Instr.box, newVar, h1], h2⟩
theorem get_map (hF : Full w0 h w) {b : Nat} {es : List MapEntry} {clock : Nat} (e : h.at b = some (.map es clock)) :
  w.heap[b]? = some (.map es.toArray clock) ∧ (getObj b).run P w = .ok (.map es.toArray clock) w := by
 have hO := hF.den b _ e
 exact ⟨hO, by simp [getObj, Sem.run, hO, AO.obj]⟩
theorem setObj_ok (hF : Full w0 h w) {b : Nat} (hb : w0.heap.size ≤ b) {O o' : AO} (ha : h.at b = some O) (hc : ∀ c e lo hi, O ≠ .cells c e lo hi) :
  ∃ w', (setObj b o'.obj).run P w = .ok () w' ∧ Full w0 (h.put b o') w' := by
 have hQ := hF.den b _ ha
 have hlt' : b < w.heap.size := (Array.getElem?_eq_some_iff.1 hQ).1
 refine ⟨{ w with heap := w.heap.setIfInBounds b o'.obj }, ?_, hF.turn hb (o := o') ?_ ?_ ?_ rfl rfl rfl⟩
 ·cases O with
  | cells c e lo hi => exact absurd rfl (hc c e lo hi)
  | map es clock => simp [setObj, Sem.run, hQ, AO.obj]
  | miter m since seen st => simp [setObj, Sem.run, hQ, AO.obj]
  | siter s pos => simp [setObj, Sem.run, hQ, AO.obj]
 ·simp [hlt']
 ·simp
 ·intro k hk
  simp [Array.getElem?_setIfInBounds_ne (Ne.symm hk)]
end
end Go.Proofs.YtbjaapiliegegaaGreatDoor.Sy
end
section
namespace Go.Proofs.YtbjaapiliegegaaGreatDoor.Sy
open Go Go.RowKit
section
variable {w0 : World} {h : Heap} {w : World} {P : Program}
@[simp] theorem bytes_mk (l : List UInt8) : bytes ⟨l.toArray⟩ = l := rfl
theorem bytes_toList (s : ByteArray) : s.toList = bytes s := ByteArray.toList_eq s
theorem mk_bytes (s : ByteArray) : (⟨(bytes s).toArray⟩ : ByteArray) = s := by unfold bytes; rw [Array.toArray_toList]
theorem bytes_size (s : ByteArray) : s.size = (bytes s).length := by unfold bytes; rw [Array.length_toList]; rfl
theorem meth_run {t : TypeId} {name : String} {f : FuncId} {b : Bool} (e : ameth P t name = some (f, b)) :
  ∃ i m, P.info? t = some i ∧ i.methods.find? (·.name == name) = some m ∧ m.path.toList = [] ∧ m.func = some (f, b) := by
 unfold ameth at e
 split at e
 ·rename_i i hi
  split at e
  ·rename_i m hm
   split at e
   ·rename_i hp
    exact ⟨i, m, hi, hm, by simpa using hp, e⟩
   ·cases e
  ·cases e
 ·cases e
theorem amethod_run {t : TypeId} {V : Value} {name : String} {f : FuncId} (e : amethod P t name = some f) (n : Nat) (w : World) :
  (method (n + 1) t V name).run P w = .ok (f, V) w := by
 unfold amethod at e
 split at e <;> first | cases e | skip
 all_goals
  rename_i hu hm
  obtain ⟨i, m, hi, hf, hp, hfn⟩ := meth_run hm
  simp [method, info_run hi, hf, hp, follow, hfn, receiverAt, run_underlying hu, Place.get]
theorem bytes_beq (a b : ByteArray) : (a == b) = (bytes a == bytes b) := by
 show (a.data == b.data) = _
 cases a; cases b
 rename_i a b
 simp only [bytes]
 rw [Bool.eq_iff_iff]
 simp
theorem equal_ok : ∀ (d k : Nat) {t : TypeId} {x y : Value} {r : Bool}, aequal P d t x y = some r →
  (Op.equalIn (d + k) t x y).run P w = .ok r w := by
 intro d
 induction d with
 | zero => intro k t x y r e; simp [aequal] at e
 | succ d ih =>
  intro k t x y r e
  rw [show d + 1 + k = (d + k) + 1 by omega]
  unfold aequal at e
  split at e <;> first | cases e | skip
  case _ hu => simp [Op.equalIn, run_underlying hu]
  case _ hu =>
   split at e
   ·rename_i hk; cases e; subst hk; simp [Op.equalIn, run_underlying hu]
   ·cases e
  case _ hu => simp [Op.equalIn, run_underlying hu, bytes_beq]
  case _ b hu => cases b <;> simp [Op.equalIn, run_underlying hu]
  case _ hu => simp [Op.equalIn, run_underlying hu]
  case _ hu => simp [Op.equalIn, run_underlying hu]
  case _ hu => simp [Op.equalIn, run_underlying hu]
  case _ hu => simp [Op.equalIn, run_underlying hu]
  case _ tx vx ty vy hu =>
   split at e
   ·rename_i hne; cases e; simp [Op.equalIn, run_underlying hu, hne]
   ·rename_i heq
    have heq' : tx = ty := by simpa using heq
    subst heq'
    split at e
    ·rename_i hc
     obtain ⟨i, hi, hc⟩ := cmpT_info hc
     have := ih k e
     simp [Op.equalIn, run_underlying hu, info_run hi, hc, this]
    ·cases e
  case _ b m c' hu => cases b <;> simp [Op.equalIn, run_underlying hu]
  case _ hu => simp [Op.equalIn, run_underlying hu]
  case _ b hu => cases b <;> simp [Op.equalIn, run_underlying hu]
  case _ hu => simp [Op.equalIn, run_underlying hu]
  case _ hu => simp [Op.equalIn, run_underlying hu]
  case _ hu => simp [Op.equalIn, run_underlying hu]
  case _ hu => simp [Op.equalIn, run_underlying hu]
theorem equal_run {t : TypeId} {x y : Value} {r : Bool} (e : aequal P 4 t x y = some r) : (Op.equal t x y).run P w = .ok r w :=
 equal_ok (w := w) 4 9996 e
theorem guard_ok {op : BinOp} {t : TypeId} {x y : Operand} {a b : Value} (e : guardOk op x y a b = true) :
  (eqGuard op t x y a b).run P w = .ok () w := by
 unfold eqGuard
 cases op
 case eql | neq =>
  simp only [guardOk] at e
  simp only [Bool.not_true, Bool.false_eq_true, ↓reduceIte]
  split
  ·cases x <;> cases y <;> first | rfl | (simp [isConst] at e; done)
  ·simp at e
  ·rfl
 all_goals rfl
theorem bits_ok {op : BinOp} {k : IntKind} {a b : Int} {r : Value} (e : abits op k a b = some r) : (Op.intBits op k a b).run P w = .ok r w := by
 unfold abits at e
 cases op <;> simp only at e <;> first | cases e | skip
 all_goals rfl
def other : Value → Bool
 | .int .. | .float .. | .complex .. | .string _ | .agg _ | .tuple _ | .chan _ => false
 | _ => true
theorem bin_other (t : TypeId) (X Y : Value) (h : other X = true) :
  binOp .eql t X Y = (do pure (.bool (← Op.equal t X Y))) ∧ binOp .neq t X Y = (do pure (.bool (!(← Op.equal t X Y)))) := by
 cases X <;> first | (simp [other] at h; done) | (cases Y <;> simp [binOp])
theorem bin_ok {op : BinOp} {t : TypeId} {x y r : Value} (e : abin P op t x y = some r) : (binOp op t x y).run P w = .ok r w := by
 unfold abin at e
 split at e
 ·rename_i k a k' b
  cases op
  case shl =>
   simp only at e
   split at e
   ·rename_i hb; cases e; simp [binOp, Op.shift, Int.not_lt.2 hb]
   ·cases e
  case shr =>
   simp only at e
   split at e
   ·rename_i hb; cases e; simp [binOp, Op.shift, Int.not_lt.2 hb]
   ·cases e
  all_goals
   simp only at e
   split at e
   case isFalse => cases e
   rename_i hk
   subst hk
   simp only [aint] at e
  case quo.isTrue =>
   by_cases hb : b = 0
   ·rw [if_neg (fun h => h hb)] at e; cases e
   ·rw [if_pos hb] at e; cases e; simp [binOp, Op.intDiv, hb]
  case rem.isTrue =>
   by_cases hb : b = 0
   ·rw [if_neg (fun h => h hb)] at e; cases e
   ·rw [if_pos hb] at e; cases e; simp [binOp, Op.intDiv, hb]
  case and.isTrue | or.isTrue | xor.isTrue | andNot.isTrue =>
   have := bits_ok (P := P) (w := w) e
   simpa [binOp] using this
  all_goals
   cases e
   first
    | (simp [binOp, Op.intArith]; done)
    | (simp [binOp, Op.intCmp, Bool.beq_eq_decide_eq]; done)
    | (simp [binOp, Op.intCmp]; rfl)
 ·rename_i a b
  cases op <;> simp only [astr] at e <;> first | cases e | skip
  case add =>
   split at e
   ·rename_i hl
    cases e
    have h1 : ¬ ((a.size + b.size : Nat) : Int) > IntKind.i64.max := by
     rw [bytes_size, bytes_size]
     have : IntKind.i64.max = 9223372036854775807 := rfl
     rw [this]
     have h40 : (2 : Nat) ^ 40 = 1099511627776 := rfl
     omega
    have h2 : a ++ b = ⟨(bytes a ++ bytes b).toArray⟩ := by
     apply ByteArray.ext
     simp [bytes]
    simp only [binOp, Op.stringOp, if_neg h1, Sem.run_pure, h2]
   ·cases e
  case eql.refl | neq.refl =>
   have hb : (bytes a == bytes b) = decide (bytes a = bytes b) := by rw [Bool.eq_iff_iff]; simp
   simp only [binOp, Op.stringOp, Sem.run_pure, bytes_toList, hb]
  case lss.refl => simp only [binOp, Op.stringOp, Sem.run_pure, bytes_toList]
 all_goals first | (cases e; done) | skip
 ·rename_i hni hns hfl hco hag htu hch
  have key : ∀ (r : Bool), aequal P 4 t x y = some r → (binOp .eql t x y).run P w = .ok (.bool r) w ∧ (binOp .neq t x y).run P w = .ok (.bool (!r)) w := by
   intro r h
   have hrun := equal_run (w := w) h
   have ho : other x = true := by
    unfold aequal at h
    split at h <;> first
     | (exact (htu _ _ _ _ rfl rfl).elim)
     | (exact (hch _ _ rfl rfl).elim)
     | (cases h; done)
     | rfl
   obtain ⟨h1, h2⟩ := bin_other t x y ho
   rw [h1, h2]
   simp [hrun]
  cases op <;> simp only at e <;> first | cases e | skip
  all_goals
   split at e
   ·rename_i r' h
    cases e
    first
     | exact (key _ h).1
     | exact (key _ h).2
   ·cases e
theorem un_ok {op : UnOp} {x r : Value} (e : aun op x = some r) : (Op.unary op x).run P w = .ok r w := by
 unfold aun at e
 split at e <;> cases e
 ·rfl
 ·simp [Op.unary, Op.intArith]
theorem bound_ok {x : Value} {y : Nat} {code : BoundsCode} (e : bndP x y) : (Instr.sliceBound x y code).run P w = .ok (bndN x) w := by
 unfold bndP at e
 split at e
 ·simp [Instr.sliceBound, asIntOf, e, bndN]
 ·cases e
theorem bounds_ok {s : Bool} {len cap : Nat} {lo hi mx : Option Value} (e : boundsP len cap lo hi mx) :
  (Instr.sliceBounds s len cap lo hi mx).run P w = .ok (lowN lo, highN hi len, highN mx cap) w := by
 obtain ⟨h3, h2, h1⟩ := e
 have hb : ∀ {x : Value} {y : Nat}, bndP x y → ∀ code, (Instr.sliceBound x y code).run P w = .ok (bndN x) w := fun h c => bound_ok h
 cases mx with
 | none =>
  cases hi with
  | none =>
   cases lo with
   | none => simp [Instr.sliceBounds, lowN, highN]
   | some v => simp [Instr.sliceBounds, lowN, highN, hb (show bndP v len from h1)]
  | some u =>
   have h2' : bndP u cap := h2
   cases lo with
   | none => simp [Instr.sliceBounds, lowN, highN, hb h2']
   | some v => simp [Instr.sliceBounds, lowN, highN, hb h2', hb (show bndP v (bndN u) from h1)]
 | some z =>
  have h3' : bndP z cap := h3
  cases hi with
  | none => cases h2
  | some u =>
   have h2' : bndP u (bndN z) := h2
   cases lo with
   | none => simp [Instr.sliceBounds, lowN, highN, hb h3', hb h2']
   | some v => simp [Instr.sliceBounds, lowN, highN, hb h3', hb h2', hb (show bndP v (bndN u) from h1)]
theorem moved_eq (a : Option Addr) (k : Nat) : a.map (·.add k) = moved a k := by
 cases a with
 | none => rfl
 | some p =>
  obtain ⟨b, o, s⟩ := p
  cases s with
  | none => simp [moved, add_at]
  | some s => rfl
theorem slice_ok {t : TypeId} {x v : Value} {lo hi mx : Option Value} (e : aslice P t x lo hi mx = some v) :
  (Instr.sliceAt t x lo hi mx).run P w = .ok v w := by
 unfold aslice at e
 split at e
 ·rename_i s hu
  split at e
  ·cases e
  ·split at e
   ·rename_i hb
    cases e
    have hr := bounds_ok (P := P) (w := w) (s := false) hb
    simp only [Instr.sliceAt, Sem.run_bind, run_underlying hu, Result.andThen_ok, Instr.slice]
    simp only [Option.isSome_none, Bool.false_eq_true, if_false]
    rw [bytes_size]
    simp only [Sem.run_bind, hr, Result.andThen_ok, Sem.run_pure]
    congr 2
    apply ByteArray.ext
    apply Array.toList_inj.1
    generalize (bytes s).length = n
    unfold bytes
    simp only [ByteArray.data_extract, Array.toList_extract, List.extract_eq_take_drop, List.toList_toArray, List.drop_take]
   ·cases e
 ·rename_i el a len cap hu
  split at e
  ·rename_i z hz
   split at e
   ·rename_i hb
    cases e
    have hr := bounds_ok (P := P) (w := w) (s := true) hb
    simp [Instr.sliceAt, Instr.slice, run_underlying hu, hr, size_run hz, moved_eq]
   ·cases e
  ·cases e
 ·rename_i n el a hu
  split at e
  ·rename_i z hz
   split at e
   ·rename_i hb
    cases e
    have hr := bounds_ok (P := P) (w := w) (s := false) hb
    have hm := moved_eq (some a) (lowN lo * z)
    simp only [Option.map_some] at hm
    simp only [Instr.sliceAt, run_underlying hu, hr, size_run hz, Instr.sureAddr, Sem.run_bind, Result.andThen_ok, Sem.run_pure]
    split
    ·rfl
    ·rw [hm]
   ·cases e
  ·cases e
 ·cases e
theorem part_ok {t : TypeId} {C : Array Value} {off : Nat} {v : Value} (e : apart P t C.toList off = some v) : (part t C off).run P w = .ok v w := by
 unfold apart at e
 split at e
 ·rename_i z ha hz
  cases e
  simp only [part, Sem.run_bind, aggT_run ha, Result.andThen_ok, size_run hz, Sem.run_pure, if_true]
  congr 2
  apply Array.toList_inj.1
  simp [List.extract_eq_take_drop]
 ·rename_i z ha hz
  have hV' : C[off]? = some v := by simpa using e
  simp [part, aggT_run ha, hV']
 ·cases e
theorem field_off {t : TypeId} {f off : Nat} {ft : TypeId} (e : fieldOff P t f = some (off, ft)) : ∃ fs x, P.underlying t = some (.struct fs) ∧ fs[f]? = some x ∧ x.offset = off ∧ x.type = ft := by
 unfold fieldOff at e
 split at e
 ·rename_i fs hu
  split at e
  ·rename_i x hx
   cases e
   exact ⟨fs, x, hu, hx, rfl, rfl⟩
  ·cases e
 ·cases e
theorem fieldAddr_ok {t : TypeId} {f b o off z : Nat} {ft : TypeId} (e : fieldOff P t f = some (off, ft)) (hi : sizeT P ft = some z) (hz : z ≠ 0) :
  (Instr.fieldAt t (.pointer (some ⟨b, o, none⟩)) f).run P w = .ok (.pointer (some ⟨b, o + off, none⟩)) w := by
 obtain ⟨fs, x, hu, hx, rfl, rfl⟩ := field_off e
 simp [Instr.fieldAt, run_underlying hu, hx, Instr.sureAddr, fieldPlace, size_run hi, hz, add_at]
theorem field_ok {t : TypeId} {f off : Nat} {ft : TypeId} {C : Array Value} {v : Value} (e : fieldOff P t f = some (off, ft)) (ep : apart P ft C.toList off = some v) :
  (Instr.field t (.agg C) f).run P w = .ok v w := by
 obtain ⟨fs, x, hu, hx, rfl, rfl⟩ := field_off e
 simp [Instr.field, run_underlying hu, hx, asAgg, part_ok (w := w) ep]
theorem indexAddr_ok {t : TypeId} {x ix v : Value} (e : aindexAddr P t x ix = some v) : (Instr.indexAt t x ix).run P w = .ok v w := by
 unfold aindexAddr at e
 split at e
 ·rename_i k j
  split at e
  ·rename_i el b o len c hu
   split at e
   ·rename_i z hz
    split at e
    ·rename_i hj
     cases e
     simp [Instr.indexAt, asIntOf, run_underlying hu, hj, size_run hz, add_at]
    ·cases e
   ·cases e
  ·rename_i len el b o hu
   split at e
   ·rename_i z hz
    split at e
    ·rename_i hj
     cases e
     simp [Instr.indexAt, asIntOf, run_underlying hu, hj, size_run hz, add_at, Instr.sureAddr]
    ·cases e
   ·cases e
  ·cases e
 ·cases e
theorem nth_get {l : List UInt8} {i : Nat} (h : i < l.length) : l[i]? = some (nth l i) := by
 simp [nth, h]
theorem index_ok {t : TypeId} {x ix v : Value} (e : aindex P t x ix = some v) : (Instr.index t x ix).run P w = .ok v w := by
 unfold aindex at e
 split at e
 ·rename_i k j
  split at e
  ·rename_i s hu
   split at e
   ·rename_i hj
    cases e
    have hlt : j.toNat < (bytes s).length := by omega
    have hb' : s[j.toNat]? = some (nth (bytes s) j.toNat) := by
     have h1 := nth_get hlt
     have hlt' : j.toNat < s.size := by rw [bytes_size]; exact hlt
     rw [getElem?_pos s j.toNat hlt']
     have h2 := (List.getElem?_eq_some_iff.1 h1).2
     rw [← h2]
     congr 1
    simp [Instr.index, asIntOf, run_underlying hu, hj.1, hb']
   ·cases e
  ·rename_i len el cs hu
   split at e
   ·rename_i ha hz
    split at e
    ·rename_i hj
     have hV : cs[j.toNat]? = some v := e
     simp [Instr.index, asIntOf, run_underlying hu, hj, size_run hz, part, aggT_run ha, hV]
    ·cases e
   ·cases e
  ·cases e
 ·cases e
theorem assert_ok {x v : Value} {xt asserted : TypeId} {ok : Bool} (e : atypeAssert P x asserted ok = some v) :
  (Instr.typeAssert x xt asserted ok).run P w = .ok v w := by
 unfold atypeAssert at e
 split at e
 ·cases e
 ·rename_i d hd hu
  have plain : ∀ q : Array (String × TypeId), d ≠ .interface q := fun q hq => hd q (by rw [hq])
  split at e
  ·split at e
   ·rename_i z hz
    cases e
    cases d <;> first | (exact absurd rfl (plain _)) | simp [Instr.typeAssert, run_underlying hu, zero_run hz]
   ·cases e
  ·rename_i t y
   split at e
   ·rename_i ht
    cases e
    cases d <;> first | (exact absurd rfl (plain _)) | simp [Instr.typeAssert, run_underlying hu, ht]
   ·rename_i ht
    split at e
    ·rename_i z hz
     cases e
     cases d <;> first | (exact absurd rfl (plain _)) | simp [Instr.typeAssert, run_underlying hu, zero_run hz, ht]
    ·cases e
  ·cases e
 ·cases e
theorem nilAhead_run {t : TypeId} {V : Value} {name : String} {f : FuncId} (e : amethod P t name = some f) (n : Nat) (w : World) :
  (nilAhead (n + 1) t V name).run P w = .ok (some false) w := by
 have key : ∃ b d, ameth P t name = some (f, b) ∧ P.underlying t = some d ∧ (b = true ∨ ∀ x, d ≠ .pointer x) := by
  unfold amethod at e
  split at e
  ·rename_i h1 h2; cases e; exact ⟨_, _, h1, h2, .inl rfl⟩
  ·cases e
  ·rename_i h1 h2 h3; cases e; exact ⟨_, _, h2, h3, .inr (fun x hx => h1 x hx)⟩
  ·cases e
 obtain ⟨b, d, hm, hu, hb⟩ := key
 obtain ⟨i, m, hi, hf, hp, hfn⟩ := meth_run hm
 cases b with
 | true => simp [nilAhead, info_run hi, hf, hp, followBlind, hfn]
 | false =>
  have hd : ∀ x, d ≠ .pointer x := by rcases hb with hb | hb; cases hb; exact hb
  cases d <;> first | exact absurd rfl (hd _) | simp [nilAhead, info_run hi, hf, hp, followBlind, hfn, run_underlying hu]
theorem nilCheck_ok {o : Oper} {ρ : Operand → Value} {x : Operand} {r : Value} (ho : o.op = .nilCheck x) (e : anilCheck P (ρ x) = some r) :
  (execOp ρ o).run P w = .ok (.value r) w := by
 unfold anilCheck at e
 split at e
 ·rename_i a hv; cases e; simp only [execOp, ho, hv]; rfl
 ·rename_i a b hv; cases e; simp only [execOp, ho, hv]; rfl
 ·rename_i a b c hv; cases e; simp only [execOp, ho, hv]; rfl
 ·rename_i mm fs c hv
  split at e
  ·rename_i t v hf
   split at e
   ·rename_i f hm
    cases e
    have h1 : ∀ k, ((nilAhead (k + 100) t v mm).run P w) = .ok (some false) w := fun k => nilAhead_run hm (k + 99) w
    simp [execOp, ho, hv, hf, program, Made.depth]
    rw [show Sem.run P (Sem.program Sem.pure) w = .ok P w from rfl]
    simp [h1, Result.andThen]
   ·cases e
  ·cases e
 ·cases e
end
end Go.Proofs.YtbjaapiliegegaaGreatDoor.Sy
end
