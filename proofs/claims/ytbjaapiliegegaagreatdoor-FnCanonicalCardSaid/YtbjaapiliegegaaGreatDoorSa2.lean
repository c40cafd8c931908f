/- Runs over known values: operations that write nothing, part one. -/
import Derived.Test.YtbjaapiliegegaaGreatDoorSa1
namespace Go.Proofs.YtbjaapiliegegaaGreatDoor.Sy
open Go Go.RowKit

section
variable {w0 : World} {h : Heap} {w : World} {P : Program}

@[simp] theorem bytes_mk (l : List UInt8) : bytes ⟨l.toArray⟩ = l := rfl
theorem bytes_toList (s : ByteArray) : s.toList = bytes s := ByteArray.toList_eq s
theorem mk_bytes (s : ByteArray) : (⟨(bytes s).toArray⟩ : ByteArray) = s := by unfold bytes; rw [Array.toArray_toList]
theorem bytes_size (s : ByteArray) : s.size = (bytes s).length := by unfold bytes; rw [Array.length_toList]; rfl

theorem meth_run {t : TypeId} {name : String} {f : FuncId} {b : Bool} (e : ameth P t name = some (f, b)) :
    ∃ i m, P.info? t = some i ∧ i.methods.find? (·.name == name) = some m ∧ m.path.toList = [] ∧ m.func = some (f, b) := by
  unfold ameth at e
  split at e
  · rename_i i hi
    split at e
    · rename_i m hm
      split at e
      · rename_i hp
        exact ⟨i, m, hi, hm, by simpa using hp, e⟩
      · cases e
    · cases e
  · cases e

theorem amethod_run {t : TypeId} {V : Value} {name : String} {f : FuncId} (e : amethod P t name = some f) (n : Nat) (w : World) :
    (method (n + 1) t V name).run P w = .ok (f, V) w := by
  unfold amethod at e
  split at e <;> first | cases e | skip
  all_goals
    rename_i hu hm
    obtain ⟨i, m, hi, hf, hp, hfn⟩ := meth_run hm
    simp [method, info_run hi, hf, hp, follow, hfn, receiverAt, run_underlying hu, Place.get]

theorem bytes_beq (a b : ByteArray) : (a == b) = (bytes a == bytes b) := by
  show (a.data == b.data) = _
  cases a; cases b
  rename_i a b
  simp only [bytes]
  rw [Bool.eq_iff_iff]
  simp

theorem equal_ok : ∀ (d k : Nat) {t : TypeId} {x y : Value} {r : Bool}, aequal P d t x y = some r →
    (Op.equalIn (d + k) t x y).run P w = .ok r w := by
  intro d
  induction d with
  | zero => intro k t x y r e; simp [aequal] at e
  | succ d ih =>
    intro k t x y r e
    rw [show d + 1 + k = (d + k) + 1 by omega]
    unfold aequal at e
    split at e <;> first | cases e | skip
    case _ hu => simp [Op.equalIn, run_underlying hu]
    case _ hu =>
      split at e
      · rename_i hk; cases e; subst hk; simp [Op.equalIn, run_underlying hu]
      · cases e
    case _ hu => simp [Op.equalIn, run_underlying hu, bytes_beq]
    case _ b hu => cases b <;> simp [Op.equalIn, run_underlying hu]
    case _ hu => simp [Op.equalIn, run_underlying hu]
    case _ hu => simp [Op.equalIn, run_underlying hu]
    case _ hu => simp [Op.equalIn, run_underlying hu]
    case _ hu => simp [Op.equalIn, run_underlying hu]
    case _ tx vx ty vy hu =>
      split at e
      · rename_i hne; cases e; simp [Op.equalIn, run_underlying hu, hne]
      · rename_i heq
        have heq' : tx = ty := by simpa using heq
        subst heq'
        split at e
        · rename_i hc
          obtain ⟨i, hi, hc⟩ := cmpT_info hc
          have := ih k e
          simp [Op.equalIn, run_underlying hu, info_run hi, hc, this]
        · cases e
    case _ b m c' hu => cases b <;> simp [Op.equalIn, run_underlying hu]
    case _ hu => simp [Op.equalIn, run_underlying hu]
    case _ b hu => cases b <;> simp [Op.equalIn, run_underlying hu]
    case _ hu => simp [Op.equalIn, run_underlying hu]
    case _ hu => simp [Op.equalIn, run_underlying hu]
    case _ hu => simp [Op.equalIn, run_underlying hu]
    case _ hu => simp [Op.equalIn, run_underlying hu]

theorem equal_run {t : TypeId} {x y : Value} {r : Bool} (e : aequal P 4 t x y = some r) : (Op.equal t x y).run P w = .ok r w :=
  equal_ok (w := w) 4 9996 e

theorem guard_ok {op : BinOp} {t : TypeId} {x y : Operand} {a b : Value} (e : guardOk op x y a b = true) :
    (eqGuard op t x y a b).run P w = .ok () w := by
  unfold eqGuard
  cases op
  case eql | neq =>
    simp only [guardOk] at e
    simp only [Bool.not_true, Bool.false_eq_true, ↓reduceIte]
    split
    · cases x <;> cases y <;> first | rfl | (simp [isConst] at e; done)
    · simp at e
    · rfl
  all_goals rfl

theorem bits_ok {op : BinOp} {k : IntKind} {a b : Int} {r : Value} (e : abits op k a b = some r) : (Op.intBits op k a b).run P w = .ok r w := by
  unfold abits at e
  cases op <;> simp only at e <;> first | cases e | skip
  all_goals rfl

def other : Value → Bool
  | .int .. | .float .. | .complex .. | .string _ | .agg _ | .tuple _ | .chan _ => false
  | _ => true

theorem bin_other (t : TypeId) (X Y : Value) (h : other X = true) :
    binOp .eql t X Y = (do pure (.bool (← Op.equal t X Y))) ∧ binOp .neq t X Y = (do pure (.bool (!(← Op.equal t X Y)))) := by
  cases X <;> first | (simp [other] at h; done) | (cases Y <;> simp [binOp])

theorem bin_ok {op : BinOp} {t : TypeId} {x y r : Value} (e : abin P op t x y = some r) : (binOp op t x y).run P w = .ok r w := by
  unfold abin at e
  split at e
  · rename_i k a k' b
    cases op
    case shl =>
      simp only at e
      split at e
      · rename_i hb; cases e; simp [binOp, Op.shift, Int.not_lt.2 hb]
      · cases e
    case shr =>
      simp only at e
      split at e
      · rename_i hb; cases e; simp [binOp, Op.shift, Int.not_lt.2 hb]
      · cases e
    all_goals
      simp only at e
      split at e
      case isFalse => cases e
      rename_i hk
      subst hk
      simp only [aint] at e
    case quo.isTrue =>
      by_cases hb : b = 0
      · rw [if_neg (fun h => h hb)] at e; cases e
      · rw [if_pos hb] at e; cases e; simp [binOp, Op.intDiv, hb]
    case rem.isTrue =>
      by_cases hb : b = 0
      · rw [if_neg (fun h => h hb)] at e; cases e
      · rw [if_pos hb] at e; cases e; simp [binOp, Op.intDiv, hb]
    case and.isTrue | or.isTrue | xor.isTrue | andNot.isTrue =>
      have := bits_ok (P := P) (w := w) e
      simpa [binOp] using this
    all_goals
      cases e
      first
        | (simp [binOp, Op.intArith]; done)
        | (simp [binOp, Op.intCmp, Bool.beq_eq_decide_eq]; done)
        | (simp [binOp, Op.intCmp]; rfl)
  · rename_i a b
    cases op <;> simp only [astr] at e <;> first | cases e | skip
    case add =>
      split at e
      · rename_i hl
        cases e
        have h1 : ¬ ((a.size + b.size : Nat) : Int) > IntKind.i64.max := by
          rw [bytes_size, bytes_size]
          have : IntKind.i64.max = 9223372036854775807 := rfl
          rw [this]
          have h40 : (2 : Nat) ^ 40 = 1099511627776 := rfl
          omega
        have h2 : a ++ b = ⟨(bytes a ++ bytes b).toArray⟩ := by
          apply ByteArray.ext
          simp [bytes]
        simp only [binOp, Op.stringOp, if_neg h1, Sem.run_pure, h2]
      · cases e
    case eql.refl | neq.refl =>
      have hb : (bytes a == bytes b) = decide (bytes a = bytes b) := by rw [Bool.eq_iff_iff]; simp
      simp only [binOp, Op.stringOp, Sem.run_pure, bytes_toList, hb]
    case lss.refl => simp only [binOp, Op.stringOp, Sem.run_pure, bytes_toList]
  all_goals first | (cases e; done) | skip
  · rename_i hni hns hfl hco hag htu hch
    have key : ∀ (r : Bool), aequal P 4 t x y = some r → (binOp .eql t x y).run P w = .ok (.bool r) w ∧ (binOp .neq t x y).run P w = .ok (.bool (!r)) w := by
      intro r h
      have hrun := equal_run (w := w) h
      have ho : other x = true := by
        unfold aequal at h
        split at h <;> first
          | (exact (htu _ _ _ _ rfl rfl).elim)
          | (exact (hch _ _ rfl rfl).elim)
          | (cases h; done)
          | rfl
      obtain ⟨h1, h2⟩ := bin_other t x y ho
      rw [h1, h2]
      simp [hrun]
    cases op <;> simp only at e <;> first | cases e | skip
    all_goals
      split at e
      · rename_i r' h
        cases e
        first
          | exact (key _ h).1
          | exact (key _ h).2
      · cases e

theorem un_ok {op : UnOp} {x r : Value} (e : aun op x = some r) : (Op.unary op x).run P w = .ok r w := by
  unfold aun at e
  split at e <;> cases e
  · rfl
  · simp [Op.unary, Op.intArith]

theorem bound_ok {x : Value} {y : Nat} {code : BoundsCode} (e : bndP x y) : (Instr.sliceBound x y code).run P w = .ok (bndN x) w := by
  unfold bndP at e
  split at e
  · simp [Instr.sliceBound, asIntOf, e, bndN]
  · cases e

theorem bounds_ok {s : Bool} {len cap : Nat} {lo hi mx : Option Value} (e : boundsP len cap lo hi mx) :
    (Instr.sliceBounds s len cap lo hi mx).run P w = .ok (lowN lo, highN hi len, highN mx cap) w := by
  obtain ⟨h3, h2, h1⟩ := e
  have hb : ∀ {x : Value} {y : Nat}, bndP x y → ∀ code, (Instr.sliceBound x y code).run P w = .ok (bndN x) w := fun h c => bound_ok h
  cases mx with
  | none =>
    cases hi with
    | none =>
      cases lo with
      | none => simp [Instr.sliceBounds, lowN, highN]
      | some v => simp [Instr.sliceBounds, lowN, highN, hb (show bndP v len from h1)]
    | some u =>
      have h2' : bndP u cap := h2
      cases lo with
      | none => simp [Instr.sliceBounds, lowN, highN, hb h2']
      | some v => simp [Instr.sliceBounds, lowN, highN, hb h2', hb (show bndP v (bndN u) from h1)]
  | some z =>
    have h3' : bndP z cap := h3
    cases hi with
    | none => cases h2
    | some u =>
      have h2' : bndP u (bndN z) := h2
      cases lo with
      | none => simp [Instr.sliceBounds, lowN, highN, hb h3', hb h2']
      | some v => simp [Instr.sliceBounds, lowN, highN, hb h3', hb h2', hb (show bndP v (bndN u) from h1)]

theorem moved_eq (a : Option Addr) (k : Nat) : a.map (·.add k) = moved a k := by
  cases a with
  | none => rfl
  | some p =>
    obtain ⟨b, o, s⟩ := p
    cases s with
    | none => simp [moved, add_at]
    | some s => rfl

theorem bounds_le {len cap : Nat} {lo hi mx : Option Value} (e : boundsP len cap lo hi mx) : lowN lo ≤ highN hi len := by
  obtain ⟨_, _, h1⟩ := e
  cases lo with
  | none => exact Nat.zero_le _
  | some v =>
    have h1' : bndP v (highN hi len) := h1
    unfold bndP at h1'
    split at h1'
    · simp [lowN, bndN]; omega
    · cases h1'

theorem slice_ok {t : TypeId} {x v : Value} {lo hi mx : Option Value} (e : aslice P t x lo hi mx = some v) :
    (Instr.sliceAt t x lo hi mx).run P w = .ok v w := by
  unfold aslice at e
  split at e
  · rename_i s hu
    split at e
    · cases e
    · split at e
      · rename_i hb
        cases e
        have hr := bounds_ok (P := P) (w := w) (s := false) hb
        simp only [Instr.sliceAt, Sem.run_bind, run_underlying hu, Result.andThen_ok, Instr.slice]
        simp only [Option.isSome_none, Bool.false_eq_true, if_false]
        rw [bytes_size]
        simp only [Sem.run_bind, hr, Result.andThen_ok, Sem.run_pure]
        congr 2
        apply ByteArray.ext
        apply Array.toList_inj.1
        generalize (bytes s).length = n
        unfold bytes
        simp only [ByteArray.data_extract, Array.toList_extract, List.extract_eq_take_drop, List.toList_toArray, List.drop_take]
      · cases e
  · rename_i el a len cap hu
    split at e
    · rename_i z hz
      split at e
      · rename_i hb
        cases e
        have hr := bounds_ok (P := P) (w := w) (s := true) hb
        simp [Instr.sliceAt, Instr.slice, run_underlying hu, hr, size_run hz, moved_eq]
      · cases e
    · cases e
  · rename_i n el a hu
    split at e
    · rename_i z hz
      split at e
      · rename_i hb
        cases e
        have hr := bounds_ok (P := P) (w := w) (s := false) hb
        have hm := moved_eq (some a) (lowN lo * z)
        simp only [Option.map_some] at hm
        simp only [Instr.sliceAt, run_underlying hu, hr, size_run hz, Instr.sureAddr, Sem.run_bind, Result.andThen_ok, Sem.run_pure]
        split
        · rfl
        · rw [hm]
      · cases e
    · cases e
  · cases e

theorem part_ok {t : TypeId} {C : Array Value} {off : Nat} {v : Value} (e : apart P t C.toList off = some v) : (part t C off).run P w = .ok v w := by
  unfold apart at e
  split at e
  · rename_i z ha hz
    cases e
    simp only [part, Sem.run_bind, aggT_run ha, Result.andThen_ok, size_run hz, Sem.run_pure, if_true]
    congr 2
    apply Array.toList_inj.1
    simp [List.extract_eq_take_drop]
  · rename_i z ha hz
    have hV' : C[off]? = some v := by simpa using e
    simp [part, aggT_run ha, hV']
  · cases e

theorem field_off {t : TypeId} {f off : Nat} {ft : TypeId} (e : fieldOff P t f = some (off, ft)) : ∃ fs x, P.underlying t = some (.struct fs) ∧ fs[f]? = some x ∧ x.offset = off ∧ x.type = ft := by
  unfold fieldOff at e
  split at e
  · rename_i fs hu
    split at e
    · rename_i x hx
      cases e
      exact ⟨fs, x, hu, hx, rfl, rfl⟩
    · cases e
  · cases e

theorem fieldAddr_ok {t : TypeId} {f b o off z : Nat} {ft : TypeId} (e : fieldOff P t f = some (off, ft)) (hi : sizeT P ft = some z) (hz : z ≠ 0) :
    (Instr.fieldAt t (.pointer (some ⟨b, o, none⟩)) f).run P w = .ok (.pointer (some ⟨b, o + off, none⟩)) w := by
  obtain ⟨fs, x, hu, hx, rfl, rfl⟩ := field_off e
  simp [Instr.fieldAt, run_underlying hu, hx, Instr.sureAddr, fieldPlace, size_run hi, hz, add_at]

theorem field_ok {t : TypeId} {f off : Nat} {ft : TypeId} {C : Array Value} {v : Value} (e : fieldOff P t f = some (off, ft)) (ep : apart P ft C.toList off = some v) :
    (Instr.field t (.agg C) f).run P w = .ok v w := by
  obtain ⟨fs, x, hu, hx, rfl, rfl⟩ := field_off e
  simp [Instr.field, run_underlying hu, hx, asAgg, part_ok (w := w) ep]

theorem indexAddr_ok {t : TypeId} {x ix v : Value} (e : aindexAddr P t x ix = some v) : (Instr.indexAt t x ix).run P w = .ok v w := by
  unfold aindexAddr at e
  split at e
  · rename_i k j
    split at e
    · rename_i el b o len c hu
      split at e
      · rename_i z hz
        split at e
        · rename_i hj
          cases e
          simp [Instr.indexAt, asIntOf, run_underlying hu, hj, size_run hz, add_at]
        · cases e
      · cases e
    · rename_i len el b o hu
      split at e
      · rename_i z hz
        split at e
        · rename_i hj
          cases e
          simp [Instr.indexAt, asIntOf, run_underlying hu, hj, size_run hz, add_at, Instr.sureAddr]
        · cases e
      · cases e
    · cases e
  · cases e

theorem nth_get {l : List UInt8} {i : Nat} (h : i < l.length) : l[i]? = some (nth l i) := by
  simp [nth, h]

theorem index_ok {t : TypeId} {x ix v : Value} (e : aindex P t x ix = some v) : (Instr.index t x ix).run P w = .ok v w := by
  unfold aindex at e
  split at e
  · rename_i k j
    split at e
    · rename_i s hu
      split at e
      · rename_i hj
        cases e
        have hlt : j.toNat < (bytes s).length := by omega
        have hb' : s[j.toNat]? = some (nth (bytes s) j.toNat) := by
          have h1 := nth_get hlt
          have hlt' : j.toNat < s.size := by rw [bytes_size]; exact hlt
          rw [getElem?_pos s j.toNat hlt']
          have h2 := (List.getElem?_eq_some_iff.1 h1).2
          rw [← h2]
          congr 1
        simp [Instr.index, asIntOf, run_underlying hu, hj.1, hb']
      · cases e
    · rename_i len el cs hu
      split at e
      · rename_i ha hz
        split at e
        · rename_i hj
          have hV : cs[j.toNat]? = some v := e
          simp [Instr.index, asIntOf, run_underlying hu, hj, size_run hz, part, aggT_run ha, hV]
        · cases e
      · cases e
    · cases e
  · cases e

theorem assert_ok {x v : Value} {xt asserted : TypeId} {ok : Bool} (e : atypeAssert P x asserted ok = some v) :
    (Instr.typeAssert x xt asserted ok).run P w = .ok v w := by
  unfold atypeAssert at e
  split at e
  · cases e
  · rename_i d hd hu
    have plain : ∀ q : Array (String × TypeId), d ≠ .interface q := fun q hq => hd q (by rw [hq])
    split at e
    · split at e
      · rename_i z hz
        cases e
        cases d <;> first | (exact absurd rfl (plain _)) | simp [Instr.typeAssert, run_underlying hu, zero_run hz]
      · cases e
    · rename_i t y
      split at e
      · rename_i ht
        cases e
        cases d <;> first | (exact absurd rfl (plain _)) | simp [Instr.typeAssert, run_underlying hu, ht]
      · rename_i ht
        split at e
        · rename_i z hz
          cases e
          cases d <;> first | (exact absurd rfl (plain _)) | simp [Instr.typeAssert, run_underlying hu, zero_run hz, ht]
        · cases e
    · cases e
  · cases e

theorem nilCheck_ok {o : Oper} {ρ : Operand → Value} {x : Operand} {r : Value} (ho : o.op = .nilCheck x) (e : anilCheck (ρ x) = some r) :
    (execOp ρ o).run P w = .ok (.value r) w := by
  unfold anilCheck at e
  split at e
  · rename_i a hv; cases e; simp only [execOp, ho, hv]; rfl
  · rename_i a b hv; cases e; simp only [execOp, ho, hv]; rfl
  · rename_i a b c hv; cases e; simp only [execOp, ho, hv]; rfl
  · cases e
end
end Go.Proofs.YtbjaapiliegegaaGreatDoor.Sy
