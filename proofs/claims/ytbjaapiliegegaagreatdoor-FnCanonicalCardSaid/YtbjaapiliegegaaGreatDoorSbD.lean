/- Contracts by the kit: bytes.ToLower, laws.works. -/
import Derived.Test.YtbjaapiliegegaaGreatDoorSbC
import Derived.Test.YtbjaapiliegegaaGreatDoorLib2
import Derived.Test.YtbjaapiliegegaaGreatDoorCe13
namespace Go.Proofs.YtbjaapiliegegaaGreatDoor.Sy
open Go
set_option maxRecDepth 100000
set_option pp.maxSteps 3000
set_option linter.unusedSimpArgs false
set_option linter.unusedVariables false
variable {w0 : World} {h : Heap}

/-- What a world's block holds. -/
def aoOf : Option Obj → Option AO
  | some (.cells c e mk) => some (.cells c.toList e mk.1 mk.2)
  | _ => none
theorem aoOf_obj {x : Option Obj} {o : AO} (h : aoOf x = some o) : x = some o.obj := by
  unfold aoOf at h
  split at h
  · cases h
    simp [AO.obj]
  · cases h
/-- The known blocks, and all new ones of a world. -/
def seen (h : Heap) (w : World) : Heap := ⟨w.heap.size, fun c => match decide (c < h.n) with
  | true => h.l c
  | false => aoOf w.heap[c]?⟩
theorem seen_old {w : World} {c : Nat} (hc : c < h.n) : (seen h w).at c = h.at c := by
  show (match decide (c < h.n) with | true => h.l c | false => aoOf w.heap[c]?) = _
  rw [decide_eq_true hc]
  rfl
theorem seen_new {w : World} {c : Nat} (hc : h.n ≤ c) : (seen h w).at c = aoOf w.heap[c]? := by
  show (match decide (c < h.n) with | true => h.l c | false => aoOf w.heap[c]?) = _
  rw [decide_eq_false (Nat.not_lt.2 hc)]
theorem seen_ext {w : World} (hs : h.n ≤ w.heap.size) : Ext h (seen h w) := ⟨hs, fun _ hc => seen_old hc⟩
theorem seen_full {w w' : World} (hF : Full w0 h w) (hb : RowKit.Below w.heap.size w w') : Full w0 (seen h w') w' := by
  refine ⟨rfl, fun b o e => ?_, hF.below.trans (hb.mono hF.below.size)⟩
  rcases Nat.lt_or_ge b h.n with hc | hc
  · rw [seen_old hc] at e
    rw [hb.block b (by rw [hF.size]; exact hc)]
    exact hF.den b o e
  · rw [seen_new hc] at e
    exact aoOf_obj e
/-- A contract of the kit, as one here. -/
theorem ACall.of_calls {f : FuncId} {args : List Value} {Q : Value → Heap → Prop} (R : World → Value → World → Prop)
    (e : ∀ w, Full w0 h w → Calls Tryz.prog f args.toArray w fun e w' => ∃ v, e = .returned v ∧ RowKit.Below w.heap.size w w' ∧ R w v w')
    (hq : ∀ w v w', Full w0 h w → RowKit.Below w.heap.size w w' → R w v w' → Q v (seen h w')) : ACall Tryz.prog w0 f args h Q :=
  fun w hF => Calls.mono (e w hF) fun _ w' ⟨v, h1, h2, h3⟩ => ⟨v, seen h w', h1, seen_full hF h2, hq w v w' hF h2 h3⟩

theorem bytesOf_in {w : World} (hF : Full w0 h w) {b : Nat} {pre post : List Value} {m : List UInt8} {e : TypeId} {lo hi : Nat} (hat : h.at b = some (.cells (pre ++ (byteVals m ++ post)) e lo hi)) : Lib.Bytes w b pre.length ⟨m.toArray⟩ := by
  intro i hi'
  have hi2 : i < m.length := hi'
  have h1 := hF.den b _ hat
  unfold World.cell?
  simp only [h1, AO.obj, Option.isSome_none, Bool.false_eq_true, if_false, List.getElem?_toArray]
  rw [mid_get pre post m i hi2]
  have : (⟨m.toArray⟩ : ByteArray)[i]'hi' = nth m i := by
    unfold nth
    rw [List.getD_eq_getElem?_getD, List.getElem?_eq_getElem hi2]
    rfl
  rw [this]

/-- Lower case, byte by byte. -/
theorem lowerA_eq (l : List UInt8) : Lib.toLowerA l = l.map lowB' := by
  refine List.map_congr_left fun b _ => ?_
  have h1 : Lib.isUpperB b = decide (65 ≤ b.toNat ∧ b.toNat ≤ 90) := by
    unfold Lib.isUpperB
    rw [Bool.eq_iff_iff, Bool.and_eq_true, decide_eq_true_eq, decide_eq_true_eq, decide_eq_true_eq, UInt8.le_iff_toNat_le, UInt8.le_iff_toNat_le]
    rfl
  unfold Lib.lowerB lowB'
  rw [h1]
  by_cases hc : 65 ≤ b.toNat ∧ b.toNat ≤ 90
  · rw [if_pos (decide_eq_true hc), if_pos hc]
  · rw [if_neg (by simpa using hc), if_neg hc]

theorem loadN_ext {h : Heap} {b n : Nat} {cs : List Value} {e : TypeId} {lo hi : Nat} {m : List UInt8} (hat : h.at b = some (.cells cs e lo hi)) (hn : n = m.length) (hc : ∀ i, i < m.length → cs[i]? = some (B (nth m i))) : loadN h b 0 n = some (byteVals m) := by
  subst hn
  have hle : m.length ≤ cs.length := by
    rcases Nat.lt_or_ge cs.length m.length with hl | hl
    · have := hc cs.length hl
      rw [List.getElem?_eq_none (Nat.le_refl _)] at this
      cases this
    · exact hl
  rw [loadN_eq, hat, loadC_some, only_pos (by omega), List.drop_zero]
  refine congrArg some (List.ext_getElem? fun i => ?_)
  rcases Nat.lt_or_ge i m.length with hi | hi
  · rw [List.getElem?_take_of_lt hi, hc i hi, byteVals_get m i hi]
  · rw [List.getElem?_eq_none (by rw [List.length_take]; omega), List.getElem?_eq_none (by rw [byteVals_length]; exact hi)]

/-- bytes.ToLower of a row of plain bytes. -/
theorem ToLower_ok (l : List UInt8) (pre post : List Value) (b cp lo hi : Nat) (h0 : 0 < l.length) (hl : l.length ≤ 140737488355328)
    (hat : h.at b = some (.cells (pre ++ (byteVals l ++ post)) 5 lo hi)) (hasc : ∀ c ∈ l, c.toNat < 128) :
    ACall Tryz.prog w0 15 [.slice (some ⟨b, pre.length, none⟩) l.length cp] h (fun v h' => Ext h h' ∧ ∃ g cap, v = .slice (some ⟨g, 0, none⟩) l.length cap ∧ loadN h' g 0 l.length = some (byteVals (l.map lowB'))) := by
  refine ACall.of_calls (fun w v w' => Lib.FreshBytes w.heap.size w' v (l.map lowB')) (fun w hF => ?_) ?_
  · have hb := bytesOf_in hF hat
    have := Any.bytes_ToLower_ascii Tryz.lays15b b pre.length cp ⟨l.toArray⟩ w hb h0 hl (fun j x hx => hasc x (List.mem_of_getElem? hx))
    refine Calls.mono this ?_
    rintro e w' ⟨v, h1, h2, h3⟩
    refine ⟨v, h1, h3, ?_⟩
    rwa [lowerA_eq] at h2
  · rintro w v w' hF hb ⟨g, cap, zs, rfl, hg, hle, _, hzl, hzr, hz, hcell, _⟩
    have hlen : (l.map lowB').length = l.length := List.length_map _
    have hn : h.n ≤ g := by rw [← hF.size]; exact hg
    refine ⟨seen_ext (by rw [← hF.size]; exact hb.size), g, cap, by rw [hlen], ?_⟩
    have hc0 := hcell 0 (by omega)
    unfold World.cell? at hc0
    cases hw : w'.heap[g]? with
    | none => simp [hw] at hc0
    | some x =>
      cases x with
      | cells C E mk =>
        refine loadN_ext (e := E) (lo := mk.1) (hi := mk.2) (cs := C.toList) (by rw [seen_new hn, hw]; rfl) hlen.symm (fun i hi => ?_)
        have h1 := hcell i (by omega)
        unfold World.cell? at h1
        simp only [hw, Option.isSome_none, Bool.false_eq_true, if_false] at h1
        rw [Array.getElem?_toList, h1]
        have h2 : zs.getD i 0 = ((nth (l.map lowB') i).toNat : Int) := by
          have hiz : i < zs.length := by omega
          have hr := hzr _ (List.getElem_mem hiz)
          have h3 : zs.getD i 0 = zs[i] := by rw [List.getD_eq_getElem?_getD, List.getElem?_eq_getElem hiz]; rfl
          have h4 : (Lib.bytesOf (zs.take (l.map lowB').length))[i]? = some (UInt8.ofNat (zs[i]).toNat) := by
            rw [Lib.bytesOf, List.getElem?_map, List.getElem?_take_of_lt hi, List.getElem?_eq_getElem hiz]
            rfl
          rw [hz, nth_get hi] at h4
          rw [Option.some.inj h4, h3, UInt8.toNat_ofNat', Nat.mod_eq_of_lt (by omega)]
          omega
        rw [h2]
      | _ => simp [hw] at hc0

/-- What works() reads stands at the start. -/
structure Ready (w : World) : Prop where
  size : 8 ≤ w.heap.size
  table : Tabled w
theorem works_ok (hR : Ready w0) : ACall Tryz.prog w0 9 [] h (fun v h' => v = .bool true ∧ Ext h h') := by
  refine ACall.of_calls (fun w v w' => v = .bool true) (fun w hF => ?_) ?_
  · have hs := hR.size
    have hz := hF.below.size
    refine Calls.mono (works_calls (w := w) (by omega) (fun i n e => (hF.below.cell (p := ⟨7, i, none⟩) (show 7 < _ by omega)).trans (hR.table i n e))) ?_
    rintro e w' ⟨rfl, hb⟩
    exact ⟨_, rfl, hb, rfl⟩
  · rintro w v w' hF hb rfl
    exact ⟨rfl, seen_ext (by rw [← hF.size]; exact hb.size)⟩
end Go.Proofs.YtbjaapiliegegaaGreatDoor.Sy
