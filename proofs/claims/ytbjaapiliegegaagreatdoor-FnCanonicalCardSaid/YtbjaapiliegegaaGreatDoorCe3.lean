/- The reckoner's other operations that write nothing: addresses, slices, parts, tests of types, builds. -/
import Derived.Test.YtbjaapiliegegaaGreatDoorCe2
namespace Go.Proofs.YtbjaapiliegegaaGreatDoor.Ce
open Go Go.RowKit

section
variable {N : Nat} {P : Program}

theorem bound_ok {w : World} {x : AV} {X : Value} {y l : Nat} {code : BoundsCode} (hx : RV N x X) (e : bound x y = some l) : (Instr.sliceBound X y code).run P w = .ok l w ∧ l ≤ y := by
  unfold bound at e
  split at e
  · rename_i k i
    split at e
    · rename_i h
      cases e
      rw [show X = _ from hx]
      exact ⟨by simp [Instr.sliceBound, asIntOf, h], by omega⟩
    · cases e
  · cases e

def RVo (N : Nat) : Option AV → Option Value → Prop
  | none, X => X = none
  | some v, X => ∃ V, X = some V ∧ RV N v V

theorem bounds_ok {w : World} {s : Bool} {len cap : Nat} {lo hi mx : Option AV} {Lo Hi Mx : Option Value} {l hh m : Nat} (e : bounds len cap lo hi mx = some (l, hh, m))
    (h1 : RVo N lo Lo) (h2 : RVo N hi Hi) (h3 : RVo N mx Mx) : (Instr.sliceBounds s len cap Lo Hi Mx).run P w = .ok (l, hh, m) w := by
  unfold bounds maxB highB lowB at e
  cases mx with
  | none =>
    rw [show Mx = none from h3]
    cases hi with
    | none =>
      rw [show Hi = none from h2]
      simp only [Option.isSome_none, Bool.false_eq_true, if_false] at e
      cases lo with
      | none =>
        rw [show Lo = none from h1]
        simp only [Option.some.injEq, Prod.mk.injEq] at e
        obtain ⟨rfl, rfl, rfl⟩ := e
        exact by simp [Instr.sliceBounds]
      | some v =>
        obtain ⟨V, rfl, hV⟩ := h1
        simp only at e
        split at e
        · cases e
        · rename_i l' hl
          cases e
          have hb := fun code => bound_ok (P := P) (w := w) (code := code) hV hl
          exact by simp [Instr.sliceBounds, (hb _).1]
    | some u =>
      obtain ⟨U, rfl, hU⟩ := h2
      simp only at e
      split at e
      · cases e
      · rename_i h' hl'
        have hb' := fun code => bound_ok (P := P) (w := w) (code := code) hU hl'
        cases lo with
        | none =>
          rw [show Lo = none from h1]
          simp only [Option.some.injEq, Prod.mk.injEq] at e
          obtain ⟨rfl, rfl, rfl⟩ := e
          exact by simp [Instr.sliceBounds, (hb' _).1]
        | some v =>
          obtain ⟨V, rfl, hV⟩ := h1
          simp only at e
          split at e
          · cases e
          · rename_i l' hl
            cases e
            have hb := fun code => bound_ok (P := P) (w := w) (code := code) hV hl
            exact by simp [Instr.sliceBounds, (hb _).1, (hb' _).1]
  | some z =>
    obtain ⟨Z, rfl, hZ⟩ := h3
    simp only at e
    split at e
    · cases e
    · rename_i m' hm
      have hbm := fun code => bound_ok (P := P) (w := w) (code := code) hZ hm
      cases hi with
      | none => simp at e
      | some u =>
        obtain ⟨U, rfl, hU⟩ := h2
        simp only at e
        split at e
        · cases e
        · rename_i h' hl'
          have hb' := fun code => bound_ok (P := P) (w := w) (code := code) hU hl'
          cases lo with
          | none =>
            rw [show Lo = none from h1]
            simp only [Option.some.injEq, Prod.mk.injEq] at e
            obtain ⟨rfl, rfl, rfl⟩ := e
            exact by simp [Instr.sliceBounds, (hb' _).1, (hbm _).1]
          | some v =>
            obtain ⟨V, rfl, hV⟩ := h1
            simp only at e
            split at e
            · cases e
            · rename_i l' hl
              cases e
              have hb := fun code => bound_ok (P := P) (w := w) (code := code) hV hl
              exact by simp [Instr.sliceBounds, (hb _).1, (hb' _).1, (hbm _).1]

theorem bound_le {x : AV} {y y' l : Nat} (e : bound x y = some l) (h : y ≤ y') : bound x y' = some l ∧ l ≤ y := by
  unfold bound at e ⊢
  split at e
  · split at e
    · cases e
      exact ⟨by rw [if_pos (by omega)], by omega⟩
    · cases e
  · cases e

theorem lowB_le {lo : Option AV} {h l : Nat} (e : lowB lo h = some l) : l ≤ h := by
  unfold lowB at e
  split at e
  · exact (bound_le e (Nat.le_refl _)).2
  · cases e; exact Nat.zero_le _

theorem bounds_parts {len cap : Nat} {lo hi mx : Option AV} {l hh m : Nat} (e : bounds len cap lo hi mx = some (l, hh, m)) :
    maxB mx cap = some m ∧ highB hi mx len m = some hh ∧ lowB lo hh = some l := by
  unfold bounds at e
  split at e
  · cases e
  · rename_i m' h1
    split at e
    · cases e
    · rename_i h' h2
      split at e
      · cases e
      · rename_i l' h3
        simp only [Option.some.injEq, Prod.mk.injEq] at e
        obtain ⟨rfl, rfl, rfl⟩ := e
        exact ⟨h1, h2, h3⟩

theorem bounds_mk {len cap : Nat} {lo hi mx : Option AV} {l hh m : Nat} (h1 : maxB mx cap = some m) (h2 : highB hi mx len m = some hh) (h3 : lowB lo hh = some l) :
    bounds len cap lo hi mx = some (l, hh, m) := by
  unfold bounds
  rw [h1]
  simp only
  rw [h2]
  simp only
  rw [h3]

theorem bounds_len {len c : Nat} {lo hi : Option AV} {l hh m : Nat} (e : bounds len len lo hi none = some (l, hh, m)) (h : len ≤ c) :
    bounds len c lo hi none = some (l, hh, c) ∧ hh ≤ len ∧ l ≤ hh := by
  obtain ⟨h1, h2, h3⟩ := bounds_parts e
  simp only [maxB, Option.some.injEq] at h1
  subst h1
  have h4 : highB hi none len c = some hh ∧ hh ≤ len := by
    unfold highB at h2 ⊢
    cases hi with
    | none => simp at h2 ⊢; omega
    | some u => exact bound_le h2 h
  exact ⟨bounds_mk rfl h4.1 h3, h4.2, lowB_le h3⟩

theorem bounds_max {len c : Nat} {lo hi : Option AV} {z : AV} {l hh m : Nat} (e : bounds len 0 lo hi (some z) = some (l, hh, m)) :
    bounds len c lo hi (some z) = some (l, hh, m) ∧ m = 0 := by
  obtain ⟨h1, h2, h3⟩ := bounds_parts e
  obtain ⟨h4, h5⟩ := bound_le (show bound z 0 = some m from h1) (Nat.zero_le c)
  exact ⟨bounds_mk h4 h2 h3, by omega⟩

theorem addr_add (a : Option (Nat × Nat)) (k : Nat) : (addr N a).map (·.add k) = addr N (a.map fun p => (p.1, p.2 + k)) := by
  cases a with
  | none => rfl
  | some p => obtain ⟨b, o⟩ := p; simp [addr, add_at]

theorem slice_ok {w : World} {t : TypeId} {x v : AV} {lo hi mx : Option AV} {X : Value} {Lo Hi Mx : Option Value} (e : aslice P t x lo hi mx = some v)
    (hx : RV N x X) (h1 : RVo N lo Lo) (h2 : RVo N hi Hi) (h3 : RVo N mx Mx) : ∃ V, (Instr.slice t X Lo Hi Mx).run P w = .ok V w ∧ RV N v V := by
  unfold aslice at e
  split at e
  · rename_i s hu
    rw [show X = _ from hx]
    split at e
    · cases e
    · rename_i hm
      have hm' : mx = none := by cases mx <;> simp at hm ⊢
      subst hm'
      rw [show Mx = none from h3]
      split at e
      · rename_i l hh m hb
        cases e
        have hr := bounds_ok (P := P) (w := w) (s := false) hb h1 h2 (show RVo N none none from rfl)
        refine ⟨.string ((⟨s.toArray⟩ : ByteArray).extract l hh), ?_, ?_⟩
        · have hsz : (⟨s.toArray⟩ : ByteArray).size = s.length := by simp [ByteArray.size]
          simp [Instr.slice, run_underlying hu, hsz, hr]
        · show Value.string _ = Value.string _
          congr 1
          apply ByteArray.ext
          simp [List.extract_eq_take_drop, List.drop_take]
      · cases e
  · rename_i el a len cap hu
    rw [show X = _ from hx]
    split at e
    · rename_i l hh m i hb hi'
      cases e
      have hr := bounds_ok (P := P) (w := w) (s := true) hb h1 h2 h3
      refine ⟨_, by simp [Instr.slice, run_underlying hu, hr, size_run hi']; rfl, ?_⟩
      show Value.slice _ _ _ = Value.slice _ _ _
      congr 1
      split
      · rfl
      · exact addr_add a _
    · cases e
  · rename_i el a len hu
    obtain ⟨c, hc, rfl⟩ := hx
    split at e
    · rename_i z
      split at e
      · rename_i m0 hi0 l hh m i hz hi' hb
        split at e
        · rename_i hml
          cases e
          obtain ⟨hb', hm0⟩ := bounds_max (c := c) hb
          have hr := bounds_ok (P := P) (w := w) (s := true) hb' h1 h2 h3
          refine ⟨_, by simp [Instr.slice, run_underlying hu, hr, size_run hi', hml]; rfl, ?_⟩
          rfl
        · cases e
      · cases e
    · rw [show Mx = none from h3]
      split at e
      · rename_i l hh m i hb hi'
        obtain ⟨hb', hle, hl⟩ := bounds_len (c := c) hb hc
        have hr := bounds_ok (P := P) (w := w) (s := true) hb' h1 h2 (show RVo N none none from rfl)
        split at e
        · rename_i hll
          cases e
          refine ⟨_, by simp [Instr.slice, run_underlying hu, hr, size_run hi', show ¬ c = l by omega]; rfl, c - l, by omega, ?_⟩
          rw [addr_add]
        · rename_i hll
          cases e
          refine ⟨.slice (if c = l then addr N a else (addr N a).map (·.add (l * i.size))) 0 (c - l), ?_, _, _, rfl⟩
          simp [Instr.slice, run_underlying hu, hr, size_run hi', show hh - l = 0 by omega]
      · cases e
  · cases e

theorem part_ok {w : World} {t : TypeId} {cs : List AV} {off : Nat} {v : AV} {C : Array Value} (e : apart P t cs off = some v) (hc : RVs N cs C.toList) :
    ∃ V, (part t C off).run P w = .ok V w ∧ RV N v V := by
  unfold apart at e
  split at e
  · rename_i i ha hi
    cases e
    refine ⟨.agg (C.extract off (off + i.size)), by simp [part, aggT_run ha, size_run hi], _, rfl, ?_⟩
    have := RVs_drop (n := off) (RVs_take (n := off + i.size) hc)
    simpa [List.drop_take, List.extract_eq_take_drop] using this
  · rename_i i ha
    obtain ⟨V, hV, hr⟩ := RVs_get hc e
    have hV' : C[off]? = some V := by simpa using hV
    exact ⟨V, by simp [part, aggT_run ha, hV'], hr⟩
  · cases e

theorem field_off {t : TypeId} {f off : Nat} {ft : TypeId} (e : fieldOff P t f = some (off, ft)) : ∃ fs x, P.underlying t = some (.struct fs) ∧ fs[f]? = some x ∧ x.offset = off ∧ x.type = ft := by
  unfold fieldOff at e
  split at e
  · rename_i fs hu
    split at e
    · rename_i x hx
      cases e
      exact ⟨fs, x, hu, hx, rfl, rfl⟩
    · cases e
  · cases e

theorem fieldAddr_ok {w : World} {t : TypeId} {f b o off : Nat} {ft : TypeId} {i : TypeInfo} (e : fieldOff P t f = some (off, ft)) (hi : P.info? ft = some i) (hz : ¬ i.size = 0) :
    (Instr.fieldAt t (.pointer (some ⟨bt N b, o, none⟩)) f).run P w = .ok (.pointer (some ⟨bt N b, o + off, none⟩)) w := by
  obtain ⟨fs, x, hu, hx, rfl, rfl⟩ := field_off e
  simp [Instr.fieldAt, run_underlying hu, hx, Instr.sureAddr, fieldPlace, size_run hi, hz, add_at]

theorem field_ok {w : World} {t : TypeId} {f off : Nat} {ft : TypeId} {cs : List AV} {v : AV} {C : Array Value} (e : fieldOff P t f = some (off, ft)) (ep : apart P ft cs off = some v) (hc : RVs N cs C.toList) :
    ∃ V, (Instr.field t (.agg C) f).run P w = .ok V w ∧ RV N v V := by
  obtain ⟨fs, x, hu, hx, rfl, rfl⟩ := field_off e
  obtain ⟨V, hV, hr⟩ := part_ok (w := w) ep hc
  exact ⟨V, by simp [Instr.field, run_underlying hu, hx, asAgg, hV], hr⟩

theorem indexAddr_ok {w : World} {t : TypeId} {x ix v : AV} {X I : Value} (e : aindexAddr P t x ix = some v) (hx : RV N x X) (hi : RV N ix I) :
    ∃ V, (Instr.indexAt t X I).run P w = .ok V w ∧ RV N v V := by
  unfold aindexAddr at e
  split at e
  · rename_i k j
    rw [show I = _ from hi]
    split at e
    · rename_i el b o len c hu
      obtain ⟨c', rfl, _⟩ := slice_RV hx
      split at e
      · rename_i hj
        split at e
        · rename_i q hq
          cases e
          refine ⟨_, ?_, rfl⟩
          simp [Instr.indexAt, asIntOf, run_underlying hu, addr, hj, size_run hq, add_at]
        · cases e
      · cases e
    · rename_i len el b o hu
      rw [show X = _ from hx]
      split at e
      · rename_i hj
        split at e
        · rename_i q hq
          cases e
          refine ⟨_, ?_, rfl⟩
          simp [Instr.indexAt, asIntOf, run_underlying hu, addr, hj, size_run hq, add_at, Instr.sureAddr]
        · cases e
      · cases e
    · cases e
  · cases e

theorem index_ok {w : World} {t : TypeId} {x ix v : AV} {X I : Value} (e : aindex P t x ix = some v) (hx : RV N x X) (hi : RV N ix I) :
    ∃ V, (Instr.index t X I).run P w = .ok V w ∧ RV N v V := by
  unfold aindex at e
  split at e
  · rename_i k j
    rw [show I = _ from hi]
    split at e
    · rename_i s hu
      rw [show X = _ from hx]
      split at e
      · rename_i hj
        split at e
        · rename_i b hb
          cases e
          refine ⟨_, ?_, rfl⟩
          have hb' : (⟨s.toArray⟩ : ByteArray)[j.toNat]? = some b := by
            obtain ⟨hlt, he⟩ := List.getElem?_eq_some_iff.1 hb
            have hlt' : j.toNat < (⟨s.toArray⟩ : ByteArray).size := by simpa [ByteArray.size] using hlt
            rw [getElem?_pos (⟨s.toArray⟩ : ByteArray) j.toNat hlt']
            exact congrArg some he
          simp [Instr.index, asIntOf, run_underlying hu, hj, hb']
        · cases e
      · cases e
    · rename_i len el cs hu
      obtain ⟨C, rfl, hc⟩ := hx
      split at e
      · rename_i hj
        split at e
        · rename_i q hq
          obtain ⟨V, hV, hr⟩ := part_ok (w := w) e hc
          exact ⟨V, by simp [Instr.index, asIntOf, run_underlying hu, hj, size_run hq, hV], hr⟩
        · cases e
      · cases e
    · cases e
  · cases e

theorem assert_ok {w : World} {x v : AV} {X : Value} {xt asserted : TypeId} {ok : Bool} (e : atypeAssert P x asserted ok = some v) (hx : RV N x X) :
    ∃ V, (Instr.typeAssert X xt asserted ok).run P w = .ok V w ∧ RV N v V := by
  unfold atypeAssert at e
  split at e
  · cases e
  · rename_i d hd hu
    have two : ∀ {a : AV} {A : Value} {b : Bool}, RV N a A → RV N (.tuple [a, .bool b]) (.tuple #[A, .bool b]) := fun h => ⟨_, rfl, _, _, rfl, h, _, _, rfl, rfl, rfl⟩
    have plain : ∀ q : Array (String × TypeId), d ≠ .interface q := fun q hq => hd q (by rw [hq])
    split at e
    · split at e
      · rename_i z hz
        cases e
        obtain ⟨Z, hZ, hr, _⟩ := azero_run (N := N) hz w
        rw [show X = _ from hx]
        refine ⟨_, ?_, two hr⟩
        cases d <;> first | (exact absurd rfl (plain _)) | simp [Instr.typeAssert, run_underlying hu, hZ]
      · cases e
    · rename_i t y
      obtain ⟨Y, rfl, hY⟩ := hx
      split at e
      · rename_i ht
        cases e
        refine ⟨_, ?_, two hY⟩
        cases d <;> first | (exact absurd rfl (plain _)) | simp [Instr.typeAssert, run_underlying hu, ht]
      · rename_i ht
        split at e
        · rename_i z hz
          cases e
          obtain ⟨Z, hZ, hr, _⟩ := azero_run (N := N) hz w
          refine ⟨_, ?_, two hr⟩
          cases d <;> first | (exact absurd rfl (plain _)) | simp [Instr.typeAssert, run_underlying hu, hZ, ht]
        · cases e
    · cases e
  · cases e

theorem nilCheck_ok {w : World} {o : Oper} {ρ : Operand → Value} {x : Operand} {v r : AV} (ho : o.op = .nilCheck x) (hv : RV N v (ρ x)) (e : anilCheck P v = some r) :
    (execOp ρ o).run P w = .ok (.value (ρ x)) w ∧ r = v := by
  unfold anilCheck at e
  split at e
  · rename_i p
    cases e
    refine ⟨?_, rfl⟩
    have h : ρ x = .pointer (addr N (some p)) := hv
    simp only [execOp, ho, h]
    rfl
  · cases e
    refine ⟨?_, rfl⟩
    obtain ⟨U, h, _⟩ := hv
    simp only [execOp, ho, h]
    rfl
  · cases e
    refine ⟨?_, rfl⟩
    obtain ⟨F, C, h, _⟩ := hv
    simp only [execOp, ho, h]
    rfl
  · rename_i name t y fs c
    split at e
    · rename_i q hq
      cases e
      obtain ⟨F, C, hfn, hF, hC⟩ := hv
      obtain ⟨W, Ws, hFe, ⟨U, hW, hU⟩, hWs⟩ := hF
      refine ⟨?_, rfl⟩
      obtain ⟨g, rc⟩ := q
      have hF0 : F[0]? = some (.iface t U) := by rw [← Array.getElem?_toList, hFe, hW]; rfl
      have hna : ∀ n, (nilAhead (n + 1) t U name).run P w = .ok (some false) w := by
        intro n
        unfold amethod at hq
        split at hq <;> first | (cases hq; done) | skip
        · rename_i hm hu
          obtain ⟨i, m, hi, hfm, hp, hfn'⟩ := meth_run hm
          simp [nilAhead, info_run hi, hfm, hp, followBlind, hfn']
        · rename_i d hd hm hu
          obtain ⟨i, m, hi, hfm, hp, hfn'⟩ := meth_run hm
          simp only [nilAhead, Sem.run_bind, info_run hi, Result.andThen_ok, hfm, hp, followBlind, Sem.run_pure, hfn', run_underlying hu]
          cases d <;> first | rfl | exact (hd _ rfl).elim
      simp only [execOp, ho, hfn, hF0]
      simp [hna, show P.types.size + Made.depth = (P.types.size + 99) + 1 from rfl]
    · cases e
  · cases e

end
end Go.Proofs.YtbjaapiliegegaaGreatDoor.Ce
