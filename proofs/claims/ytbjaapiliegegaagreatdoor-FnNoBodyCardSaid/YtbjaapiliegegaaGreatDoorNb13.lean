/- Of the proof of FnNoBody: Ce3 Ce4 Ce5. -/
import Derived.Test.YtbjaapiliegegaaGreatDoorNb12
set_option linter.unusedVariables false
set_option linter.unusedSimpArgs false
section
namespace Go.Proofs.YtbjaapiliegegaaGreatDoor.Ce
open Go Go.RowKit
section
variable {N : Nat} {P : Program}
theorem bound_ok {w : World} {x : AV} {X : Value} {y l : Nat} {code : BoundsCode} (hx : RV N x X) (e : bound x y = some l) : (Instr.sliceBound X y code).run P w = .ok l w ∧ l ≤ y := by
 unfold bound at e
 split at e
 ·rename_i k i
  split at e
  ·rename_i h
   cases e
   rw [show X = _ from hx]
   exact ⟨by simp [Instr.sliceBound, asIntOf, h], by omega⟩
  ·cases e
 ·cases e
def RVo (N : Nat) : Option AV → Option Value → Prop
 | none, X => X = none
 | some v, X => ∃ V, X = some V ∧ RV N v V
theorem bounds_ok {w : World} {s : Bool} {len cap : Nat} {lo hi mx : Option AV} {Lo Hi Mx : Option Value} {l hh m : Nat} (e : bounds len cap lo hi mx = some (l, hh, m))
  (h1 : RVo N lo Lo) (h2 : RVo N hi Hi) (h3 : RVo N mx Mx) : (Instr.sliceBounds s len cap Lo Hi Mx).run P w = .ok (l, hh, m) w := by
 unfold bounds maxB highB lowB at e
 cases mx with
 | none =>
  rw [show Mx = none from h3]
  cases hi with
  | none =>
   rw [show Hi = none from h2]
   simp only [Option.isSome_none, Bool.false_eq_true, if_false] at e
   cases lo with
   | none =>
    rw [show Lo = none from h1]
    simp only [Option.some.injEq, Prod.mk.injEq] at e
    obtain ⟨rfl, rfl, rfl⟩ := e
    exact by simp [Instr.sliceBounds]
   | some v =>
    obtain ⟨V, rfl, hV⟩ := h1
    simp only at e
    split at e
    ·cases e
    ·rename_i l' hl
     cases e
     have hb := fun code => bound_ok (P := P) (w := w) (code := code) hV hl
     exact by simp [Instr.sliceBounds, (hb _).1]
  | some u =>
   obtain ⟨U, rfl, hU⟩ := h2
   simp only at e
   split at e
   ·cases e
   ·rename_i h' hl'
    have hb' := fun code => bound_ok (P := P) (w := w) (code := code) hU hl'
    cases lo with
    | none =>
     rw [show Lo = none from h1]
     simp only [Option.some.injEq, Prod.mk.injEq] at e
     obtain ⟨rfl, rfl, rfl⟩ := e
     exact by simp [Instr.sliceBounds, (hb' _).1]
    | some v =>
     obtain ⟨V, rfl, hV⟩ := h1
     simp only at e
     split at e
     ·cases e
     ·rename_i l' hl
      cases e
      have hb := fun code => bound_ok (P := P) (w := w) (code := code) hV hl
      exact by simp [Instr.sliceBounds, (hb _).1, (hb' _).1]
 | some z =>
  obtain ⟨Z, rfl, hZ⟩ := h3
  simp only at e
  split at e
  ·cases e
  ·rename_i m' hm
   have hbm := fun code => bound_ok (P := P) (w := w) (code := code) hZ hm
   cases hi with
   | none => simp at e
   | some u =>
    obtain ⟨U, rfl, hU⟩ := h2
    simp only at e
    split at e
    ·cases e
    ·rename_i h' hl'
     have hb' := fun code => bound_ok (P := P) (w := w) (code := code) hU hl'
     cases lo with
     | none =>
      rw [show Lo = none from h1]
      simp only [Option.some.injEq, Prod.mk.injEq] at e
      obtain ⟨rfl, rfl, rfl⟩ := e
      exact by simp [Instr.sliceBounds, (hb' _).1, (hbm _).1]
     | some v =>
      obtain ⟨V, rfl, hV⟩ := h1
      simp only at e
      split at e
      ·cases e
      ·rename_i l' hl
       cases e
       have hb := fun code => bound_ok (P := P) (w := w) (code := code) hV hl
       exact by simp [Instr.sliceBounds, (hb _).1, (hb' _).1, (hbm _).1]
theorem bound_le {x : AV} {y y' l : Nat} (e : bound x y = some l) (h : y ≤ y') : bound x y' = some l ∧ l ≤ y := by
 unfold bound at e ⊢
 split at e
 ·split at e
  ·cases e
   exact ⟨by rw [if_pos (by omega)], by omega⟩
  ·cases e
 ·cases e
theorem lowB_le {lo : Option AV} {h l : Nat} (e : lowB lo h = some l) : l ≤ h := by
 unfold lowB at e
 split at e
 ·exact (bound_le e (Nat.le_refl _)).2
 ·cases e; exact Nat.zero_le _
theorem bounds_parts {len cap : Nat} {lo hi mx : Option AV} {l hh m : Nat} (e : bounds len cap lo hi mx = some (l, hh, m)) :
  maxB mx cap = some m ∧ highB hi mx len m = some hh ∧ lowB lo hh = some l := by
 unfold bounds at e
 split at e
 ·cases e
 ·rename_i m' h1
  split at e
  ·cases e
  ·rename_i h' h2
   split at e
   ·cases e
   ·rename_i l' h3
    simp only [Option.some.injEq, Prod.mk.injEq] at e
    obtain ⟨rfl, rfl, rfl⟩ := e
    exact ⟨h1, h2, h3⟩
theorem bounds_mk {len cap : Nat} {lo hi mx : Option AV} {l hh m : Nat} (h1 : maxB mx cap = some m) (h2 : highB hi mx len m = some hh) (h3 : lowB lo hh = some l) :
  bounds len cap lo hi mx = some (l, hh, m) := by
 unfold bounds
 rw [h1]
 simp only
 rw [h2]
 simp only
 rw [h3]
theorem bounds_len {len c : Nat} {lo hi : Option AV} {l hh m : Nat} (e : bounds len len lo hi none = some (l, hh, m)) (h : len ≤ c) :
  bounds len c lo hi none = some (l, hh, c) ∧ hh ≤ len ∧ l ≤ hh := by
 obtain ⟨h1, h2, h3⟩ := bounds_parts e
 simp only [maxB, Option.some.injEq] at h1
 subst h1
 have h4 : highB hi none len c = some hh ∧ hh ≤ len := by
  unfold highB at h2 ⊢
  cases hi with
  | none => simp at h2 ⊢; omega
  | some u => exact bound_le h2 h
 exact ⟨bounds_mk rfl h4.1 h3, h4.2, lowB_le h3⟩
theorem bounds_max {len c : Nat} {lo hi : Option AV} {z : AV} {l hh m : Nat} (e : bounds len 0 lo hi (some z) = some (l, hh, m)) :
  bounds len c lo hi (some z) = some (l, hh, m) ∧ m = 0 := by
 obtain ⟨h1, h2, h3⟩ := bounds_parts e
 obtain ⟨h4, h5⟩ := bound_le (show bound z 0 = some m from h1) (Nat.zero_le c)
 exact ⟨bounds_mk h4 h2 h3, by omega⟩
theorem addr_add (a : Option (Nat × Nat)) (k : Nat) : (addr N a).map (·.add k) = addr N (a.map fun p => (p.1, p.2 + k)) := by
 cases a with
 | none => rfl
 | some p => obtain ⟨b, o⟩ := p; simp [addr, add_at]
theorem slice_ok {w : World} {t : TypeId} {x v : AV} {lo hi mx : Option AV} {X : Value} {Lo Hi Mx : Option Value} (e : aslice P t x lo hi mx = some v)
  (hx : RV N x X) (h1 : RVo N lo Lo) (h2 : RVo N hi Hi) (h3 : RVo N mx Mx) : ∃ V, (Instr.slice t X Lo Hi Mx).run P w = .ok V w ∧ RV N v V := by
 unfold aslice at e
 split at e
 ·rename_i s hu
  rw [show X = _ from hx]
  split at e
  ·cases e
  ·rename_i hm
   have hm' : mx = none := by cases mx <;> simp at hm ⊢
   subst hm'
   rw [show Mx = none from h3]
   split at e
   ·rename_i l hh m hb
    cases e
    have hr := bounds_ok (P := P) (w := w) (s := false) hb h1 h2 (show RVo N none none from rfl)
    refine ⟨.string ((⟨s.toArray⟩ : ByteArray).extract l hh), ?_, ?_⟩
    ·have hsz : (⟨s.toArray⟩ : ByteArray).size = s.length := by simp [ByteArray.size]
     simp [Instr.slice, run_underlying hu, hsz, hr]
    ·show Value.string _ = Value.string _
     congr 1
     apply ByteArray.ext
     simp [List.extract_eq_take_drop, List.drop_take]
   ·cases e
 ·rename_i el a len cap hu
  rw [show X = _ from hx]
  split at e
  ·rename_i l hh m i hb hi'
   cases e
   have hr := bounds_ok (P := P) (w := w) (s := true) hb h1 h2 h3
   refine ⟨_, by simp [Instr.slice, run_underlying hu, hr, size_run hi']; rfl, ?_⟩
   show Value.slice _ _ _ = Value.slice _ _ _
   congr 1
   split
   ·rfl
   ·exact addr_add a _
  ·cases e
 ·rename_i el a len hu
  obtain ⟨c, hc, rfl⟩ := hx
  split at e
  ·rename_i z
   split at e
   ·rename_i m0 hi0 l hh m i hz hi' hb
    split at e
    ·rename_i hml
     cases e
     obtain ⟨hb', hm0⟩ := bounds_max (c := c) hb
     have hr := bounds_ok (P := P) (w := w) (s := true) hb' h1 h2 h3
     refine ⟨_, by simp [Instr.slice, run_underlying hu, hr, size_run hi', hml]; rfl, ?_⟩
     rfl
    ·cases e
   ·cases e
  ·rw [show Mx = none from h3]
   split at e
   ·rename_i l hh m i hb hi'
    obtain ⟨hb', hle, hl⟩ := bounds_len (c := c) hb hc
    have hr := bounds_ok (P := P) (w := w) (s := true) hb' h1 h2 (show RVo N none none from rfl)
    split at e
    ·rename_i hll
     cases e
     refine ⟨_, by simp [Instr.slice, run_underlying hu, hr, size_run hi', show ¬ c = l by omega]; rfl, c - l, by omega, ?_⟩
     rw [addr_add]
    ·rename_i hll
     cases e
     refine ⟨.slice (if c = l then addr N a else (addr N a).map (·.add (l * i.size))) 0 (c - l), ?_, _, _, rfl⟩
     simp [Instr.slice, run_underlying hu, hr, size_run hi', show hh - l = 0 by omega]
   ·cases e
 ·cases e
theorem part_ok {w : World} {t : TypeId} {cs : List AV} {off : Nat} {v : AV} {C : Array Value} (e : apart P t cs off = some v) (hc : RVs N cs C.toList) :
  ∃ V, (part t C off).run P w = .ok V w ∧ RV N v V := by
 unfold apart at e
 split at e
 ·rename_i i ha hi
  cases e
  refine ⟨.agg (C.extract off (off + i.size)), by simp [part, aggT_run ha, size_run hi], _, rfl, ?_⟩
  have := RVs_drop (n := off) (RVs_take (n := off + i.size) hc)
  simpa [List.drop_take, List.extract_eq_take_drop] using this
 ·rename_i i ha
  obtain ⟨V, hV, hr⟩ := RVs_get hc e
  have hV' : C[off]? = some V := by simpa using hV
  exact ⟨V, by simp [part, aggT_run ha, hV'], hr⟩
 ·cases e
theorem field_off {t : TypeId} {f off : Nat} {ft : TypeId} (e : fieldOff P t f = some (off, ft)) : ∃ fs x, P.underlying t = some (.struct fs) ∧ fs[f]? = some x ∧ x.offset = off ∧ x.type = ft := by
 unfold fieldOff at e
 split at e
 ·rename_i fs hu
  split at e
  ·rename_i x hx
   cases e
   exact ⟨fs, x, hu, hx, rfl, rfl⟩
  ·cases e
 ·cases e
theorem fieldAddr_ok {w : World} {t : TypeId} {f b o off : Nat} {ft : TypeId} {i : TypeInfo} (e : fieldOff P t f = some (off, ft)) (hi : P.info? ft = some i) (hz : ¬ i.size = 0) :
  (Instr.fieldAt t (.pointer (some ⟨bt N b, o, none⟩)) f).run P w = .ok (.pointer (some ⟨bt N b, o + off, none⟩)) w := by
 obtain ⟨fs, x, hu, hx, rfl, rfl⟩ := field_off e
 simp [Instr.fieldAt, run_underlying hu, hx, Instr.sureAddr, fieldPlace, size_run hi, hz, add_at]
theorem field_ok {w : World} {t : TypeId} {f off : Nat} {ft : TypeId} {cs : List AV} {v : AV} {C : Array Value} (e : fieldOff P t f = some (off, ft)) (ep : apart P ft cs off = some v) (hc : RVs N cs C.toList) :
  ∃ V, (Instr.field t (.agg C) f).run P w = .ok V w ∧ RV N v V := by
 obtain ⟨fs, x, hu, hx, rfl, rfl⟩ := field_off e
 obtain ⟨V, hV, hr⟩ := part_ok (w := w) ep hc
 exact ⟨V, by simp [Instr.field, run_underlying hu, hx, asAgg, hV], hr⟩
theorem indexAddr_ok {w : World} {t : TypeId} {x ix v : AV} {X I : Value} (e : aindexAddr P t x ix = some v) (hx : RV N x X) (hi : RV N ix I) :
  ∃ V, (Instr.indexAt t X I).run P w = .ok V w ∧ RV N v V := by
 unfold aindexAddr at e
 split at e
 ·rename_i k j
  rw [show I = _ from hi]
  split at e
  ·rename_i el b o len c hu
   obtain ⟨c', rfl, _⟩ := slice_RV hx
   split at e
   ·rename_i hj
    split at e
    ·rename_i q hq
     cases e
     refine ⟨_, ?_, rfl⟩
     simp [Instr.indexAt, asIntOf, run_underlying hu, addr, hj, size_run hq, add_at]
    ·cases e
   ·cases e
  ·rename_i len el b o hu
   rw [show X = _ from hx]
   split at e
   ·rename_i hj
    split at e
    ·rename_i q hq
     cases e
     refine ⟨_, ?_, rfl⟩
     simp [Instr.indexAt, asIntOf, run_underlying hu, addr, hj, size_run hq, add_at, Instr.sureAddr]
    ·cases e
   ·cases e
  ·cases e
 ·cases e
theorem index_ok {w : World} {t : TypeId} {x ix v : AV} {X I : Value} (e : aindex P t x ix = some v) (hx : RV N x X) (hi : RV N ix I) :
  ∃ V, (Instr.index t X I).run P w = .ok V w ∧ RV N v V := by
 unfold aindex at e
 split at e
 ·rename_i k j
  rw [show I = _ from hi]
  split at e
  ·rename_i s hu
   rw [show X = _ from hx]
   split at e
   ·rename_i hj
    split at e
    ·rename_i b hb
     cases e
     refine ⟨_, ?_, rfl⟩
     have hb' : (⟨s.toArray⟩ : ByteArray)[j.toNat]? = some b := by
      obtain ⟨hlt, he⟩ := List.getElem?_eq_some_iff.1 hb
      have hlt' : j.toNat < (⟨s.toArray⟩ : ByteArray).size := by simpa [ByteArray.size] using hlt
      rw [getElem?_pos (⟨s.toArray⟩ : ByteArray) j.toNat hlt']
      exact congrArg some he
     simp [Instr.index, asIntOf, run_underlying hu, hj, hb']
    ·cases e
   ·cases e
  ·rename_i len el cs hu
   obtain ⟨C, rfl, hc⟩ := hx
   split at e
   ·rename_i hj
    split at e
    ·rename_i q hq
     obtain ⟨V, hV, hr⟩ := part_ok (w := w) e hc
     exact ⟨V, by simp [Instr.index, asIntOf, run_underlying hu, hj, size_run hq, hV], hr⟩
    ·cases e
   ·cases e
  ·cases e
 ·cases e
theorem assert_ok {w : World} {x v : AV} {X : Value} {xt asserted : TypeId} {ok : Bool} (e : atypeAssert P x asserted ok = some v) (hx : RV N x X) :
  ∃ V, (Instr.typeAssert X xt asserted ok).run P w = .ok V w ∧ RV N v V := by
 unfold atypeAssert at e
 split at e
 ·cases e
 ·rename_i d hd hu
  have two : ∀ {a : AV} {A : Value} {b : Bool}, RV N a A → RV N (.tuple [a, .bool b]) (.tuple #[A, .bool b]) := fun h => ⟨_, rfl, _, _, rfl, h, _, _, rfl, rfl, rfl⟩
  have plain : ∀ q : Array (String × TypeId), d ≠ .interface q := fun q hq => hd q (by rw [hq])
  split at e
  ·split at e
   ·rename_i z hz
    cases e
    obtain ⟨Z, hZ, hr, _⟩ := azero_run (N := N) hz w
    rw [show X = _ from hx]
    refine ⟨_, ?_, two hr⟩
    cases d <;> first | (exact absurd rfl (plain _)) | simp [Instr.typeAssert, run_underlying hu, hZ]
   ·cases e
  ·rename_i t y
   obtain ⟨Y, rfl, hY⟩ := hx
   split at e
   ·rename_i ht
    cases e
    refine ⟨_, ?_, two hY⟩
    cases d <;> first | (exact absurd rfl (plain _)) | simp [Instr.typeAssert, run_underlying hu, ht]
   ·rename_i ht
    split at e
    ·rename_i z hz
     cases e
     obtain ⟨Z, hZ, hr, _⟩ := azero_run (N := N) hz w
     refine ⟨_, ?_, two hr⟩
     cases d <;> first | (exact absurd rfl (plain _)) | simp [Instr.typeAssert, run_underlying hu, hZ, ht]
    ·cases e
  ·cases e
 ·cases e
theorem nilCheck_ok {w : World} {o : Oper} {ρ : Operand → Value} {x : Operand} {v r : AV} (ho : o.op = .nilCheck x) (hv : RV N v (ρ x)) (e : anilCheck P v = some r) :
  (execOp ρ o).run P w = .ok (.value (ρ x)) w ∧ r = v := by
 unfold anilCheck at e
 split at e
 ·rename_i p
  cases e
  refine ⟨?_, rfl⟩
  have h : ρ x = .pointer (addr N (some p)) := hv
  simp only [execOp, ho, h]
  rfl
 ·cases e
  refine ⟨?_, rfl⟩
  obtain ⟨U, h, _⟩ := hv
  simp only [execOp, ho, h]
  rfl
 ·cases e
  refine ⟨?_, rfl⟩
  obtain ⟨F, C, h, _⟩ := hv
  simp only [execOp, ho, h]
  rfl
 ·rename_i name t y fs c
  split at e
  ·rename_i q hq
   cases e
   obtain ⟨F, C, hfn, hF, hC⟩ := hv
   obtain ⟨W, Ws, hFe, ⟨U, hW, hU⟩, hWs⟩ := hF
   refine ⟨?_, rfl⟩
   obtain ⟨g, rc⟩ := q
   have hF0 : F[0]? = some (.iface t U) := by rw [← Array.getElem?_toList, hFe, hW]; rfl
   have hna : ∀ n, (nilAhead (n + 1) t U name).run P w = .ok (some false) w := by
    intro n
    unfold amethod at hq
    split at hq <;> first | (cases hq; done) | skip
    ·rename_i hm hu
     obtain ⟨i, m, hi, hfm, hp, hfn'⟩ := meth_run hm
     simp [nilAhead, info_run hi, hfm, hp, followBlind, hfn']
    ·rename_i d hd hm hu
     obtain ⟨i, m, hi, hfm, hp, hfn'⟩ := meth_run hm
     simp only [nilAhead, Sem.run_bind, info_run hi, Result.andThen_ok, hfm, hp, followBlind, Sem.run_pure, hfn', run_underlying hu]
     cases d <;> first | rfl | exact (hd _ rfl).elim
   simp only [execOp, ho, hfn, hF0]
   simp [hna, show P.types.size + Made.depth = (P.types.size + 99) + 1 from rfl]
  ·cases e
 ·cases e
end
end Go.Proofs.YtbjaapiliegegaaGreatDoor.Ce
end
section
namespace Go.Proofs.YtbjaapiliegegaaGreatDoor.Ce
open Go Go.RowKit
section
variable {N : Nat} {P : Program}
def RPs (N : Nat) : List (Nat × AV) → List (Nat × Value) → Prop
 | [], L => L = []
 | (i, v) :: l, L => ∃ V L', L = (i, V) :: L' ∧ RV N v V ∧ v ≠ .any ∧ RPs N l L'
theorem set_fold (off : Nat) : ∀ (l : List Value) (k : Nat) (cs : Array Value), off + k + l.length ≤ cs.size →
  ((l.zipIdx k).foldl (fun (cs : Array Value) (p : Value × Nat) => cs.setIfInBounds (off + p.2) p.1) cs).toList = cs.toList.take (off + k) ++ l ++ cs.toList.drop (off + k + l.length)
 | [], k, cs, _ => by simp
 | c :: l, k, cs, h => by
  simp only [List.zipIdx_cons, List.foldl_cons]
  rw [set_fold off l (k + 1) _ (by simp at h ⊢; omega)]
  simp only [Array.toList_setIfInBounds, List.length_cons]
  have e := list_seg_step cs.toList (off + k) c l (by simp at h ⊢; omega)
  simpa [Nat.add_assoc, Nat.add_comm 1] using e
theorem fill_ok {pl : Nat → Option (Nat × Nat)} : ∀ {parts : List (Nat × AV)} {cells r : List AV} {Parts : List (Nat × Value)} {C : Array Value}, afill pl cells parts = some r → RVs N cells C.toList → RPs N parts Parts →
  ∃ R, Instr.fill pl C Parts = some R ∧ RVs N r R.toList
 | [], cells, r, Parts, C, e, hc, hp => by
  simp only [afill] at e
  cases e
  rw [show Parts = [] from hp]
  exact ⟨C, rfl, hc⟩
 | (i, v) :: rest, cells, r, Parts, C, e, hc, hp => by
  obtain ⟨V, L', rfl, hv, hna, hp'⟩ := hp
  simp only [afill] at e
  split at e
  ·cases e
  ·rename_i off size hpl
   split at e
   ·rename_i hl
    split at e
    ·rename_i cells' hs
     have hvc := cellsOf_RV hv hna
     obtain ⟨h1, h2⟩ := RVs_splice hs hc hvc
     have hlen : V.cells.size = size := by rw [← hl, RVs_length hvc]; simp
     have hset : ((V.cells.zipIdx.foldl (fun cs (c, j) => cs.setIfInBounds (off + j) c) C)).toList = C.toList.take off ++ V.cells.toList ++ C.toList.drop (off + V.cells.toList.length) := by
      have := set_fold off V.cells.toList 0 C (by simpa using h1)
      rw [← Array.foldl_toList, Array.toList_zipIdx]
      simpa using this
     have hcond : ¬ ((decide (V.cells.size ≠ size) || decide (off + V.cells.size > C.size)) = true) := by
      simp only [Array.length_toList] at h1
      simp [hlen]
      omega
     obtain ⟨R, hR, hr⟩ := fill_ok (C := V.cells.zipIdx.foldl (fun cs (c, j) => cs.setIfInBounds (off + j) c) C) e (by rw [hset]; exact h2) hp'
     refine ⟨R, ?_, hr⟩
     simp only [Instr.fill, hpl]
     rw [if_neg (by simpa using hcond)]
     exact hR
    ·cases e
   ·cases e
theorem places_ok : ∀ {fs : List Field} {pl : List (Nat × Nat)}, placesOf P fs = some pl → fs.mapM (fun f => (P.info? f.type).map fun i => (f.offset, i.size)) = some pl
 | [], pl, e => by simp [placesOf] at e; subst e; rfl
 | f :: fs, pl, e => by
  simp only [placesOf] at e
  split at e
  ·rename_i i r h1 h2
   cases e
   simp [List.mapM_cons, h1, places_ok h2]
  ·cases e
theorem build_ok {w : World} {t : TypeId} {parts : List (Nat × AV)} {v : AV} {Parts : Array (Nat × Value)} (e : abuild P t parts = some v) (hp : RPs N parts Parts.toList) :
  ∃ V, (Instr.build t Parts).run P w = .ok V w ∧ RV N v V := by
 unfold abuild at e
 have hzero : ∀ {z : AV}, azero P t = some z → ∃ i Z, P.info? t = some i ∧ i.zero = some Z ∧ RV N z Z ∧ z ≠ .any := by
  intro z hz
  unfold azero at hz
  split at hz
  ·rename_i i hi
   split at hz
   ·rename_i Z hZ
    exact ⟨i, Z, hi, hZ, ofZero_RV hz, ofZero_any hz⟩
   ·cases hz
  ·cases hz
 split at e
 ·rename_i z fs hz hu
  obtain ⟨i, Z, hi, hZ, hr, hna⟩ := hzero hz
  split at e
  ·rename_i pl hpl
   split at e
   ·rename_i cs hcs
    cases e
    obtain ⟨R, hR, hrr⟩ := fill_ok hcs (cellsOf_RV hr hna) hp
    refine ⟨.agg R, run_build w t Parts R ?_, R, rfl, hrr⟩
    unfold Program.built
    simp only [hi, hu, hZ, places_ok hpl]
    simpa using hR
   ·cases e
  ·cases e
 ·rename_i z el hz hu
  obtain ⟨i, Z, hi, hZ, hr, hna⟩ := hzero hz
  split at e
  ·rename_i q hq
   split at e
   ·rename_i cs hcs
    cases e
    obtain ⟨R, hR, hrr⟩ := fill_ok hcs (cellsOf_RV hr hna) hp
    refine ⟨.agg R, run_build w t Parts R ?_, R, rfl, hrr⟩
    unfold Program.built
    simp only [hi, hu, hZ, hq]
    exact hR
   ·cases e
  ·cases e
 ·cases e
theorem known_any {v : AV} (h : known v = true) : v ≠ .any := by rintro rfl; cases h
theorem parts_ok {nt : Nat} {tm : Tm} {T : Array Value} {ds : List Deferred} (hF : RF N nt tm T) : ∀ {ps : List (Nat × Operand)} {l : List (Nat × AV)}, aparts tm ps = some l →
  RPs N l (ps.map fun (i, x) => (i, (⟨T, ds⟩ : Act).eval x))
 | [], l, e => by simp [aparts] at e; subst e; rfl
 | (i, x) :: ps, l, e => by
  simp only [aparts] at e
  split at e
  ·rename_i v r h1 h2
   split at e
   ·rename_i hk
    cases e
    exact ⟨_, _, rfl, aeval_RV hF h1, known_any hk, parts_ok hF h2⟩
   ·cases e
  ·cases e
theorem len_ok {h : Heap} {w : World} (hD : Den N h w) {ts : Array TypeId} {t ty : TypeId} {x v : AV} {X : Value} (ht : ts[0]? = some t) (e : alen P t h x = some v) (hx : RV N x X) :
  ∃ V, (Builtin.len_ ts ty #[X]).run P w = .ok V w ∧ RV N v V := by
 unfold alen at e
 split at e <;> first | (cases e; done) | skip
 ·rename_i s hu
  rw [show X = _ from hx]
  cases e
  exact ⟨_, by simp [Builtin.len_, ht, run_underlying hu]; rfl, by simp [goInt, ByteArray.size, RV]⟩
 ·rename_i el a n c hu
  obtain ⟨c', rfl, _⟩ := slice_RV hx
  cases e
  exact ⟨_, by simp [Builtin.len_, ht, run_underlying hu]; rfl, rfl⟩
 ·rename_i el hu
  obtain ⟨a, c, rfl⟩ := hx
  cases e
  exact ⟨_, by simp [Builtin.len_, ht, run_underlying hu]; rfl, rfl⟩
 ·rename_i k el hu
  rw [show X = _ from hx]
  cases e
  exact ⟨_, by simp [Builtin.len_, ht, run_underlying hu]; rfl, rfl⟩
 ·rename_i k el r hu
  rw [show X = _ from hx]
  cases ha : h.at r with
  | none => rw [ha] at e; cases e
  | some q =>
   rw [ha] at e
   obtain ⟨_, O, hO, hR⟩ := hD r q ha
   cases q <;> simp only at e <;> first | (cases e; done) | skip
   rename_i es clock
   cases e
   obtain ⟨E, rfl, hE⟩ := hR
   have hlen : ∀ {es : List (AV × AV × Nat)} {Es : List MapEntry}, RE N es Es → es.length = Es.length := by
    intro es
    induction es with
    | nil => intro Es h; rw [show Es = [] from h]; rfl
    | cons x es ih => intro Es h; obtain ⟨k, v, b⟩ := x; obtain ⟨E, Es', rfl, _, _, _, h⟩ := h; simp [ih h]
   have hg : (getObj (bt N r)).run P w = .ok (.map E clock) w := by simp [getObj, Sem.run, hO]
   refine ⟨goInt E.size, ?_, ?_⟩
   ·simp [Builtin.len_, ht, run_underlying hu, hg]
   ·show Value.int .i64 _ = Value.int .i64 _
    rw [hlen hE]
    simp
theorem opt_RV {nt : Nat} {tm : Tm} {T : Array Value} {ds : List Deferred} (hF : RF N nt tm T) {x : Option Operand} {v : Option AV} (e : opt tm x = some v) : RVo N v (x.map (⟨T, ds⟩ : Act).eval) := by
 unfold opt at e
 split at e
 ·cases e; rfl
 ·split at e
  ·rename_i u hu; cases e; exact ⟨_, rfl, aeval_RV hF hu⟩
  ·cases e
theorem v1_val {h h' : Heap} {x : Option AV} {v : AV} (e : v1 h x = some (.val v h')) : x = some v ∧ h' = h := by
 unfold v1 at e
 split at e
 ·cases e; exact ⟨rfl, rfl⟩
 ·cases e
theorem sem_val {s : Sem Value} {w w' : World} {V : Value} (h : s.run P w = .ok V w') : (do pure (Next.value (← s)) : Sem Next).run P w = .ok (.value V) w' := by
 simp [h]
theorem capOf_eq {x : AV} {c : Nat} (e : capOf x = some c) : ∃ a n, x = .slice a n (some c) := by
 unfold capOf at e
 split at e
 ·cases e; exact ⟨_, _, rfl⟩
 ·cases e
theorem stable_ok {h : Heap} {w : World} (hD : Den N h w) {nt : Nat} {tm : Tm} {T : Array Value} {ds : List Deferred} (hF : RF N nt tm T) {o : Oper} {v : AV} {h' : Heap}
  (hs : stable o.op = true) (e : aop P tm h o = some (.val v h')) : ∃ V, (execOp (⟨T, ds⟩ : Act).eval o).run P w = .ok (.value V) w ∧ RV N v V ∧ h' = h := by
 have hev : ∀ {x : Operand} {u : AV}, aeval tm x = some u → RV N u ((⟨T, ds⟩ : Act).eval x) := fun h => aeval_RV hF h
 unfold aop at e
 cases hop : o.op <;> rw [hop] at hs <;> simp only [hop] at e <;> first | (simp [stable] at hs; done) | skip
 case move x => obtain ⟨h1, h2⟩ := v1_val e; exact ⟨_, by simp [execOp, hop], hev h1, h2⟩
 case assign x => obtain ⟨h1, h2⟩ := v1_val e; exact ⟨_, by simp [execOp, hop], hev h1, h2⟩
 case pick c a b =>
  split at e
  ·rename_i t hc
   have hcv : (⟨T, ds⟩ : Act).eval c = .bool t := hev hc
   obtain ⟨h1, h2⟩ := v1_val e
   cases t
   ·exact ⟨_, by simp [execOp, hop, hcv, asBool]; rfl, hev (by simpa using h1), h2⟩
   ·exact ⟨_, by simp [execOp, hop, hcv, asBool]; rfl, hev (by simpa using h1), h2⟩
  ·cases e
 case build t ps =>
  split at e
  ·rename_i l hl
   obtain ⟨h1, h2⟩ := v1_val e
   obtain ⟨V, hV, hr⟩ := build_ok (w := w) h1 (show RPs N l (ps.map fun (i, x) => (i, (⟨T, ds⟩ : Act).eval x)).toList by simpa using parts_ok hF hl)
   exact ⟨V, by simp only [execOp, hop]; exact sem_val hV, hr, h2⟩
  ·cases e
 case load t a =>
  split at e
  ·rename_i b off ha
   have hav : (⟨T, ds⟩ : Act).eval a = .pointer (some ⟨bt N b, off, none⟩) := hev ha
   obtain ⟨h1, h2⟩ := v1_val e
   obtain ⟨V, hV, hr⟩ := aload_ok hD h1
   exact ⟨V, by simp only [execOp, hop, hav]; exact sem_val (by simpa [Instr.loadAt, Instr.sureAddr] using hV), hr, h2⟩
  ·cases e
 case nilCheck x =>
  split at e
  ·rename_i u hu
   obtain ⟨h1, h2⟩ := v1_val e
   obtain ⟨h3, h4⟩ := nilCheck_ok (w := w) hop (hev hu) h1
   exact ⟨_, h3, h4 ▸ hev hu, h2⟩
  ·cases e
 case binOp op t x y yt =>
  split at e
  ·rename_i a b ha hb
   split at e
   ·rename_i hg
    obtain ⟨h1, h2⟩ := v1_val e
    obtain ⟨R, hR, hr⟩ := bin_ok (w := w) h1 (hev ha) (hev hb)
    refine ⟨R, ?_, hr, h2⟩
    simp only [execOp, hop]
    exact sem_val (by simp [guard_ok (t := t) (w := w) hg (hev ha) (hev hb), hR])
   ·cases e
  ·cases e
 case unOp op t x =>
  split at e
  ·rename_i u hu
   obtain ⟨h1, h2⟩ := v1_val e
   obtain ⟨R, hR, hr⟩ := un_ok (P := P) (w := w) h1 (hev hu)
   exact ⟨R, by simp only [execOp, hop]; exact sem_val hR, hr, h2⟩
  ·cases e
 case makeInterface t x =>
  split at e
  ·cases e
  ·rename_i u d hnd hu hd
   cases e
   refine ⟨.iface t ((⟨T, ds⟩ : Act).eval x), ?_, ⟨_, rfl, hev hu⟩, rfl⟩
   simp only [execOp, hop]
   refine sem_val ?_
   cases d <;> first | (exact (hnd _ rfl).elim) | simp [Instr.makeInterface, run_underlying hd]
  ·cases e
 case makeFunc fn first captured =>
  split at e
  ·rename_i f c hf hc
   cases e
   refine ⟨.func fn (first.map (⟨T, ds⟩ : Act).eval) (captured.map (⟨T, ds⟩ : Act).eval), ?_, ⟨_, _, rfl, ?_, ?_⟩, rfl⟩
   ·simp only [execOp, hop]
    exact sem_val rfl
   ·simpa using aevals_RV hF hf
   ·simpa using aevals_RV hF hc
  ·cases e
 case slice t x lo hi mx =>
  split at e
  ·cases e
  ·rename_i hna
   split at e
   ·rename_i u l hh m hu hl hhh hm
    obtain ⟨h1, h2⟩ := v1_val e
    obtain ⟨V, hV, hr⟩ := slice_ok (w := w) h1 (hev hu) (opt_RV (ds := ds) hF hl) (opt_RV (ds := ds) hF hhh) (opt_RV (ds := ds) hF hm)
    refine ⟨V, ?_, hr, h2⟩
    simp only [execOp, hop]
    refine sem_val ?_
    cases hd : P.underlying t with
    | none => unfold aslice at h1; simp only [hd] at h1; cases h1
    | some d =>
     simp only [Instr.sliceAt, Sem.run_bind, run_underlying hd, Result.andThen_ok]
     cases d <;> first | exact hV | (exact (hna _ _ hd).elim)
   ·cases e
 case fieldAddr t x f =>
  split at e
  ·rename_i b off0 off ft hx hfo
   split at e
   ·rename_i i hi
    split at e
    ·cases e
    ·rename_i hz
     cases e
     have hxv : (⟨T, ds⟩ : Act).eval x = .pointer (some ⟨bt N b, off0, none⟩) := hev hx
     refine ⟨_, ?_, rfl, rfl⟩
     simp only [execOp, hop, hxv]
     exact sem_val (fieldAddr_ok hfo hi hz)
   ·cases e
  ·cases e
 case field t x f =>
  split at e
  ·rename_i cs off ft hx hfo
   obtain ⟨C, hC, hc⟩ := hev hx
   obtain ⟨h1, h2⟩ := v1_val e
   obtain ⟨V, hV, hr⟩ := field_ok (w := w) hfo h1 hc
   exact ⟨V, by simp only [execOp, hop, hC]; exact sem_val hV, hr, h2⟩
  ·cases e
 case indexAddr t x ix =>
  split at e
  ·rename_i a i ha hi
   obtain ⟨h1, h2⟩ := v1_val e
   obtain ⟨V, hV, hr⟩ := indexAddr_ok (w := w) h1 (hev ha) (hev hi)
   exact ⟨V, by simp only [execOp, hop]; exact sem_val hV, hr, h2⟩
  ·cases e
 case index t x ix =>
  split at e
  ·rename_i a i ha hi
   obtain ⟨h1, h2⟩ := v1_val e
   obtain ⟨V, hV, hr⟩ := index_ok (w := w) h1 (hev ha) (hev hi)
   exact ⟨V, by simp only [execOp, hop]; exact sem_val hV, hr, h2⟩
  ·cases e
 case typeAssert x xt asserted ok =>
  split at e
  ·rename_i u hu
   obtain ⟨h1, h2⟩ := v1_val e
   obtain ⟨V, hV, hr⟩ := assert_ok (w := w) (xt := xt) h1 (hev hu)
   exact ⟨V, by simp only [execOp, hop]; exact sem_val hV, hr, h2⟩
  ·cases e
 case extract t ix =>
  split at e
  ·rename_i vs ht
   obtain ⟨C, hC, hc⟩ := hev ht
   obtain ⟨h1, h2⟩ := v1_val e
   obtain ⟨V, hV, hr⟩ := RVs_get hc h1
   have hV' : C[ix]? = some V := by simpa using hV
   exact ⟨V, by simp only [execOp, hop, hC]; exact sem_val (by simp [Instr.extract, hV']), hr, h2⟩
  ·cases e
 case call c =>
  split at e
  ·cases e
  ·rename_i args ha
   have hargs := aevals_RV (ds := ds) hF ha
   obtain ⟨callee, cargs, ats⟩ := c
   cases callee with
   | value f => simp [stable] at hs
   | invoke r m => simp [stable] at hs
   | builtin b =>
    simp only [abuiltin] at e
    cases b <;> first | (simp [stable] at hs; done) | skip
    case len =>
     match args, hargs, e with
     | [], _, e => simp at e
     | [x], ⟨X, Ws, hX, hx, hn⟩, e =>
      rw [show Ws = [] from hn] at hX
      simp only at e
      split at e
      ·rename_i t ht
       obtain ⟨h1, h2⟩ := v1_val e
       obtain ⟨V, hV, hr⟩ := len_ok hD (ty := o.type) ht h1 hx
       refine ⟨V, ?_, hr, h2⟩
       have hX' : cargs.map (⟨T, ds⟩ : Act).eval = #[X] := by
        apply Array.toList_inj.1
        simpa using hX
       simp only [execOp, hop, resolve, Sem.run_bind, Sem.run_pure, Result.andThen_ok, invoke, builtin, hX']
       simp [hV]
      ·cases e
     | _ :: _ :: _, _, e => simp at e
    case cap =>
     match args, hargs, e with
     | [], _, e => simp at e
     | [x], ⟨X, Ws, hX, hx, hn⟩, e =>
      rw [show Ws = [] from hn] at hX
      simp only at e
      split at e
      ·rename_i t c ht hc
       split at e
       ·rename_i el hu
        cases e
        refine ⟨.int .i64 c, ?_, rfl, rfl⟩
        have hX' : cargs.map (⟨T, ds⟩ : Act).eval = #[X] := by
         apply Array.toList_inj.1
         simpa using hX
        obtain ⟨a, n, rfl⟩ := capOf_eq hc
        simp only [execOp, hop, resolve, Sem.run_bind, Sem.run_pure, Result.andThen_ok, invoke, builtin, hX']
        rw [show X = _ from hx]
        simp [Builtin.cap_, ht, run_underlying hu, goInt]
       ·cases e
      ·cases e
     | _ :: _ :: _, _, e => simp at e
end
end Go.Proofs.YtbjaapiliegegaaGreatDoor.Ce
end
section
namespace Go.Proofs.YtbjaapiliegegaaGreatDoor.Ce
open Go Go.RowKit
section
variable {N : Nat} {P : Program} {w0 : World} {h : Heap} {w : World}
theorem Full.drew (hF : Full N w0 h w) : Full N w0 h w.drew := ⟨hF.den, hF.ge, hF.size, hF.below.drew⟩
theorem newRow_ok (hF : Full N w0 h w) (hN : N = w0.heap.size) {e : TypeId} {C : Array Value} {o : AO} (hR : RO N o (.cells C e)) :
  (newRow e C).run P w = .ok ⟨bt N h.n, 0, none⟩ (w.alloc (.cells C e)) ∧ Full N w0 (h.new o) (w.alloc (.cells C e)) := by
 obtain ⟨h1, h2⟩ := hF.new hN hR
 refine ⟨?_, h1⟩
 rw [h2]
 simp [newRow]
theorem alloc_ok (hF : Full N w0 h w) (hN : N = w0.heap.size) {e : TypeId} {z : AV} (hz : azero P e = some z) :
  ∃ w', (Instr.alloc e true (.tuple #[])).run P w = .ok (.pointer (some ⟨bt N h.n, 0, none⟩)) w' ∧ Full N w0 (h.new (.cells (cellsOf z) e 0 0)) w' := by
 obtain ⟨Z, hZ, hr, hna⟩ := azero_run (N := N) hz w
 obtain ⟨h1, h2⟩ := newRow_ok (P := P) hF hN (o := .cells (cellsOf z) e 0 0) (C := Z.cells) (e := e) ⟨_, rfl, cellsOf_RV hr hna⟩
 exact ⟨_, by simp [Instr.alloc, hZ, newVar, h1], h2⟩
theorem box_ok (hF : Full N w0 h w) (hN : N = w0.heap.size) {e : TypeId} {v : AV} {V : Value} (hv : RV N v V) (hna : v ≠ .any) :
  ∃ w', (Instr.box e V).run P w = .ok (.pointer (some ⟨bt N h.n, 0, none⟩)) w' ∧ Full N w0 (h.new (.cells (cellsOf v) e 0 0)) w' := by
 obtain ⟨h1, h2⟩ := newRow_ok (P := P) hF hN (o := .cells (cellsOf v) e 0 0) (C := V.cells) (e := e) ⟨_, rfl, cellsOf_RV hv hna⟩
 exact ⟨_, by simp [Instr.box, newVar, h1], h2⟩
theorem singles_any {v : AV} {vs : List AV} (e : cellsOf v = vs) (hs : singles vs = true) : v ≠ .any := by
 rintro rfl
 subst e
 simp [cellsOf, singles, single] at hs
theorem setN_singles {b o : Nat} {vs : List AV} {h' : Heap} (e : setN h b o vs = some h') : singles vs = true := by
 unfold setN at e
 split at e
 ·cases e
 ·split at e
  ·split at e
   ·rename_i hs
    simp only [Bool.and_eq_true] at hs
    exact hs.1
   ·cases e
  ·cases e
theorem store_ok (hF : Full N w0 h w) (hN : n0 ≤ N) {t : TypeId} {b o : Nat} {v : AV} {V : Value} {h' : Heap} (e : astore P h t b o v = some h') (hv : RV N v V) :
  ∃ w', (Instr.storeAt t (.pointer (some ⟨bt N b, o, none⟩)) V).run P w = .ok () w' ∧ Full N w0 h' w' := by
 unfold astore at e
 split at e
 ·rename_i i hi
  split at e
  ·rename_i hl
   have hvc := cellsOf_RV hv (singles_any rfl (setN_singles e))
   obtain ⟨w', h1, h2⟩ := setN_ok (P := P) hF hN e hvc
   refine ⟨w', ?_, h2⟩
   have hlen : V.cells.size = i.size := by rw [← hl, RVs_length hvc]; simp
   simp [Instr.storeAt, Instr.sureAddr, storeVar, size_run hi, hlen, h1]
  ·cases e
 ·cases e
theorem zeros_map {Z : Value} (hz : ∀ C, Z ≠ .agg C) (n : Nat) : (Array.range n).map (fun j => Z.cells[j % Z.cells.size]!) = Array.replicate n Z := by
 have hc : Z.cells = #[Z] := by cases Z <;> first | rfl | exact absurd rfl (hz _)
 apply Array.ext
 ·simp
 ·intro j h1 h2
  simp [hc, Nat.mod_one]
theorem ofVal_agg {V : Value} {v : AV} (e : ofVal V = some v) : ∀ C, V ≠ .agg C := by
 rintro C rfl
 cases e
theorem makeSlice_ok (hF : Full N w0 h w) (hN : N = w0.heap.size) {t : TypeId} {l c v : AV} {L C : Value} {h' : Heap} (e : amakeSlice P h t l c = some (v, h')) (hl : RV N l L) (hc : RV N c C) :
  ∃ V w', (Instr.makeSlice t L C).run P w = .ok V w' ∧ RV N v V ∧ Full N w0 h' w' := by
 unfold amakeSlice at e
 split at e
 ·rename_i el k1 l' k2 c' hu
  rw [show L = _ from hl, show C = _ from hc]
  split at e
  ·rename_i i hi
   split at e
   ·rename_i hb
    obtain ⟨hs, h0, hlc, hc40, hby, hcb⟩ := hb
    split at e
    ·rename_i z hz
     split at e
     ·rename_i zv hzv
      cases e
      have h40 : (2 : Int) ^ 40 = 1099511627776 := rfl
      have h46 : (2 : Int) ^ 46 = 70368744177664 := rfl
      have w1 : IntKind.i64.wrap l' = l' := by rw [IntKind.wrap_i64]; omega
      have w2 : IntKind.i64.wrap c' = c' := by rw [IntKind.wrap_i64]; omega
      obtain ⟨h1, h2⟩ := newRow_ok (P := P) hF hN (o := .cells (List.replicate c'.toNat zv) el 0 0) (C := Array.replicate c'.toNat z) (e := el) ⟨_, rfl, by simpa using RVs_replicate (ofVal_RV hzv) c'.toNat⟩
      refine ⟨.slice (some ⟨bt N h.n, 0, none⟩) l'.toNat c'.toNat, _, ?_, rfl, h2⟩
      have hm : (i.bytes : Int) * c' ≤ 70368744177664 := by rw [Int.mul_comm]; omega
      have hcond : (decide (c' < 0) || decide ((i.bytes : Int) * c' > 2 ^ 48) || decide (l' < 0) || decide (l' > c')) = false := by
       have h48 : (2 : Int) ^ 48 = 281474976710656 := rfl
       simp only [Bool.or_eq_false_iff, decide_eq_false_iff_not, h48]
       omega
      simp only [Instr.makeSlice, Sem.run_bind, run_underlying hu, Result.andThen_ok, asInt, asIntOf, Sem.run_pure, info_run hi, w1, w2, hcond]
      rw [if_neg (by simp)]
      simp only [Sem.run_bind, run_askRoom, Result.andThen_ok, size_run hi, hs, Nat.mul_one]
      by_cases hc0 : c'.toNat = 0
      ·rw [hc0] at h1 ⊢
       have h1' : (newRow el #[]).run P w = _ := h1
       simp [show ∀ f : Nat → Value, (Array.range 0).map f = #[] from fun f => Array.eq_empty_of_size_eq_zero (by simp), h1']
      ·simp only [if_neg hc0, Sem.run_bind, zeroValue, info_run hi, hz, Result.andThen_ok, Sem.run_pure, zeros_map (ofVal_agg hzv), h1]
     ·cases e
    ·cases e
   ·cases e
  ·cases e
 ·cases e
theorem firstN_ok (hD : Den N h w) {n : Nat} {x : AV} {X : Value} {cs : List AV} (e : firstN h n x = some cs) (hx : RV N x X) :
  ∃ Cs, (Builtin.firstCells 1 n X).run P w = .ok Cs w ∧ RVs N cs Cs.toList := by
 unfold firstN at e
 split at e
 ·rename_i b o l c
  obtain ⟨c', rfl, _⟩ := slice_RV hx
  obtain ⟨Vs, hr, hl, hc⟩ := loadN_ok hD e
  exact ⟨Vs.toArray, by simp [Builtin.firstCells, addr, run_loadN hl hc], by simpa using hr⟩
 ·rename_i l c
  obtain ⟨c', rfl, _⟩ := slice_RV hx
  split at e
  ·cases e; exact ⟨#[], by simp [Builtin.firstCells, addr], rfl⟩
  ·cases e
 ·split at e
  ·rename_i hn
   cases e
   obtain ⟨a, c, rfl⟩ := hx
   subst hn
   cases a with
   | none => exact ⟨#[], by simp [Builtin.firstCells], rfl⟩
   | some a => exact ⟨#[], by simp [Builtin.firstCells, loadCells, loadCellsFrom], rfl⟩
  ·cases e
 ·rename_i s
  rw [show X = _ from hx]
  cases e
  refine ⟨_, by simp [Builtin.firstCells]; rfl, ?_⟩
  have key : ∀ l : List UInt8, RVs N (l.map fun b => AV.int .u8 b.toNat) (l.map fun b => Value.int .u8 b.toNat) := by
   intro l
   induction l with
   | nil => rfl
   | cons b l ih => exact ⟨_, _, rfl, rfl, ih⟩
  have := key (s.take n)
  simpa [ByteArray.data_extract, List.extract_eq_take_drop] using this
 ·cases e
theorem lenOf_ok {x : AV} {X : Value} {n : Nat} (e : alenOf x = some n) (hx : RV N x X) : (Builtin.lenOf X).run P w = .ok n w := by
 unfold alenOf at e
 split at e <;> first | (cases e; done) | skip
 ·obtain ⟨c', rfl, _⟩ := slice_RV hx; cases e; rfl
 ·obtain ⟨a, c, rfl⟩ := hx; cases e; rfl
 ·rw [show X = _ from hx]; cases e; simp [Builtin.lenOf, ByteArray.size]
theorem copy_ok (hF : Full N w0 h w) (hN : n0 ≤ N) {ts : Array TypeId} {t ty : TypeId} {d x v : AV} {D X : Value} {h' : Heap} (ht : ts[0]? = some t) (e : acopy P h t d x = some (v, h')) (hd : RV N d D) (hx : RV N x X) :
  ∃ V w', (Builtin.copy_ ts ty #[D, X]).run P w = .ok V w' ∧ RV N v V ∧ Full N w0 h' w' := by
 unfold acopy at e
 split at e
 ·rename_i el a dl dc sl hu hsl
  obtain ⟨c', rfl, _⟩ := slice_RV hd
  split at e
  ·rename_i i hi
   split at e
   ·rename_i hs
    split at e
    ·rename_i cs hcs
     obtain ⟨Cs, hCs, hr⟩ := firstN_ok (P := P) hF.den hcs hx
     have hn : Nat.min sl dl = min sl dl := rfl
     split at e
     ·rename_i b o
      split at e
      ·rename_i h2 hset
       cases e
       obtain ⟨w', h1, h3⟩ := setN_ok (P := P) hF hN hset hr
       refine ⟨goInt (min sl dl : Nat), w', ?_, rfl, h3⟩
       simp [Builtin.copy_, ht, run_underlying hu, lenOf_ok (P := P) (w := w) hsl hx, hn, size_run hi, hs, hCs, addr, h1]
      ·cases e
     ·split at e
      ·rename_i hl0
       cases e
       refine ⟨goInt (min sl dl : Nat), w, ?_, rfl, hF⟩
       simp [Builtin.copy_, ht, run_underlying hu, lenOf_ok (P := P) (w := w) hsl hx, hn, size_run hi, hs, hCs, addr]
      ·cases e
    ·cases e
   ·cases e
  ·cases e
 ·cases e
end
end Go.Proofs.YtbjaapiliegegaaGreatDoor.Ce
end
