/- Of the proof of FnNoBody: NbE. -/
import Derived.WalkKit
import Derived.Lay
import Derived.LaidOnce
import Derived.ChangeMaps5
import Derived.Carry
import Derived.Test.YtbjaapiliegegaaGreatDoorNb45
import Derived.Test.YtbjaapiliegegaaGreatDoorTie
import Derived.Test.YtbjaapiliegegaaGreatDoorCards
set_option linter.unusedVariables false
set_option linter.unusedSimpArgs false
namespace Go.Proofs.YtbjaapiliegegaaGreatDoor.Sy
open Go.RowKit Go.ChangeShapes Go.WideShapes Go.ChangeAt Go.WideMaps Go.WideElems Go.ChangeMaps
theorem ownNb : ownKnob Tryz.prog.godebug = none := by kernel_rfl
theorem nb_cells31 : Tryz.prog.cellsOf 31 = 9 := by kernel_rfl
theorem nb_cells60 : Tryz.prog.cellsOf 60 = 2 := by kernel_rfl
theorem nb_cells5 : Tryz.prog.cellsOf 5 = 1 := by kernel_rfl
theorem nb_laid : laidOutB Tryz.prog = true := by kernel_rfl
theorem nb_rec31 : Tryz.prog.readableRec 31 = true := by kernel_rfl
theorem nb_rec27 : Tryz.prog.readableRec 27 = true := by kernel_rfl
theorem nb_lt31 : 31 < Tryz.prog.types.size := of_decide_eq_true (by kernel_rfl)
theorem nb_lt27 : 27 < Tryz.prog.types.size := of_decide_eq_true (by kernel_rfl)
theorem bytes_open {H : Type} {enc : TypeId × Value → H} {w : World} {base : Nat} {sp : Nat → Bool} {held : Bool} {fuel : Nat} {c : Value} {x : DataW H × List MemPlace} (h : DataW.trod enc Tryz.prog w base sp held fuel 27 [c] = some x) : ∃ l, BD (all w) c l := by
 rcases DataW.trod_slice Tryz.underlying27 h with ⟨hc, _⟩ | ⟨a, len, cap, elems, rest, n, _, hc, _, _, _, _, hel, hi, _, _⟩
 ·cases hc
  exact ⟨[], .inl ⟨rfl, _, _, rfl⟩⟩
 ·cases hc
  refine bd_of fun i hil => ?_
  have h2 := hi i hil
  rw [List.getElem?_eq_getElem (by omega)] at h2
  obtain ⟨cs, hcs, htr⟩ := Option.bind_eq_some_iff.1 h2
  rw [nb_cells5] at hcs
  obtain ⟨_, hcl, hat⟩ := World.cells?_some hcs
  obtain ⟨z, hz, _, hwf⟩ := DataW.trod_int Tryz.underlying5 htr
  have h3 := hat 0 (by omega)
  rw [hz, Go.Deep.add_add, Nat.add_zero, Nat.mul_one] at h3
  have hr : 0 ≤ z ∧ z < 256 := by
   have hw : IntKind.u8.min ≤ z ∧ z ≤ IntKind.u8.max := by simpa [Lit.wf] using hwf
   have h1 : IntKind.u8.min = 0 := rfl
   have h2 : IntKind.u8.max = 255 := rfl
   omega
  refine ⟨UInt8.ofNat z.toNat, ?_⟩
  rw [h3]
  show some (Value.int .u8 z) = some (.int .u8 ((UInt8.ofNat z.toNat).toNat : Int))
  rw [UInt8.toNat_ofNat', Nat.mod_eq_of_lt (by omega)]
  congr 2
  omega
set_option maxRecDepth 100000 in
theorem nb_open {H : Type} {enc : TypeId × Value → H} {w : World} {base : Nat} {sp : Nat → Bool} {held : Bool} {r : Reach} {b0 : Nat} {v : Value} {d : DataW H} {p : List MemPlace} (hv : Value.okWide Tryz.prog w r b0 31 v) (h : DataW.Trod enc Tryz.prog w base sp held 31 v d p) :
  ∃ (meth target reason : Str) (code maj min : Int) (fv tv : Value) (ba : Option Addr) (bn bc : Nat) (fs ts : List Fld), v = .agg #[S meth, S target, I code, S reason, I maj, I min, fv, .slice ba bn bc, tv] ∧ FD (all w) fv fs ∧ FD (all w) tv ts := by
 obtain ⟨cs, rfl, hl, n, hp⟩ := open_parts Tryz.underlying31 (by kernel_rfl) nb_cells31 hv h
 match cs, hl with
 | [c0, c1, c2, c3, c4, c5, c6, c7, c8], _ =>
  obtain ⟨k0, y0, e0, t0⟩ := hp 0 _ rfl
  obtain ⟨k1, y1, e1, t1⟩ := hp 1 _ rfl
  obtain ⟨k2, y2, e2, t2⟩ := hp 2 _ rfl
  obtain ⟨k3, y3, e3, t3⟩ := hp 3 _ rfl
  obtain ⟨k4, y4, e4, t4⟩ := hp 4 _ rfl
  obtain ⟨k5, y5, e5, t5⟩ := hp 5 _ rfl
  obtain ⟨k6, y6, e6, t6⟩ := hp 6 _ rfl
  obtain ⟨k7, y7, e7, t7⟩ := hp 7 _ rfl
  obtain ⟨k8, y8, e8, t8⟩ := hp 8 _ rfl
  cases e0; cases e1; cases e2; cases e3; cases e4; cases e5; cases e6; cases e7; cases e8
  obtain ⟨s0, q0, _⟩ := DataW.trod_string Tryz.underlying9 t0
  obtain ⟨s1, q1, _⟩ := DataW.trod_string Tryz.underlying9 t1
  obtain ⟨z2, q2, _⟩ := DataW.trod_int Tryz.underlying3 t2
  obtain ⟨s3, q3, _⟩ := DataW.trod_string Tryz.underlying9 t3
  obtain ⟨z4, q4, _⟩ := DataW.trod_int Tryz.underlying3 t4
  obtain ⟨z5, q5, _⟩ := DataW.trod_int Tryz.underlying3 t5
  obtain ⟨fs, hfs⟩ := open_flds Tryz.underlying29 Tryz.underlying60 (by kernel_rfl) nb_cells60 ⟨_, rfl, Tryz.underlying9⟩ ⟨_, rfl, Tryz.underlying9⟩ t6
  obtain ⟨ts, hts⟩ := open_flds Tryz.underlying29 Tryz.underlying60 (by kernel_rfl) nb_cells60 ⟨_, rfl, Tryz.underlying9⟩ ⟨_, rfl, Tryz.underlying9⟩ t8
  obtain ⟨l7, hl7⟩ := bytes_open t7
  obtain ⟨ba, bc, hb⟩ := hl7.len
  cases q0; cases q1; cases q2; cases q3; cases q4; cases q5
  subst hb
  exact ⟨s0.data.toList, s1.data.toList, s3.data.toList, z2, z4, z5, c6, c8, ba, l7.length, bc, fs, ts, by rw [str_eq s0, str_eq s1, str_eq s3], hfs, hts⟩
set_option maxRecDepth 100000 in
theorem fnNoBody_lifted (os : Os) (started : os.Started) (H : Type) (enc : TypeId × Value → H) :
  ReturnsInHanded {} Tryz.checked os 5 .any (fun w args => (Rows.fnNoBodySpec.pre enc Tryz.prog Tryz.f5 [] false w args ∧ laidMetH Tryz.prog Rows.fnNoBodyRow.laid w) ∧ sizedMet enc Tryz.prog Tryz.f5 (OpenSpec.ofChange Rows.fnNoBodySpec) false w args)
   (Rows.fnNoBodySpec.post enc Tryz.prog Tryz.f5 false true false false) := by
 refine returnsInHanded_of_change_and (C := Tryz.checked) (X := fun w _ => laidMetH Tryz.prog Rows.fnNoBodyRow.laid w) (fun _ _ _ hh h => h.of_heap hh) ownNb started (by kernel_rfl) Tryz.func5
  (ChangeSpec.witness_shaped (enc := enc) (C := Tryz.checked) (os := os) (X := fun w _ => laidMetH Tryz.prog Rows.fnNoBodyRow.laid w) false (World.laidAll Tryz.prog os Rows.fnNoBodyRow.laid) #[.agg #[.string ⟨#[]⟩, .string ⟨#[]⟩, .int .i64 0, .string ⟨#[]⟩, .int .i64 0, .int .i64 0, .slice none 0 0, .slice none 0 0, .slice none 0 0], .slice none 0 0] 8 (World.laidAll_os _ _ _)
   (World.shaped_of_ZipB (by kernel_rfl) (by kernel_rfl)) (by kernel_rfl) (by kernel_rfl) (by kernel_rfl)
   (by rw [MakeChecks.laidMetH_plain _ _ _ (by kernel_rfl)]; exact laidMet_laidAll _ (by kernel_rfl) (by kernel_rfl))) ?_
 intro W base args ds gs before hval0 hW _ _ hL _
 have hval : ∀ (j : Nat) t v, Tryz.f5.params[j]? = some t → args[j]? = some v → Value.okWide Tryz.prog W .any base t v := hval0
 have hW' := hW
 obtain ⟨p, q, hA0, hV, rfl, _, _⟩ := hW
 have hA : DataW.TrodAll enc Tryz.prog W 0 (fun _ => true) true Tryz.f5.params.toList args.toList ds p := hA0
 rw [Tryz.params5] at hA hval
 obtain ⟨v0, v1, d0, d1, p0, p1, rfl, rfl, rfl, h0, h1⟩ := trodAll_two hA
 obtain ⟨rfl, rfl⟩ := trodVars_none hV
 rw [MakeChecks.laidMetH_plain _ _ _ (by kernel_rfl)] at hL
 have hR := laid_ready (by simp [Rows.fnNoBodyRow]) hL
 obtain ⟨meth, target, reason, code, maj, min, fv, tv, ba, bn, bc, fs, ts, rfl, hfs, hts⟩ := nb_open (hval 0 31 v0 rfl rfl) h0
 have hb1 : ∃ l, BD (all W) v1 l := by
  obtain ⟨a1, len, cap, rfl⟩ := okWide_slice Tryz.underlying27 (hval 1 27 v1 rfl rfl)
  obtain ⟨fuel, hf⟩ := h1
  exact bytes_open hf
 obtain ⟨bh, hbh⟩ := hb1
 have hc : Calls Tryz.prog 5 #[.agg #[S meth, S target, I code, S reason, I maj, I min, fv, .slice ba bn bc, tv], v1] W (fun e W' => e = .returned (.bool true) ∧ Below W.heap.size W W') :=
  (FnNoBody_ok (h := all W) hR meth target reason code maj min fv tv v1 ba bn bc fs ts bh hfs hts hbh).calls (full_all W) (fun v h' W' hF hv => ⟨by rw [hv.1], hF.below⟩)
 refine hc.mono fun e W' ⟨he, hb⟩ => ?_
 subst he
 have hl0 : ∀ x ∈ p0, x.block < W.heap.size := by obtain ⟨fuel, hf⟩ := h0; exact DataW.trod_lt fuel 31 _ _ hf
 have hl1 : ∀ x ∈ p1, x.block < W.heap.size := by obtain ⟨fuel, hf⟩ := h1; exact DataW.trod_lt fuel 27 _ _ hf
 exact ⟨_, rfl, _, _, _, [], _, [], hW', trodAll_mk1 (shut_bool Tryz.underlying4 _), trodAll_mk2 (Below.trod nb_laid nb_rec31 nb_lt31 h0 hb hl0) (Below.trod nb_laid nb_rec27 nb_lt27 h1 hb hl1), rfl, hb.frame _, fun h => by cases h⟩
end Go.Proofs.YtbjaapiliegegaaGreatDoor.Sy
