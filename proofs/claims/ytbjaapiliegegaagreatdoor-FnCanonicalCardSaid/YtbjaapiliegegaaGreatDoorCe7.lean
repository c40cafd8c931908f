/- The reckoner's conversions, built slices, maps, ranges. -/
import Derived.Test.YtbjaapiliegegaaGreatDoorCe6
import Derived.Lib.ConvBytes
namespace Go.Proofs.YtbjaapiliegegaaGreatDoor.Ce
open Go Go.RowKit

section
variable {N : Nat} {P : Program} {w0 : World} {h : Heap} {w : World}

theorem bytesOf_ok : ∀ {cs : List AV} {Cs : List Value} {r : List UInt8} (acc : ByteArray), bytesOf cs = some r → RVs N cs Cs →
    ∃ ns : List Int, Cs = ns.map (Value.int .u8) ∧ ns.foldl (fun r n => r.push (UInt8.ofNat n.toNat)) acc = ⟨acc.data ++ r.toArray⟩ := by
  intro cs
  induction cs with
  | nil =>
    intro Cs r acc e hc
    simp only [bytesOf] at e
    cases e
    rw [show Cs = [] from hc]
    exact ⟨[], rfl, by simp⟩
  | cons c cs ih =>
    intro Cs r acc e hc
    obtain ⟨W, Ws, rfl, hW, hWs⟩ := hc
    unfold bytesOf at e
    split at e
    · rename_i hh; cases hh
    · rename_i n l hh
      cases hh
      split at e
      · rename_i q hq
        cases e
        obtain ⟨ns, rfl, hf⟩ := ih (acc.push (UInt8.ofNat n.toNat)) hq hWs
        refine ⟨n :: ns, by rw [show W = _ from hW]; rfl, ?_⟩
        simp only [List.foldl_cons]
        rw [hf]
        simp [ByteArray.push]
      · cases e
    · cases e

theorem Full.grow (hF : Full N w0 h w) {w' : World} {o : AO} {O : Obj} (hs : w'.heap.size = w.heap.size + 1) (hO : w'.heap[w.heap.size]? = some O) (hR : RO N o O)
    (hold : ∀ j, j < w.heap.size → w'.heap[j]? = w.heap[j]?) (h1 : w'.os = w.os) (h2 : w'.tape = w.tape) (h3 : w'.output = w.output) : Full N w0 (h.new o) w' ∧ bt N h.n = w.heap.size := by
  have hb : bt N h.n = w.heap.size := by rw [bt_ge hF.ge, hF.size]
  have hg := hF.ge
  have hz := hF.size
  refine ⟨⟨fun b q e => ?_, Nat.le_succ_of_le hF.ge, ?_, hF.below.trans ⟨h1, h2, h3, by omega, fun k hk => hold k (by omega)⟩⟩, hb⟩
  · rw [at_new] at e
    split at e
    · rename_i hbe
      subst hbe
      cases e
      exact ⟨Nat.lt_succ_self _, O, by rw [hb]; exact hO, hR⟩
    · obtain ⟨hlt, O', hO', hR'⟩ := hF.den b q e
      refine ⟨Nat.lt_succ_of_lt hlt, O', ?_, hR'⟩
      rw [hold _ (Array.getElem?_eq_some_iff.1 hO').1]
      exact hO'
  · rw [hs]
    show _ = h.n + 1 - n0 + N
    omega

theorem conv_ok (hF : Full N w0 h w) (hn0 : n0 ≤ N) {s d : TypeId} {x v : AV} {X : Value} {h' : Heap} (e : aconv P h s d x = some (v, h')) (hx : RV N x X) :
    ∃ V w', (convert s d X).run P w = .ok V w' ∧ RV N v V ∧ Full N w0 h' w' := by
  unfold aconv at e
  split at e
  · rename_i ds k k2 n hs hd
    cases e
    rw [show X = _ from hx]
    refine ⟨.int k (k.wrap n), w, ?_, rfl, hF⟩
    cases ds <;> simp [convert, run_underlying hs, run_underlying hd, Conv.intToInt]
  · rename_i ds a hs hd
    cases e
    rw [show X = _ from hx]
    refine ⟨_, w, ?_, rfl, hF⟩
    cases ds <;> simp [convert, run_underlying hs, run_underlying hd] <;> rfl
  · rename_i ds el a hs hd
    split at e
    · rename_i hu8
      split at e
      · rename_i hl
        cases e
        rw [show X = _ from hx]
        have key : ∀ l : List UInt8, RVs N (l.map fun b => AV.int .u8 b.toNat) (l.map fun b => Value.int .u8 b.toNat) := by
          intro l
          induction l with
          | nil => rfl
          | cons b l ih => exact ⟨_, _, rfl, rfl, ih⟩
        obtain ⟨h1, h2⟩ := hF.grow (w' := Lib.bytesWorld w el ⟨a.toArray⟩) (o := .more (a.map fun b => .int .u8 b.toNat) el) (Lib.bytesWorld_size w el _) (Lib.bytesWorld_at_new w el _)
          ⟨_, _, a.map fun b => Value.int .u8 b.toNat, rfl, key a, (Array.replicate (grownCap w (ByteArray.mk a.toArray).size 0 el - (ByteArray.mk a.toArray).size) (Value.int .u8 0)).toList, by simp [Lib.bytesCells]⟩
          (fun j hj => Lib.bytesWorld_at_old w el _ j hj) rfl rfl rfl
        refine ⟨_, _, Lib.run_convert_string_bytes w s d el ⟨a.toArray⟩ hs hd hu8, ?_, h1⟩
        rw [← h2]
        refine ⟨grownCap w (ByteArray.mk a.toArray).size 0 el, ?_, ?_⟩
        · have hsz : (ByteArray.mk a.toArray).size = a.length := by simp [ByteArray.size]
          rw [hsz]
          exact grownCap_ge w _ _ _
        · simp [addr, ByteArray.size]
      · cases e
    · cases e
  · rename_i e1 el b o n c hs hd
    obtain ⟨c', rfl, hc1, hc2⟩ := slice_RV hx
    split at e
    · rename_i hsd
      split at e
      · rename_i cs el2 lo hi hu8 hat
        split at e
        · cases e
        · rename_i hb
          cases e
          obtain ⟨hlt, O, hO, C, rfl, hC⟩ := hF.den b _ hat
          subst hsd
          have hel : el = e1 := by rw [hs] at hd; cases hd; rfl
          subst hel
          have hsz : C.size = cs.length := by rw [RVs_length hC]; simp
          have hsh : w.shape? (bt N b) = some (el2, C.size) := by simp [World.shape?, hO]
          refine ⟨.slice (addr N (some (b, o))) n c', w.freeze ⟨bt N b, C.size, none⟩ 1, ?_, ?_, ?_⟩
          · simp [convert, run_underlying hs, run_underlying hu8, addr, markStringish, hsh]
          · cases c with
            | some c0 => rw [hc1 c0 rfl]; rfl
            | none => exact ⟨c', hc2 rfl, rfl⟩
          · have hlt' : bt N b < w.heap.size := (Array.getElem?_eq_some_iff.1 hO).1
            have hv : w.heap[bt N b] = .cells C el2 (lo, hi) := (Array.getElem?_eq_some_iff.1 hO).2
            refine hF.turn hn0 (by omega) hlt (O := .cells C el2 (if lo == hi then C.size else min lo C.size, if lo == hi then C.size + 1 else max hi (C.size + 1))) ?_ ⟨C, ?_, hC⟩ ?_ ?_ rfl rfl rfl
            · simp only [World.freeze]
              rw [if_neg (by decide), Array.getElem?_modify, if_pos rfl, hO]
              simp only [Option.map_some]
              split <;> rfl
            · rw [hsz]
            · simp [World.freeze]
            · intro k hk
              simp only [World.freeze]
              rw [if_neg (by decide), Array.getElem?_modify, if_neg (Ne.symm hk)]
      · cases e
    · cases e
  · rename_i el a n c hs hd
    obtain ⟨c', rfl, _⟩ := slice_RV hx
    split at e
    · rename_i hu8
      cases e
      refine ⟨.string .empty, w, ?_, rfl, hF⟩
      simp [convert, run_underlying hs, run_underlying hd, run_underlying hu8, addr, Conv.bytesToString]
    · rename_i b o hu8
      split at e
      · rename_i cs hcs
        split at e
        · rename_i r hr
          cases e
          obtain ⟨Vs, hrs, hlen, hc⟩ := loadN_ok hF.den hcs
          refine ⟨.string ⟨r.toArray⟩, w, ?_, rfl, hF⟩
          obtain ⟨ns, hns, hf⟩ := bytesOf_ok ByteArray.empty hr hrs
          rw [run_convert_bytes_string w s d el _ _ _ hs hu8 hd]
          have hl := run_loadN (P := P) (w := w) hlen hc
          rw [hns] at hl
          rw [show addr N (some (b, o)) = some ⟨bt N b, o, none⟩ from rfl, run_bytesToString w _ n c' ns hl, hf]
          congr 3
          simp
        · cases e
      · cases e
    · cases e
  · cases e
end
end Go.Proofs.YtbjaapiliegegaaGreatDoor.Ce
