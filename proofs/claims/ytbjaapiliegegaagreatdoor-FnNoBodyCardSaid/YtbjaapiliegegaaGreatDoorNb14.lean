/- Of the proof of FnNoBody: Ce6 Ce7 Ce8. -/
import Derived.Test.YtbjaapiliegegaaGreatDoorNb13
import Derived.Lib.ConvBytes
set_option linter.unusedVariables false
set_option linter.unusedSimpArgs false
section
namespace Go.Proofs.YtbjaapiliegegaaGreatDoor.Ce
open Go Go.RowKit
section
variable {N : Nat} {P : Program} {w0 : World} {h : Heap} {w : World}
set_option maxHeartbeats 1000000 in
theorem append_ok (hF : Full N w0 h w) (hN : N = w0.heap.size) (hn0 : n0 ≤ N) {ts : Array TypeId} {ty : TypeId} {s x v : AV} {S X : Value} {h' : Heap} (e : aappend P h ts s x = some (v, h')) (hs : RV N s S) (hx : RV N x X) :
  ∃ V w', (Builtin.append_ ts ty #[S, X]).run P w = .ok V w' ∧ RV N v V ∧ Full N w0 h' w' := by
 unfold aappend at e
 split at e
 ·rename_i st xt a sl sc n hst hxt hln
  split at e
  ·rename_i el xd hu hux
   split at e
   ·rename_i i hi hint
    split at e
    ·rename_i hb
     obtain ⟨hs1, hby, hlt, hsc⟩ := hb
     obtain rfl : S = .slice (addr N a) sl sc := hs
     split at e
     ·rename_i new hnew
      obtain ⟨Cs, hCs, hr⟩ := firstN_ok (P := P) hF.den hnew hx
      split at e
      ·rename_i hfit
       split at e
       ·rename_i b o
        split at e
        ·rename_i h2 hset
         cases e
         obtain ⟨w', h1, h3⟩ := setN_ok (P := P) hF hn0 hset hr
         refine ⟨.slice (addr N (some (b, o))) (sl + n) sc, w', ?_, rfl, h3⟩
         cases xd <;> first | (cases hint; done) | simp [Builtin.append_, hst, hxt, run_underlying hu, run_underlying hux, size_run hi, lenOf_ok (P := P) (w := w) hln hx, hs1, hfit, hCs, addr, add_at, h1]
        ·cases e
       ·split at e
        ·rename_i hl0
         cases e
         refine ⟨.slice none (sl + n) sc, w, ?_, rfl, hF⟩
         cases xd <;> first | (cases hint; done) | simp [Builtin.append_, hst, hxt, run_underlying hu, run_underlying hux, size_run hi, lenOf_ok (P := P) (w := w) hln hx, hs1, hfit, hCs, addr]
        ·cases e
      ·rename_i hfit
       split at e
       ·cases e
       ·rename_i hsc0
        have hsc0' : sc = 0 := by simpa using hsc0
        subst hsc0'
        split at e
        ·rename_i old z hold hz
         split at e
         ·rename_i zv hzv
          cases e
          obtain ⟨Os, hOs, hor⟩ := firstN_ok (P := P) (hF.drew).den hold (show RV N (.slice a sl (some 0)) (.slice (addr N a) sl 0) from rfl)
          obtain ⟨Ns, hNs, hnr⟩ := firstN_ok (P := P) (hF.drew).den hnew hx
          have h20 : (2 : Nat) ^ 20 = 1048576 := rfl
          have hcap : (Question.appendCap (sl + n) 0 el).cut (w.tape w.drawn (.appendCap (sl + n) 0 el)) = sl + n + (w.tape w.drawn (.appendCap (sl + n) 0 el)) % (2 ^ 63 - (sl + n)) := rfl
          generalize hcc : (Question.appendCap (sl + n) 0 el).cut (w.tape w.drawn (.appendCap (sl + n) 0 el)) = cc at hcap
          obtain ⟨h1, h2⟩ := newRow_ok (P := P) (hF.drew) hN (o := .more (old ++ new) el) (C := Os ++ Ns ++ Builtin.zeroCells z.cells (cc - (sl + n))) (e := el)
           ⟨_, _, Os.toList ++ Ns.toList, rfl, RVs_append hor hnr, (Builtin.zeroCells z.cells (cc - (sl + n))).toList, by simp⟩
          refine ⟨.slice (some ⟨bt N h.n, 0, none⟩) (sl + n) cc, _, ?_, ⟨cc, by omega, rfl⟩, h2⟩
          have hmax : IntKind.i64.max = 9223372036854775807 := rfl
          have hbig : ¬ ((sl + n : Nat) : Int) > IntKind.i64.max := by rw [hmax]; omega
          have hnc : Builtin.nextslicecap (sl + n) 0 = sl + n := by unfold Builtin.nextslicecap; rw [if_pos (by omega)]
          have hroom : ¬ (sl + n) * i.bytes > 2 ^ 48 := by
           have h48 : (2 : Nat) ^ 48 = 281474976710656 := rfl
           have : (sl + n) * i.bytes ≤ 1048576 * 64 := Nat.mul_le_mul (by omega) hby
           omega
          have hforced : (Question.appendCap (sl + n) 0 el).forced = false := rfl
          have hz0 : ∀ W, (zeroValue el).run P W = .ok z W := fun W => by simp [zeroValue, info_run hi, hz]
          have hfit' : ¬ (sl = 0 ∧ n = 0) := by omega
          have hbig' : ¬ ((9223372036854775807 : Int) < (sl : Int) + (n : Int) ∧ i.bytes = 0) := by omega
          rw [Array.append_assoc] at h1 ⊢
          cases xd <;> first | (cases hint; done) | simp [Builtin.append_, hst, hxt, run_underlying hu, run_underlying hux, size_run hi, info_run hi, lenOf_ok (P := P) (w := w) hln hx, hs1, hfit', hmax, hbig', hnc, hroom, hforced, hcc, hOs, hNs, hz0, h1]
         ·cases e
        ·cases e
     ·cases e
    ·cases e
   ·cases e
  ·cases e
 ·cases e
end
end Go.Proofs.YtbjaapiliegegaaGreatDoor.Ce
end
section
namespace Go.Proofs.YtbjaapiliegegaaGreatDoor.Ce
open Go Go.RowKit
section
variable {N : Nat} {P : Program} {w0 : World} {h : Heap} {w : World}
theorem bytesOf_ok : ∀ {cs : List AV} {Cs : List Value} {r : List UInt8} (acc : ByteArray), bytesOf cs = some r → RVs N cs Cs →
  ∃ ns : List Int, Cs = ns.map (Value.int .u8) ∧ ns.foldl (fun r n => r.push (UInt8.ofNat n.toNat)) acc = ⟨acc.data ++ r.toArray⟩ := by
 intro cs
 induction cs with
 | nil =>
  intro Cs r acc e hc
  simp only [bytesOf] at e
  cases e
  rw [show Cs = [] from hc]
  exact ⟨[], rfl, by simp⟩
 | cons c cs ih =>
  intro Cs r acc e hc
  obtain ⟨W, Ws, rfl, hW, hWs⟩ := hc
  unfold bytesOf at e
  split at e
  ·rename_i hh; cases hh
  ·rename_i n l hh
   cases hh
   split at e
   ·rename_i q hq
    cases e
    obtain ⟨ns, rfl, hf⟩ := ih (acc.push (UInt8.ofNat n.toNat)) hq hWs
    refine ⟨n :: ns, by rw [show W = _ from hW]; rfl, ?_⟩
    simp only [List.foldl_cons]
    rw [hf]
    simp [ByteArray.push]
   ·cases e
  ·cases e
theorem Full.grow (hF : Full N w0 h w) {w' : World} {o : AO} {O : Obj} (hs : w'.heap.size = w.heap.size + 1) (hO : w'.heap[w.heap.size]? = some O) (hR : RO N o O)
  (hold : ∀ j, j < w.heap.size → w'.heap[j]? = w.heap[j]?) (h1 : w'.os = w.os) (h2 : w'.tape = w.tape) (h3 : w'.output = w.output) : Full N w0 (h.new o) w' ∧ bt N h.n = w.heap.size := by
 have hb : bt N h.n = w.heap.size := by rw [bt_ge hF.ge, hF.size]
 have hg := hF.ge
 have hz := hF.size
 refine ⟨⟨fun b q e => ?_, Nat.le_succ_of_le hF.ge, ?_, hF.below.trans ⟨h1, h2, h3, by omega, fun k hk => hold k (by omega)⟩⟩, hb⟩
 ·rw [at_new] at e
  split at e
  ·rename_i hbe
   subst hbe
   cases e
   exact ⟨Nat.lt_succ_self _, O, by rw [hb]; exact hO, hR⟩
  ·obtain ⟨hlt, O', hO', hR'⟩ := hF.den b q e
   refine ⟨Nat.lt_succ_of_lt hlt, O', ?_, hR'⟩
   rw [hold _ (Array.getElem?_eq_some_iff.1 hO').1]
   exact hO'
 ·rw [hs]
  show _ = h.n + 1 - n0 + N
  omega
theorem conv_ok (hF : Full N w0 h w) (hn0 : n0 ≤ N) {s d : TypeId} {x v : AV} {X : Value} {h' : Heap} (e : aconv P h s d x = some (v, h')) (hx : RV N x X) :
  ∃ V w', (convert s d X).run P w = .ok V w' ∧ RV N v V ∧ Full N w0 h' w' := by
 unfold aconv at e
 split at e
 ·rename_i ds k k2 n hs hd
  cases e
  rw [show X = _ from hx]
  refine ⟨.int k (k.wrap n), w, ?_, rfl, hF⟩
  cases ds <;> simp [convert, run_underlying hs, run_underlying hd, Conv.intToInt]
 ·rename_i ds a hs hd
  cases e
  rw [show X = _ from hx]
  refine ⟨_, w, ?_, rfl, hF⟩
  cases ds <;> simp [convert, run_underlying hs, run_underlying hd] <;> rfl
 ·rename_i ds el a hs hd
  split at e
  ·rename_i hu8
   split at e
   ·rename_i hl
    cases e
    rw [show X = _ from hx]
    have key : ∀ l : List UInt8, RVs N (l.map fun b => AV.int .u8 b.toNat) (l.map fun b => Value.int .u8 b.toNat) := by
     intro l
     induction l with
     | nil => rfl
     | cons b l ih => exact ⟨_, _, rfl, rfl, ih⟩
    obtain ⟨h1, h2⟩ := hF.grow (w' := Lib.bytesWorld w el ⟨a.toArray⟩) (o := .more (a.map fun b => .int .u8 b.toNat) el) (Lib.bytesWorld_size w el _) (Lib.bytesWorld_at_new w el _)
     ⟨_, _, a.map fun b => Value.int .u8 b.toNat, rfl, key a, (Array.replicate (grownCap w (ByteArray.mk a.toArray).size 0 el - (ByteArray.mk a.toArray).size) (Value.int .u8 0)).toList, by simp [Lib.bytesCells]⟩
     (fun j hj => Lib.bytesWorld_at_old w el _ j hj) rfl rfl rfl
    refine ⟨_, _, Lib.run_convert_string_bytes w s d el ⟨a.toArray⟩ hs hd hu8, ?_, h1⟩
    rw [← h2]
    refine ⟨grownCap w (ByteArray.mk a.toArray).size 0 el, ?_, ?_⟩
    ·have hsz : (ByteArray.mk a.toArray).size = a.length := by simp [ByteArray.size]
     rw [hsz]
     exact grownCap_ge w _ _ _
    ·simp [addr, ByteArray.size]
   ·cases e
  ·cases e
 ·rename_i e1 el b o n c hs hd
  obtain ⟨c', rfl, hc1, hc2⟩ := slice_RV hx
  split at e
  ·rename_i hsd
   split at e
   ·rename_i cs el2 lo hi hu8 hat
    split at e
    ·cases e
    ·rename_i hb
     cases e
     obtain ⟨hlt, O, hO, C, rfl, hC⟩ := hF.den b _ hat
     subst hsd
     have hel : el = e1 := by rw [hs] at hd; cases hd; rfl
     subst hel
     have hsz : C.size = cs.length := by rw [RVs_length hC]; simp
     have hsh : w.shape? (bt N b) = some (el2, C.size) := by simp [World.shape?, hO]
     refine ⟨.slice (addr N (some (b, o))) n c', w.freeze ⟨bt N b, C.size, none⟩ 1, ?_, ?_, ?_⟩
     ·simp [convert, run_underlying hs, run_underlying hu8, addr, markStringish, hsh]
     ·cases c with
      | some c0 => rw [hc1 c0 rfl]; rfl
      | none => exact ⟨c', hc2 rfl, rfl⟩
     ·have hlt' : bt N b < w.heap.size := (Array.getElem?_eq_some_iff.1 hO).1
      have hv : w.heap[bt N b] = .cells C el2 (lo, hi) := (Array.getElem?_eq_some_iff.1 hO).2
      refine hF.turn hn0 (by omega) hlt (O := .cells C el2 (if lo == hi then C.size else min lo C.size, if lo == hi then C.size + 1 else max hi (C.size + 1))) ?_ ⟨C, ?_, hC⟩ ?_ ?_ rfl rfl rfl
      ·simp only [World.freeze]
       rw [if_neg (by decide), Array.getElem?_modify, if_pos rfl, hO]
       simp only [Option.map_some]
       split <;> rfl
      ·rw [hsz]
      ·simp [World.freeze]
      ·intro k hk
       simp only [World.freeze]
       rw [if_neg (by decide), Array.getElem?_modify, if_neg (Ne.symm hk)]
   ·cases e
  ·cases e
 ·rename_i el a n c hs hd
  obtain ⟨c', rfl, _⟩ := slice_RV hx
  split at e
  ·rename_i hu8
   cases e
   refine ⟨.string .empty, w, ?_, rfl, hF⟩
   simp [convert, run_underlying hs, run_underlying hd, run_underlying hu8, addr, Conv.bytesToString]
  ·rename_i b o hu8
   split at e
   ·rename_i cs hcs
    split at e
    ·rename_i r hr
     cases e
     obtain ⟨Vs, hrs, hlen, hc⟩ := loadN_ok hF.den hcs
     refine ⟨.string ⟨r.toArray⟩, w, ?_, rfl, hF⟩
     obtain ⟨ns, hns, hf⟩ := bytesOf_ok ByteArray.empty hr hrs
     rw [run_convert_bytes_string w s d el _ _ _ hs hu8 hd]
     have hl := run_loadN (P := P) (w := w) hlen hc
     rw [hns] at hl
     rw [show addr N (some (b, o)) = some ⟨bt N b, o, none⟩ from rfl, run_bytesToString w _ n c' ns hl, hf]
     congr 3
     simp
    ·cases e
   ·cases e
  ·cases e
 ·cases e
end
end Go.Proofs.YtbjaapiliegegaaGreatDoor.Ce
end
section
namespace Go.Proofs.YtbjaapiliegegaaGreatDoor.Ce
open Go Go.RowKit
section
variable {N : Nat} {P : Program} {w0 : World} {h : Heap} {w : World}
theorem buildSlice_ok (hF : Full N w0 h w) (hN : N = w0.heap.size) {t : TypeId} {len : Nat} {parts : List (Nat × AV)} {v : AV} {h' : Heap} {Parts : Array (Nat × Value)} (e : abuildSlice P h t len parts = some (v, h')) (hp : RPs N parts Parts.toList) :
  ∃ V w', (Instr.buildSlice t len Parts).run P w = .ok V w' ∧ RV N v V ∧ Full N w0 h' w' := by
 unfold abuildSlice at e
 split at e
 ·rename_i el hu
  split at e
  ·rename_i i hi
   split at e
   ·rename_i hb
    obtain ⟨hs, hl⟩ := hb
    split at e
    ·rename_i z hz
     split at e
     ·rename_i zv hzv
      split at e
      ·rename_i cs hcs
       cases e
       have hzr : RVs N (List.replicate len zv) (Array.replicate len z).toList := by simpa using RVs_replicate (ofVal_RV hzv) len
       obtain ⟨R, hR, hrr⟩ := fill_ok hcs hzr hp
       obtain ⟨h1, h2⟩ := newRow_ok (P := P) hF hN (o := .cells cs el 0 0) (C := R) (e := el) ⟨_, rfl, hrr⟩
       refine ⟨.slice (some ⟨bt N h.n, 0, none⟩) len len, _, ?_, rfl, h2⟩
       have h20 : (2 : Nat) ^ 20 = 1048576 := rfl
       have h24 : (2 : Nat) ^ 24 = 16777216 := rfl
       have hbig : ¬ len * i.size > 2 ^ 24 := by rw [hs]; omega
       simp only [hs, Nat.mul_one] at hR
       simp only [Instr.buildSlice, Sem.run_bind, run_underlying hu, size_run hi, Result.andThen_ok]
       rw [if_neg hbig]
       simp only [hs, Nat.mul_one]
       by_cases h0 : len = 0
       ·subst h0
        have e0 : ∀ f : Nat → Value, (Array.range 0).map f = #[] := fun f => Array.eq_empty_of_size_eq_zero (by simp)
        have hR' : Instr.fill (fun i => some (i, 1)) #[] Parts.toList = some R := hR
        simp [e0, hR', h1]
       ·simp only [if_neg h0, Sem.run_bind, zeroValue, info_run hi, hz, Result.andThen_ok, Sem.run_pure, zeros_map (ofVal_agg hzv), hR, h1]
      ·cases e
     ·cases e
    ·cases e
   ·cases e
  ·cases e
 ·cases e
theorem strMap_ok {t e : TypeId} (h : strMap P t = some e) : ∃ k, P.underlying t = some (.map k e) ∧ P.underlying k = some .string := by
 unfold strMap at h
 split at h
 ·rename_i k el hu
  split at h
  ·rename_i hk; cases h; exact ⟨k, hu, hk⟩
  ·cases h
 ·cases h
theorem checkKey_str {k : TypeId} (hk : P.underlying k = some .string) (b : Bool) (s : ByteArray) (w : World) : (Instr.checkKey b 10000 k (.string s)).run P w = .ok () w := by
 have : ∀ n, (Instr.checkKey b (n + 1) k (.string s)).run P w = .ok () w := fun n => by simp [Instr.checkKey, run_underlying hk]
 exact this 9999
def RF1 (N : Nat) : Option (Nat × AV) → Option (Nat × Value) → Prop
 | none, X => X = none
 | some (i, v), X => ∃ V, X = some (i, V) ∧ RV N v V
theorem findNow_ok {s : List UInt8} : ∀ {es : List (AV × AV × Nat)} {Es : List MapEntry} {i : Nat} {r : Option (Nat × AV)}, findStr s es i = some r → RE N es Es →
  ∃ R, Instr.findNow .string (.string ⟨s.toArray⟩) Es i = some R ∧ RF1 N r R
 | [], Es, i, r, e, h => by
  simp only [findStr] at e
  cases e
  rw [show Es = [] from h]
  exact ⟨none, rfl, rfl⟩
 | (k, v, b) :: es, Es, i, r, e, h => by
  obtain ⟨E, Es', rfl, hk, hv, hb, hr⟩ := h
  simp only [findStr] at e
  split at e
  ·rename_i q
   rw [show ({ key := E.key, val := E.val, born := E.born } : MapEntry) = E from rfl] at *
   have hkey : E.key = .string ⟨q.toArray⟩ := hk
   simp only [Instr.findNow, hkey, Instr.sameNow, bytes_beq]
   split at e
   ·rename_i hq
    cases e
    simp only [hq]
    exact ⟨_, rfl, _, rfl, hv⟩
   ·rename_i hq
    have hq' : (s == q) = false := by simpa using hq
    simp only [hq']
    exact findNow_ok e hr
  ·cases e
theorem RE_append : ∀ {es fs : List (AV × AV × Nat)} {Es Fs : List MapEntry}, RE N es Es → RE N fs Fs → RE N (es ++ fs) (Es ++ Fs)
 | [], _, Es, Fs, h, hf => by rw [show Es = [] from h]; exact hf
 | (_, _, _) :: _, _, _, _, ⟨E, Es', rfl, h1, h2, h3, hr⟩, hf => ⟨E, _, rfl, h1, h2, h3, RE_append hr hf⟩
theorem RE_erase : ∀ {es : List (AV × AV × Nat)} {Es : List MapEntry} (i : Nat), RE N es Es → RE N (es.eraseIdx i) (Es.eraseIdx i)
 | [], Es, i, h => by rw [show Es = [] from h]; rfl
 | (_, _, _) :: _, _, 0, ⟨E, Es', rfl, h1, h2, h3, hr⟩ => by simpa using hr
 | (_, _, _) :: _, _, i + 1, ⟨E, Es', rfl, h1, h2, h3, hr⟩ => by
  simp only [List.eraseIdx_cons_succ]
  exact ⟨E, _, rfl, h1, h2, h3, RE_erase i hr⟩
theorem getMap (hD : Den N h w) {b : Nat} {es : List (AV × AV × Nat)} {clock : Nat} (e : h.at b = some (.map es clock)) :
  ∃ E, w.heap[bt N b]? = some (.map E clock) ∧ RE N es E.toList ∧ (getObj (bt N b)).run P w = .ok (.map E clock) w := by
 obtain ⟨_, O, hO, E, rfl, hE⟩ := hD b _ e
 exact ⟨E, hO, hE, by simp [getObj, Sem.run, hO]⟩
theorem lookup_ok (hD : Den N h w) {t : TypeId} {x ix v : AV} {X I : Value} {ok : Bool} (e : alookup P h t x ix ok = some v) (hx : RV N x X) (hi : RV N ix I) :
  ∃ V, (Instr.lookup t X I ok).run P w = .ok V w ∧ RV N v V := by
 have two : ∀ {a : AV} {A : Value} {b : Bool}, RV N a A → RV N (.tuple [a, .bool b]) (.tuple #[A, .bool b]) := fun h => ⟨_, rfl, _, _, rfl, h, _, _, rfl, rfl, rfl⟩
 unfold alookup at e
 split at e
 ·rename_i el r s hm
  obtain ⟨k, hu, hk⟩ := strMap_ok hm
  rw [show X = _ from hx, show I = _ from hi]
  have fin : ∀ (E : Array MapEntry) (es : List (AV × AV × Nat)), RE N es E.toList → (match findStr s es 0 with
     | none => none
     | some (some (_, v)) => some (if ok then .tuple [v, .bool true] else v)
     | some none => match azero P el with
      | some z => some (if ok then .tuple [z, .bool false] else z)
      | none => none) = some v →
    (∃ V, RV N v V ∧ ((∃ i U, Instr.findNow .string (.string ⟨s.toArray⟩) E.toList 0 = some (some (i, U)) ∧ V = if ok then .tuple #[U, .bool true] else U) ∨
     (∃ Z, Instr.findNow .string (.string ⟨s.toArray⟩) E.toList 0 = some none ∧ (zeroValue el).run P w = .ok Z w ∧ V = if ok then .tuple #[Z, .bool false] else Z))) := by
   intro E es hE he
   split at he
   ·cases he
   ·rename_i i u hf
    obtain ⟨R, hR, U, rfl, hU⟩ := findNow_ok hf hE
    simp only [Option.some.injEq] at he
    subst he
    refine ⟨if ok then .tuple #[U, .bool true] else U, ?_, .inl ⟨i, U, hR, rfl⟩⟩
    cases ok
    ·exact hU
    ·exact two hU
   ·rename_i hf
    obtain ⟨R, hR, rfl⟩ := findNow_ok hf hE
    split at he
    ·rename_i z hz
     obtain ⟨Z, hZ, hr, _⟩ := azero_run (N := N) hz w
     simp only [Option.some.injEq] at he
     subst he
     refine ⟨if ok then .tuple #[Z, .bool false] else Z, ?_, .inr ⟨Z, hR, hZ, rfl⟩⟩
     cases ok
     ·exact hr
     ·exact two hr
    ·cases he
  cases r with
  | none =>
   simp only at e
   obtain ⟨V, hV, hc⟩ := fin #[] [] rfl e
   refine ⟨V, ?_, hV⟩
   rcases hc with ⟨i, U, h1, rfl⟩ | ⟨Z, h1, h2, rfl⟩
   ·simp at h1
    cases h1
   ·simp only at h1
    have h1' : Instr.findNow .string (.string ⟨s.toArray⟩) [] 0 = some none := h1
    cases ok <;> simp [Instr.lookup, run_underlying hu, checkKey_str hk, Instr.findKey, run_underlying hk, h1', h2]
  | some b =>
   simp only at e
   cases ha : h.at b with
   | none => rw [ha] at e; cases e
   | some q =>
    rw [ha] at e
    cases q <;> simp only at e <;> first | (cases e; done) | skip
    rename_i es clock
    obtain ⟨E, hO, hE, hg⟩ := getMap (P := P) hD ha
    obtain ⟨V, hV, hc⟩ := fin E es hE e
    refine ⟨V, ?_, hV⟩
    rcases hc with ⟨i, U, h1, rfl⟩ | ⟨Z, h1, h2, rfl⟩
    ·cases ok <;> simp [Instr.lookup, run_underlying hu, checkKey_str hk, Instr.findKey, run_underlying hk, h1, hg]
    ·cases ok <;> simp [Instr.lookup, run_underlying hu, checkKey_str hk, Instr.findKey, run_underlying hk, h1, h2, hg]
 ·cases e
theorem setMap_ok (hF : Full N w0 h w) (hn0 : n0 ≤ N) {b : Nat} (hb : n0 ≤ b) {O o' : AO} {Q O' : Obj} (ha : h.at b = some O) (hQ : w.heap[bt N b]? = some Q) (hc : ∀ c e f, Q ≠ .cells c e f) (hR : RO N o' O') :
  ∃ w', (setObj (bt N b) O').run P w = .ok () w' ∧ Full N w0 (h.put b o') w' := by
 obtain ⟨hlt, _⟩ := hF.den b _ ha
 have hlt' : bt N b < w.heap.size := (Array.getElem?_eq_some_iff.1 hQ).1
 refine ⟨{ w with heap := w.heap.setIfInBounds (bt N b) O' }, ?_, hF.turn hn0 hb hlt (O := O') ?_ hR ?_ ?_ rfl rfl rfl⟩
 ·simp only [setObj, Sem.run, hQ]
 ·simp [hlt']
 ·simp
 ·intro k hk
  simp [Array.getElem?_setIfInBounds_ne (Ne.symm hk)]
theorem update_ok (hF : Full N w0 h w) (hn0 : n0 ≤ N) {t : TypeId} {m k v : AV} {M K V : Value} {h' : Heap} (e : aupdate P h t m k v = some h') (hm : RV N m M) (hk : RV N k K) (hv : RV N v V) :
  ∃ w', (Instr.mapUpdate t M K V).run P w = .ok () w' ∧ Full N w0 h' w' := by
 unfold aupdate at e
 split at e
 ·rename_i el b s hmt
  obtain ⟨kt, hu, hkt⟩ := strMap_ok hmt
  rw [show M = _ from hm, show K = _ from hk]
  split at e
  ·cases e
  rename_i hb
  cases ha : h.at b with
  | none => rw [ha] at e; cases e
  | some q =>
   rw [ha] at e
   cases q <;> simp only at e <;> first | (cases e; done) | skip
   rename_i es clock
   obtain ⟨E, hO, hE, hg⟩ := getMap (P := P) hF.den ha
   split at e
   ·rename_i hf
    cases e
    obtain ⟨R, hR, rfl⟩ := findNow_ok hf hE
    obtain ⟨w', h1, h2⟩ := setMap_ok (P := P) hF hn0 (by omega) ha hO (by intro c e f hq; cases hq) (o' := .map (es ++ [(.str s, v, clock)]) (clock + 1)) (O' := .map (E.push { key := .string ⟨s.toArray⟩, val := V, born := clock }) (clock + 1))
     ⟨_, rfl, by simpa using RE_append hE (show RE N [(AV.str s, v, clock)] [({ key := .string ⟨s.toArray⟩, val := V, born := clock } : MapEntry)] from ⟨_, _, rfl, rfl, hv, rfl, rfl⟩)⟩
    exact ⟨w', by simp [Instr.mapUpdate, run_underlying hu, hg, checkKey_str hkt, Instr.findKey, run_underlying hkt, hR, h1], h2⟩
   ·cases e
   ·cases e
 ·cases e
theorem delete_ok (hF : Full N w0 h w) (hn0 : n0 ≤ N) {ts : Array TypeId} {t ty : TypeId} {m k : AV} {M K : Value} {h' : Heap} (ht : ts[0]? = some t) (e : adelete P h t m k = some h') (hm : RV N m M) (hk : RV N k K) :
  ∃ w', (Builtin.delete_ ts ty #[M, K]).run P w = .ok undef w' ∧ Full N w0 h' w' := by
 unfold adelete at e
 split at e
 ·rename_i el s hmt
  obtain ⟨kt, hu, hkt⟩ := strMap_ok hmt
  rw [show M = _ from hm, show K = _ from hk]
  cases e
  exact ⟨w, by simp [Builtin.delete_, ht, run_underlying hu, checkKey_str hkt, undef], hF⟩
 ·rename_i el b s hmt
  obtain ⟨kt, hu, hkt⟩ := strMap_ok hmt
  rw [show M = _ from hm, show K = _ from hk]
  split at e
  ·cases e
  rename_i hb
  cases ha : h.at b with
  | none => rw [ha] at e; cases e
  | some q =>
   rw [ha] at e
   cases q <;> simp only at e <;> first | (cases e; done) | skip
   rename_i es clock
   obtain ⟨E, hO, hE, hg⟩ := getMap (P := P) hF.den ha
   split at e
   ·rename_i hf
    cases e
    obtain ⟨R, hR, rfl⟩ := findNow_ok hf hE
    obtain ⟨w', h1, h2⟩ := setMap_ok (P := P) hF hn0 (by omega) ha hO (by intro c e f hq; cases hq) (o' := .map es clock) (O' := .map E clock) ⟨_, rfl, hE⟩
    exact ⟨w', by simp [Builtin.delete_, ht, run_underlying hu, hg, checkKey_str hkt, Instr.findKey, run_underlying hkt, hR, h1, undef], h2⟩
   ·rename_i i u hf
    cases e
    obtain ⟨R, hR, U, rfl, _⟩ := findNow_ok hf hE
    obtain ⟨w', h1, h2⟩ := setMap_ok (P := P) hF hn0 (by omega) ha hO (by intro c e f hq; cases hq) (o' := .map (es.eraseIdx i) clock) (O' := .map (E.eraseIdxIfInBounds i) clock) ⟨_, rfl, by simpa using RE_erase i hE⟩
    exact ⟨w', by simp [Builtin.delete_, ht, run_underlying hu, hg, checkKey_str hkt, Instr.findKey, run_underlying hkt, hR, h1, undef], h2⟩
   ·cases e
 ·cases e
theorem range_ok (hF : Full N w0 h w) (hN : N = w0.heap.size) {t : TypeId} {x v : AV} {X : Value} {h' : Heap} (e : arange P h t x = some (v, h')) (hx : RV N x X) :
  ∃ V w', (Instr.range t X).run P w = .ok V w' ∧ RV N v V ∧ Full N w0 h' w' := by
 unfold arange at e
 split at e
 ·rename_i k el hu
  rw [show X = _ from hx]
  cases e
  obtain ⟨h1, h2⟩ := hF.new hN (o := .iter none 0 [] 0) (O := .mapIter none 0 #[] 0) rfl
  refine ⟨.pointer (some ⟨bt N h.n, 0, none⟩), _, ?_, rfl, h1⟩
  rw [h2]
  simp [Instr.range, run_underlying hu]
 ·rename_i k el m hu
  rw [show X = _ from hx]
  cases ha : h.at m with
  | none => rw [ha] at e; cases e
  | some q =>
   rw [ha] at e
   cases q <;> simp only at e <;> first | (cases e; done) | skip
   rename_i es clock
   cases e
   obtain ⟨E, hO, hE, hg⟩ := getMap (P := P) hF.den ha
   obtain ⟨h1, h2⟩ := hF.new hN (o := .iter (some m) clock [] clock) (O := .mapIter (some (bt N m)) clock #[] clock) rfl
   refine ⟨.pointer (some ⟨bt N h.n, 0, none⟩), _, ?_, rfl, h1⟩
   rw [h2]
   simp [Instr.range, run_underlying hu, hg]
 ·cases e
theorem max_ok {x y v : AV} {X Y : Value} {ts : Array TypeId} {ty : TypeId} (e : amax x y = some v) (hx : RV N x X) (hy : RV N y Y) : ∃ V, (Builtin.max_ ts ty #[X, Y]).run P w = .ok V w ∧ RV N v V := by
 unfold amax at e
 split at e
 ·rw [show X = _ from hx, show Y = _ from hy]
  cases e
  exact ⟨_, rfl, rfl⟩
 ·cases e
theorem next_ok (hD : Den N h w) {x v : AV} {X : Value} {b : Bool} {ty : TypeId} (e : anext h x b = some v) (hx : RV N x X) : ∃ V, (Instr.next X b ty).run P w = .ok V w ∧ RV N v V := by
 have hf : RV N (.tuple [.bool false]) (.tuple #[.bool false]) := ⟨_, rfl, _, _, rfl, rfl, rfl⟩
 unfold anext at e
 split at e
 ·rename_i r
  rw [show X = _ from hx]
  cases ha : h.at r with
  | none => rw [ha] at e; cases e
  | some q =>
   rw [ha] at e
   obtain ⟨_, O, hO, hR⟩ := hD r q ha
   cases q <;> simp only at e <;> first | (cases e; done) | skip
   rename_i m since seen st
   have hO' : O = .mapIter (m.map (bt N)) since seen.toArray st := hR
   subst hO'
   have hg : (getObj (bt N r)).run P w = .ok (.mapIter (m.map (bt N)) since seen.toArray st) w := by simp [getObj, Sem.run, hO]
   cases m with
   | none =>
    cases e
    exact ⟨.tuple #[.bool false], by simp [Instr.next, addr, hg], hf⟩
   | some m =>
    simp only at e
    cases ham : h.at m with
    | none => rw [ham] at e; cases e
    | some q2 =>
     rw [ham] at e
     cases q2 <;> first | (cases e; done) | skip
     rename_i es clock
     have hes : es = [] := by
      cases es with
      | nil => rfl
      | cons a l => cases e
     subst hes
     cases e
     obtain ⟨E, hO2, hE, hg2⟩ := getMap (P := P) hD ham
     have hE0 : E = #[] := by
      have : E.toList = [] := hE
      simpa using this
     subst hE0
     refine ⟨.tuple #[.bool false], ?_, hf⟩
     have h1 : (Question.mapNext 1).forced = true := rfl
     simp [Instr.next, addr, hg, hg2, h1]
 ·cases e
def Ends (N : Nat) (w0 w : World) (r : Result Next) : Out → Prop
 | .val v h' => ∃ V w', (r = .ok (.value V) w' ∨ (r = .ok .skip w' ∧ V = undef)) ∧ RV N v V ∧ Full N w0 h' w'
 | .call f args => ∃ A, r = .ok (.enter f A) w ∧ RVs N args A.toList
 | .defer fn c args => ∃ C A, r = .ok (.defer { target := .fn fn C, args := A }) w ∧ RVs N c C.toList ∧ RVs N args A.toList
def NoCount (P : Program) : Prop := ∀ (f : Nat) (F : Func), P.funcs[f]? = some F → (F.name == "runtime.NumGoroutine") = false
theorem callFunc_ok {f : FuncId} {args : List AV} {out : Out} {A : Array Value} (hng : NoCount P) (e : ofCall P f args = some out) :
  (callFunc f A).run P w = .ok (.enter f A) w ∧ out = .call f args := by
 unfold ofCall at e
 split at e
 ·rename_i F hF
  split at e
  ·cases e
  ·rename_i hb
   cases e
   refine ⟨?_, rfl⟩
   have h1 : F.name ≠ "runtime.NumGoroutine" := by simpa using hng f F hF
   have h2 : F.body ≠ none := by intro h; simp [h] at hb
   simp [callFunc, hF, h1, h2]
 ·cases e
end
end Go.Proofs.YtbjaapiliegegaaGreatDoor.Ce
end
