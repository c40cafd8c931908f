/- Runs over known values: conversions, maps, ranges. -/
import Derived.Test.YtbjaapiliegegaaGreatDoorSa4
namespace Go.Proofs.YtbjaapiliegegaaGreatDoor.Sy
open Go Go.RowKit

section
variable {w0 : World} {h : Heap} {w : World} {P : Program}

theorem bytesOf_ok : ∀ {cs : List Value} {r : List UInt8} (acc : ByteArray), bytesOf cs = some r →
    ∃ ns : List Int, cs = ns.map (Value.int .u8) ∧ ns.foldl (fun r n => r.push (UInt8.ofNat n.toNat)) acc = ⟨acc.data ++ r.toArray⟩ := by
  intro cs
  induction cs with
  | nil =>
    intro r acc e
    simp only [bytesOf] at e
    cases e
    exact ⟨[], rfl, by simp⟩
  | cons c cs ih =>
    intro r acc e
    unfold bytesOf at e
    split at e
    · rename_i hh; cases hh
    · rename_i n l hh
      cases hh
      split at e
      · rename_i q hq
        cases e
        obtain ⟨ns, rfl, hf⟩ := ih (acc.push (UInt8.ofNat n.toNat)) hq
        refine ⟨n :: ns, rfl, ?_⟩
        simp only [List.foldl_cons]
        rw [hf]
        simp [ByteArray.push]
      · cases e
    · cases e

theorem bytesOf_vals : ∀ l : List UInt8, bytesOf (byteVals l) = some l
  | [] => rfl
  | b :: l => by
    have ih := bytesOf_vals l
    unfold byteVals at ih
    simp [byteVals, bytesOf, ih]

theorem conv_ok (hF : Full w0 h w) {s d : TypeId} {x : Value} :
    ∃ c, ∀ v h', aconv w0.heap.size P h s d x c = some (v, h') → ∃ w', (convert s d x).run P w = .ok v w' ∧ Full w0 h' w' := by
  refine ⟨match P.underlying d, x with
    | some (.slice e), .string a => w.tape w.drawn (.appendCap (bytes a).length 0 e)
    | _, _ => 0, fun v h' e => ?_⟩
  unfold aconv at e
  split at e
  · rename_i ds k k2 n hs hd
    cases e
    refine ⟨w, ?_, hF⟩
    cases ds <;> simp [convert, run_underlying hs, run_underlying hd, Conv.intToInt]
  · rename_i ds a hs hd
    cases e
    refine ⟨w, ?_, hF⟩
    cases ds <;> simp [convert, run_underlying hs, run_underlying hd]
  · rename_i el a hs hd
    simp only [hd] at e
    split at e
    · rename_i hu8
      split at e
      · rename_i hl
        cases e
        have hcap : grownCap w a.size 0 el = room (bytes a).length (w.tape w.drawn (.appendCap (bytes a).length 0 el)) := by
          rw [bytes_size]; rfl
        generalize hrm : room (bytes a).length (w.tape w.drawn (.appendCap (bytes a).length 0 el)) = rm at hcap
        have hge : (bytes a).length ≤ rm := by rw [← hrm]; exact room_ge _ _
        have hcells : Lib.bytesCells w el a = (byteVals (bytes a) ++ List.replicate (rm - (bytes a).length) (Value.int .u8 0)).toArray := by
          apply Array.toList_inj.1
          unfold Lib.bytesCells
          rw [hcap, bytes_size]
          simp [byteVals, bytes]
        have hnew := Lib.bytesWorld_at_new w el a
        have hsz : (Lib.bytesCells w el a).size = rm := by rw [hcells]; simp [byteVals]; omega
        have hg := hF.grow (w' := Lib.bytesWorld w el a) (o := .cells (byteVals (bytes a) ++ List.replicate (rm - (bytes a).length) (.int .u8 0)) el rm (rm + 1)) (Lib.bytesWorld_size w el _)
          (by rw [hnew, hsz, hcells]; rfl) (fun j hj => Lib.bytesWorld_at_old w el _ j hj) rfl rfl rfl
        refine ⟨_, ?_, hg⟩
        rw [Lib.run_convert_string_bytes w s d el a hs hd hu8, hcap, hF.size, bytes_size]
      · cases e
    · cases e
  · rename_i e1 el b o n cp hs hd
    split at e
    · rename_i cs el2 lo hi hu8 hat
      split at e
      · rename_i hc
        obtain ⟨hb, rfl⟩ := hc
        cases e
        have hO := hF.row hat
        have hel : el = e1 := by rw [hs] at hd; cases hd; rfl
        subst hel
        have hsh : w.shape? b = some (el2, cs.length) := by simp [World.shape?, hO]
        refine ⟨w.freeze ⟨b, cs.length, none⟩ 1, ?_, ?_⟩
        · simp [convert, run_underlying hs, run_underlying hu8, markStringish, hsh]
        · refine hF.turn hb ?_ ?_ ?_ rfl rfl rfl
          · simp only [World.freeze]
            rw [if_neg (by decide), Array.getElem?_modify, if_pos rfl, hO]
            simp only [Option.map_some, AO.obj]
            by_cases h1 : lo = hi <;> simp [h1]
          · simp [World.freeze]
          · intro k hk
            simp only [World.freeze]
            rw [if_neg (by decide), Array.getElem?_modify, if_neg (Ne.symm hk)]
      · cases e
    · cases e
  · rename_i el a n c hs hd
    split at e
    · rename_i hu8
      cases e
      refine ⟨w, ?_, hF⟩
      simp [convert, run_underlying hs, run_underlying hd, run_underlying hu8, Conv.bytesToString]
      rfl
    · rename_i b o hu8
      split at e
      · rename_i cs hcs
        split at e
        · rename_i r hr
          cases e
          refine ⟨w, ?_, hF⟩
          obtain ⟨ns, hns, hf⟩ := bytesOf_ok ByteArray.empty hr
          rw [run_convert_bytes_string w s d el _ _ _ hs hu8 hd]
          have hl := load_run (P := P) hF hcs
          rw [hns] at hl
          rw [run_bytesToString w _ n c ns hl, hf]
          congr 3
          simp
        · cases e
      · cases e
    · cases e
  · cases e

theorem strMap_ok {t e : TypeId} (h : strMap P t = some e) : ∃ k, P.underlying t = some (.map k e) ∧ P.underlying k = some .string := by
  unfold strMap at h
  split at h
  · rename_i k el hu
    split at h
    · rename_i hk; cases h; exact ⟨k, hu, hk⟩
    · cases h
  · cases h

theorem checkKey_str {k : TypeId} (hk : P.underlying k = some .string) (b : Bool) (s : ByteArray) (w : World) : (Instr.checkKey b 10000 k (.string s)).run P w = .ok () w := by
  have : ∀ n, (Instr.checkKey b (n + 1) k (.string s)).run P w = .ok () w := fun n => by simp [Instr.checkKey, run_underlying hk]
  exact this 9999

theorem findNow_ok {s : ByteArray} : ∀ {es : List MapEntry} {i : Nat} {r : Option (Nat × Value)}, findStr (bytes s) es i = some r →
    Instr.findNow .string (.string s) es i = some r
  | [], i, r, e => by
    simp only [findStr] at e
    cases e
    rfl
  | E :: es, i, r, e => by
    simp only [findStr] at e
    split at e
    · rename_i hk
      cases e
      unfold keyIs at hk
      split at hk
      · rename_i q hq
        have hb : (s == q) = true := by rw [bytes_beq]; simpa using hk
        simp only [Instr.findNow, hq, Instr.sameNow, hb]
      · cases hk
    · rename_i hk
      have ih := findNow_ok e
      unfold keyIs at hk
      split at hk
      · rename_i q hq
        have hb : (s == q) = false := by rw [bytes_beq]; simpa using hk
        simp only [Instr.findNow, hq, Instr.sameNow, hb]
        exact ih
      · cases hk
    · cases e

theorem findStr_key : ∀ {es : List MapEntry} {k : List UInt8} {i j : Nat} {v : Value}, findStr k es i = some (some (j, v)) →
    i ≤ j ∧ ∃ E, es[j - i]? = some E ∧ ∃ q, E.key = .string q ∧ bytes q = k
  | [], k, i, j, v, e => by simp [findStr] at e
  | E :: es, k, i, j, v, e => by
    simp only [findStr] at e
    split at e
    · rename_i hk
      cases e
      unfold keyIs at hk
      split at hk
      · rename_i q hq
        exact ⟨Nat.le_refl _, E, by simp, q, hq, Eq.symm (by simpa using hk)⟩
      · cases hk
    · obtain ⟨h1, E', h2, h3⟩ := findStr_key e
      refine ⟨by omega, E', ?_, h3⟩
      rw [show j - i = (j - (i + 1)) + 1 by omega]
      simpa using h2
    · cases e

theorem lookup_ok (hF : Full w0 h w) {t : TypeId} {x ix v : Value} {ok : Bool} (e : alookup P h t x ix ok = some v) :
    (Instr.lookup t x ix ok).run P w = .ok v w := by
  unfold alookup at e
  split at e
  · rename_i el r s hm
    obtain ⟨k, hu, hk⟩ := strMap_ok hm
    split at e
    · cases e
    · rename_i es he
      split at e
      · cases e
      · rename_i i u hf
        cases e
        have h1 := findNow_ok hf
        rcases entries_ok (P := P) hF he with ⟨rfl, rfl⟩ | ⟨b, clock, rfl, hg⟩
        · simp [findStr] at hf
        · cases ok <;> simp [Instr.lookup, run_underlying hu, checkKey_str hk, Instr.findKey, run_underlying hk, h1, hg]
      · rename_i hf
        have h1 := findNow_ok hf
        split at e
        · rename_i z hz
          cases e
          rcases entries_ok (P := P) hF he with ⟨rfl, rfl⟩ | ⟨b, clock, rfl, hg⟩
          · cases ok <;> simp [Instr.lookup, run_underlying hu, checkKey_str hk, Instr.findKey, run_underlying hk, h1, zero_run hz]
          · cases ok <;> simp [Instr.lookup, run_underlying hu, checkKey_str hk, Instr.findKey, run_underlying hk, h1, zero_run hz, hg]
        · cases e
  · cases e

theorem update_ok (hF : Full w0 h w) {t : TypeId} {m k v : Value} {h' : Heap} (e : aupdate w0.heap.size P h t m k v = some h') :
    ∃ w', (Instr.mapUpdate t m k v).run P w = .ok () w' ∧ Full w0 h' w' := by
  unfold aupdate at e
  split at e
  · rename_i el b s hmt
    obtain ⟨kt, hu, hkt⟩ := strMap_ok hmt
    split at e
    · rename_i es clock ha
      obtain ⟨hO, hg⟩ := get_map (P := P) hF ha
      split at e
      · rename_i hb
        split at e
        · rename_i hf
          cases e
          have hR := findNow_ok hf
          obtain ⟨w', h1, h2⟩ := setObj_ok (P := P) hF hb ha (by intro c e lo hi hq; cases hq) (o' := .map (es ++ [⟨.string s, v, clock⟩]) (clock + 1))
          refine ⟨w', ?_, h2⟩
          have h1' : (setObj b (.map (es.toArray.push ⟨.string s, v, clock⟩) (clock + 1))).run P w = .ok () w' := by
            rw [← h1]; simp [AO.obj]
          simp [Instr.mapUpdate, run_underlying hu, hg, checkKey_str hkt, Instr.findKey, run_underlying hkt, hR]
          simpa using h1'
        · rename_i i u hf
          cases e
          have hR := findNow_ok hf
          obtain ⟨_, E, hE, q, hq, hqs⟩ := findStr_key hf
          have hqs' : q = s := by rw [← mk_bytes q, ← mk_bytes s, hqs]
          subst hqs'
          obtain ⟨w', h1, h2⟩ := setObj_ok (P := P) hF hb ha (by intro c e lo hi hq; cases hq) (o' := .map (es.modify i fun e => { e with key := .string q, val := v }) clock)
          refine ⟨w', ?_, h2⟩
          have hkey : (Instr.keyThatStays (.string q) (.string q)).run P w = .ok (.string q) w := by
            have hsb : Instr.sameBits 10000 (.string q) (.string q) = true := by
              show (q == q) = true
              rw [bytes_beq]; simp
            simp [Instr.keyThatStays, hsb]
          have hEi : es[i]? = some E := by simpa using hE
          have h1' : (setObj b (.map (es.toArray.modify i fun e => { e with key := .string q, val := v }) clock)).run P w = .ok () w' := by
            rw [← h1]; simp [AO.obj]
          simp [Instr.mapUpdate, run_underlying hu, hg, checkKey_str hkt, Instr.findKey, run_underlying hkt, hR, hEi, hq, hkey]
          simpa using h1'
        · cases e
      · cases e
    · cases e
  · cases e

theorem delete_ok (hF : Full w0 h w) {ts : Array TypeId} {t ty : TypeId} {m k : Value} {h' : Heap} (ht : ts[0]? = some t) (e : adelete w0.heap.size P h t m k = some h') :
    ∃ w', (Builtin.delete_ ts ty #[m, k]).run P w = .ok undef w' ∧ Full w0 h' w' := by
  unfold adelete at e
  split at e
  · rename_i el s hmt
    obtain ⟨kt, hu, hkt⟩ := strMap_ok hmt
    cases e
    exact ⟨w, by simp [Builtin.delete_, ht, run_underlying hu, checkKey_str hkt, undef], hF⟩
  · rename_i el b s hmt
    obtain ⟨kt, hu, hkt⟩ := strMap_ok hmt
    split at e
    · rename_i es clock ha
      obtain ⟨hO, hg⟩ := get_map (P := P) hF ha
      split at e
      · rename_i hb
        split at e
        · rename_i hf
          cases e
          have hR := findNow_ok hf
          obtain ⟨w', h1, h2⟩ := setObj_ok (P := P) hF hb ha (by intro c e lo hi hq; cases hq) (o' := .map es clock)
          have h1' : (setObj b (.map es.toArray clock)).run P w = .ok () w' := h1
          exact ⟨w', by simp [Builtin.delete_, ht, run_underlying hu, hg, checkKey_str hkt, Instr.findKey, run_underlying hkt, hR, h1', undef], h2⟩
        · rename_i i u hf
          cases e
          have hR := findNow_ok hf
          obtain ⟨w', h1, h2⟩ := setObj_ok (P := P) hF hb ha (by intro c e lo hi hq; cases hq) (o' := .map (es.eraseIdx i) clock)
          refine ⟨w', ?_, h2⟩
          have h1' : (setObj b (.map (es.toArray.eraseIdxIfInBounds i) clock)).run P w = .ok () w' := by
            rw [← h1]; simp [AO.obj]
          simp only [Builtin.delete_, ht, run_underlying hu, hg, checkKey_str hkt, Instr.findKey, run_underlying hkt, hR, List.getElem?_toArray, List.getElem?_cons_zero, List.getElem?_cons_succ, Sem.run_bind, Result.andThen_ok, Sem.run_pure]
          rw [h1']
          rfl
        · cases e
      · cases e
    · cases e
  · cases e

theorem makeMap_ok (hF : Full w0 h w) : ∃ w', (newObj (.map #[] 0)).run P w = .ok h.n w' ∧ Full w0 (h.new (.map [] 0)) w' := by
  have h1 := hF.new (.map [] 0)
  exact ⟨_, by rw [← hF.size]; rfl, h1⟩

theorem range_ok (hF : Full w0 h w) {t : TypeId} {x v : Value} {h' : Heap} (e : arange P h t x = some (v, h')) :
    ∃ w', (Instr.range t x).run P w = .ok v w' ∧ Full w0 h' w' := by
  unfold arange at e
  split at e
  · rename_i s hu
    simp only [newBlk] at e
    cases e
    have h1 := hF.new (.siter s 0)
    refine ⟨_, ?_, h1⟩
    simp only [← hF.size]
    simp [Instr.range, run_underlying hu, AO.obj]
  · rename_i k el hu
    simp only [newBlk] at e
    cases e
    have h1 := hF.new (.miter none 0 [] 0)
    refine ⟨_, ?_, h1⟩
    simp only [← hF.size]
    simp [Instr.range, run_underlying hu, AO.obj]
  · rename_i k el m hu
    split at e
    · rename_i es clock ha
      simp only [newBlk] at e
      cases e
      obtain ⟨hO, hg⟩ := get_map (P := P) hF ha
      have h1 := hF.new (.miter (some m) clock [] clock)
      refine ⟨_, ?_, h1⟩
      simp only [← hF.size]
      simp [Instr.range, run_underlying hu, hg, AO.obj]
    · cases e
  · cases e

theorem next_ok (hF : Full w0 h w) {x : Value} {b : Bool} {ty : TypeId} :
    ∃ c, ∀ v h', anext w0.heap.size h x b c = some (v, h') → ∃ w', (Instr.next x b ty).run P w = .ok v w' ∧ Full w0 h' w' := by
  refine ⟨match x with
    | .pointer (some ⟨r, _, _⟩) => (match h.at r with
      | some (.miter (some m) _ seen _) => (match h.at m with
        | some (.map es _) => w.tape w.drawn (.mapNext (es.filter fun e => !seen.contains e.born).length)
        | _ => 0)
      | _ => 0)
    | _ => 0, fun v h' e => ?_⟩
  unfold anext at e
  split at e
  · rename_i r
    split at e
    · rename_i s pos ha
      have hO := hF.den r _ ha
      have hg : (getObj r).run P w = .ok (.stringIter s pos) w := by simp [getObj, Sem.run, hO, AO.obj]
      split at e
      · rename_i hb
        split at e
        · rename_i hp
          cases e
          obtain ⟨w', h1, h2⟩ := setObj_ok (P := P) hF hb ha (by intro c e lo hi hq; cases hq) (o' := .siter s (pos + (Utf8.decode s pos).2))
          refine ⟨w', ?_, h2⟩
          have h1' : (setObj r (.stringIter s (pos + (Utf8.decode s pos).2))).run P w = .ok () w' := h1
          simp [Instr.next, hg, hp, h1', goInt]
        · rename_i hp
          cases e
          exact ⟨w, by simp [Instr.next, hg, hp], hF⟩
      · cases e
    · rename_i s1 s2 s3 ha
      have hO := hF.den r _ ha
      have hg : (getObj r).run P w = .ok (.mapIter none s1 s2.toArray s3) w := by simp [getObj, Sem.run, hO, AO.obj]
      cases e
      exact ⟨w, by simp [Instr.next, hg], hF⟩
    · rename_i m since seen st ha
      have hO := hF.den r _ ha
      have hg : (getObj r).run P w = .ok (.mapIter (some m) since seen.toArray st) w := by simp [getObj, Sem.run, hO, AO.obj]
      split at e
      · rename_i es clock ham
        obtain ⟨hO2, hg2⟩ := get_map (P := P) hF ham
        simp only [ha, ham] at e
        split at e
        · rename_i hc
          obtain ⟨hb, hyoung, hst, hcl⟩ := hc
          subst hst
          have hleft : (es.toArray.filter fun e => !seen.toArray.contains e.born) = (es.filter fun e => !seen.contains e.born).toArray := by simp
          have hchk : (!seen.toArray.isEmpty && !es.toArray.isEmpty && es.toArray.all (fun e => decide (e.born ≥ st))) = false := by
            cases es with
            | nil => simp
            | cons E es =>
              have := hyoung E (by simp)
              have h1 : ¬ st ≤ E.born := by omega
              simp [h1]
          generalize hL : (es.filter fun e => !seen.contains e.born) = left at e hleft
          have hold : (left.toArray.filter fun e => decide (e.born < since)) = left.toArray := by
            have : ∀ x ∈ left, decide (x.born < since) = true := by
              intro x hx
              rw [← hL] at hx
              have := hyoung x ((List.mem_filter.1 hx).1)
              simpa using this
            rw [List.filter_toArray, List.filter_eq_self.2 this]
          have hnew : (left.toArray.filter fun e => decide (e.born ≥ since)) = #[] := by
            have : ∀ x ∈ left, ¬ decide (x.born ≥ since) = true := by
              intro x hx
              rw [← hL] at hx
              have := hyoung x ((List.mem_filter.1 hx).1)
              simp; omega
            rw [List.filter_toArray, List.filter_eq_nil_iff.2 this]
          unfold anextM at e
          cases left with
          | nil =>
            simp only at e
            cases e
            refine ⟨w, ?_, hF⟩
            have hcand : ((if (#[] : Array MapEntry).isEmpty = true then (#[none] : Array (Option MapEntry)) else #[]) ++ ((#[] : Array MapEntry) ++ #[]).map some) = #[none] := by simp
            have hch : (choose (.mapNext (#[none] : Array (Option MapEntry)).size)).run P w = .ok 0 w := by
              have h1 : (Question.mapNext 1).forced = true := rfl
              simp [choose, Sem.run, h1]
            simp only [Instr.next, Sem.run_bind, hg, Result.andThen_ok, hg2, hchk, Bool.false_eq_true, if_false, hleft, hold, hnew]
            rw [hcand, hch]
            rfl
          | cons A left =>
            simp only at e
            split at e
            · rename_i E hE
              cases e
              have hn : (A :: left).length = left.length + 1 := rfl
              obtain ⟨W, hW, hFW⟩ : ∃ W, (choose (.mapNext (left.length + 1))).run P w = .ok (w.tape w.drawn (.mapNext (left.length + 1)) % (left.length + 1)) W ∧ Full w0 h W := by
                cases left with
                | nil =>
                  refine ⟨w, ?_, hF⟩
                  have h1 : (Question.mapNext 1).forced = true := rfl
                  simp [choose, Sem.run, h1, Nat.mod_one]
                | cons A2 left =>
                  refine ⟨w.drew, ?_, hF.drew⟩
                  have h1 : (Question.mapNext (left.length + 1 + 1)).forced = false := by simp [Question.forced]
                  simp [choose, Sem.run, h1, Question.cut, World.drew, -World.drew_eq]
              obtain ⟨w', h1, h2⟩ := setObj_ok (P := P) hFW hb ha (by intro c e lo hi hq; cases hq) (o' := .miter (some m) since (seen ++ [E.born]) st)
              refine ⟨w', ?_, h2⟩
              have h1' : (setObj r (.mapIter (some m) since (seen.toArray.push E.born) st)).run P W = .ok () w' := by
                rw [← h1]; simp [AO.obj]
              have hcand : ((if (A :: left).toArray.isEmpty = true then (#[none] : Array (Option MapEntry)) else #[]) ++ ((A :: left).toArray ++ #[]).map some) = ((A :: left).map some).toArray := by simp
              have hE' : ((A :: left).map some).toArray[w.tape w.drawn (.mapNext (left.length + 1)) % (left.length + 1)]? = some (some E) := by
                rw [hn] at hE
                simp only [List.getElem?_toArray, List.getElem?_map, hE, Option.map_some]
              have hsz : ((A :: left).map some).toArray.size = left.length + 1 := by simp
              simp only [Instr.next, Sem.run_bind, hg, Result.andThen_ok, hg2, hchk, Bool.false_eq_true, if_false, hleft, hold, hnew]
              rw [hcand, hsz, hW]
              simp only [Result.andThen_ok]
              rw [hE']
              simp only [Sem.run_bind, h1', Result.andThen_ok, Sem.run_pure]
            · cases e
        · cases e
      · cases e
    · cases e
  · cases e
end
end Go.Proofs.YtbjaapiliegegaaGreatDoor.Sy
