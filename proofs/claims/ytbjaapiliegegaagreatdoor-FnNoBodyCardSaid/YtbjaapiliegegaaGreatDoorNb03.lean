/- Of the proof of FnNoBody: Sa5 Sa6. -/
import Derived.Test.YtbjaapiliegegaaGreatDoorNb02
import Derived.OrdersHeld
import Derived.LoopN
set_option linter.unusedVariables false
set_option linter.unusedSimpArgs false
section
namespace Go.Proofs.YtbjaapiliegegaaGreatDoor.Sy
open Go Go.RowKit
section
variable {w0 : World} {h : Heap} {w : World} {P : Program}
theorem bytesOf_ok : ∀ {cs : List Value} {r : List UInt8} (acc : ByteArray), bytesOf cs = some r →
  ∃ ns : List Int, cs = ns.map (Value.int .u8) ∧ ns.foldl (fun r n => r.push (UInt8.ofNat n.toNat)) acc = ⟨acc.data ++ r.toArray⟩ := by
 intro cs
 induction cs with
 | nil =>
  intro r acc e
  simp only [bytesOf] at e
  cases e
  exact ⟨[], rfl, by simp⟩
 | cons c cs ih =>
  intro r acc e
  unfold bytesOf at e
  split at e
  ·rename_i hh; cases hh
  ·rename_i n l hh
   cases hh
   split at e
   ·rename_i q hq
    cases e
    obtain ⟨ns, rfl, hf⟩ := ih (acc.push (UInt8.ofNat n.toNat)) hq
    refine ⟨n :: ns, rfl, ?_⟩
    simp only [List.foldl_cons]
    rw [hf]
    simp [ByteArray.push]
   ·cases e
  ·cases e
theorem bytesOf_vals : ∀ l : List UInt8, bytesOf (byteVals l) = some l
 | [] => rfl
 | b :: l => by
  have ih := bytesOf_vals l
  unfold byteVals at ih
  simp [byteVals, bytesOf, ih]
theorem conv_ok (hF : Full w0 h w) {s d : TypeId} {x : Value} :
  ∃ c, ∀ v h', aconv w0.heap.size P h s d x c = some (v, h') → ∃ w', (convert s d x).run P w = .ok v w' ∧ Full w0 h' w' := by
 refine ⟨match P.underlying d, x with
  | some (.slice e), .string a => w.tape w.drawn (.appendCap (bytes a).length 0 e)
  | _, _ => 0, fun v h' e => ?_⟩
 unfold aconv at e
 split at e
 ·rename_i ds k k2 n hs hd
  cases e
  refine ⟨w, ?_, hF⟩
  cases ds <;> simp [convert, run_underlying hs, run_underlying hd, Conv.intToInt]
 ·rename_i ds a hs hd
  cases e
  refine ⟨w, ?_, hF⟩
  cases ds <;> simp [convert, run_underlying hs, run_underlying hd]
 ·rename_i el a hs hd
  simp only [hd] at e
  split at e
  ·rename_i hu8
   split at e
   ·rename_i hl
    cases e
    have hcap : grownCap w a.size 0 el = room (bytes a).length (w.tape w.drawn (.appendCap (bytes a).length 0 el)) := by
     rw [bytes_size]; rfl
    generalize hrm : room (bytes a).length (w.tape w.drawn (.appendCap (bytes a).length 0 el)) = rm at hcap
    have hge : (bytes a).length ≤ rm := by rw [← hrm]; exact room_ge _ _
    have hcells : Lib.bytesCells w el a = (byteVals (bytes a) ++ List.replicate (rm - (bytes a).length) (Value.int .u8 0)).toArray := by
     apply Array.toList_inj.1
     unfold Lib.bytesCells
     rw [hcap, bytes_size]
     simp [byteVals, bytes]
    have hnew := Lib.bytesWorld_at_new w el a
    have hsz : (Lib.bytesCells w el a).size = rm := by rw [hcells]; simp [byteVals]; omega
    have hg := hF.grow (w' := Lib.bytesWorld w el a) (o := .cells (byteVals (bytes a) ++ List.replicate (rm - (bytes a).length) (.int .u8 0)) el rm (rm + 1)) (Lib.bytesWorld_size w el _)
     (by rw [hnew, hsz, hcells]; rfl) (fun j hj => Lib.bytesWorld_at_old w el _ j hj) rfl rfl rfl
    refine ⟨_, ?_, hg⟩
    rw [Lib.run_convert_string_bytes w s d el a hs hd hu8, hcap, hF.size, bytes_size]
   ·cases e
  ·cases e
 ·rename_i e1 el b o n cp hs hd
  split at e
  ·rename_i cs el2 lo hi hu8 hat
   split at e
   ·rename_i hc
    obtain ⟨hb, rfl⟩ := hc
    cases e
    have hO := hF.row hat
    have hel : el = e1 := by rw [hs] at hd; cases hd; rfl
    subst hel
    have hsh : w.shape? b = some (el2, cs.length) := by simp [World.shape?, hO]
    refine ⟨w.freeze ⟨b, cs.length, none⟩ 1, ?_, ?_⟩
    ·simp [convert, run_underlying hs, run_underlying hu8, markStringish, hsh]
    ·refine hF.turn hb ?_ ?_ ?_ rfl rfl rfl
     ·simp only [World.freeze]
      rw [if_neg (by decide), Array.getElem?_modify, if_pos rfl, hO]
      simp only [Option.map_some, AO.obj]
      by_cases h1 : lo = hi <;> simp [h1]
     ·simp [World.freeze]
     ·intro k hk
      simp only [World.freeze]
      rw [if_neg (by decide), Array.getElem?_modify, if_neg (Ne.symm hk)]
   ·cases e
  ·cases e
 ·rename_i el a n c hs hd
  split at e
  ·rename_i hu8
   unfold strOf at e
   split at e
   ·rename_i r hr
    cases e
    unfold strLoad at hr
    split at hr
    ·cases hr
     refine ⟨w, ?_, hF⟩
     simp [convert, run_underlying hs, run_underlying hd, run_underlying hu8, Conv.bytesToString]
     rfl
    ·rename_i b o
     split at hr
     ·rename_i cs hcs
      refine ⟨w, ?_, hF⟩
      obtain ⟨ns, hns, hf⟩ := bytesOf_ok ByteArray.empty hr
      rw [run_convert_bytes_string w s d el _ _ _ hs hu8 hd]
      have hl := load_run (P := P) hF hcs
      rw [hns] at hl
      rw [run_bytesToString w _ n c ns hl, hf]
      congr 3
      simp
     ·cases hr
    ·cases hr
   ·split at e
    ·rename_i hn
     cases e
     subst hn
     refine ⟨w, ?_, hF⟩
     rw [run_convert_bytes_string w s d el _ 0 c hs hu8 hd]
     cases a <;> simp [Conv.bytesToString, loadCells]
     all_goals rfl
    ·cases e
  ·cases e
 ·cases e
theorem strMap_ok {t e : TypeId} (h : strMap P t = some e) : ∃ k, P.underlying t = some (.map k e) ∧ P.underlying k = some .string := by
 unfold strMap at h
 split at h
 ·rename_i k el hu
  split at h
  ·rename_i hk; cases h; exact ⟨k, hu, hk⟩
  ·cases h
 ·cases h
theorem checkKey_str {k : TypeId} (hk : P.underlying k = some .string) (b : Bool) (s : ByteArray) (w : World) : (Instr.checkKey b 10000 k (.string s)).run P w = .ok () w := by
 have : ∀ n, (Instr.checkKey b (n + 1) k (.string s)).run P w = .ok () w := fun n => by simp [Instr.checkKey, run_underlying hk]
 exact this 9999
theorem findNow_ok {s : ByteArray} : ∀ {es : List MapEntry} {i : Nat} {r : Option (Nat × Value)}, findStr (bytes s) es i = some r →
  Instr.findNow .string (.string s) es i = some r
 | [], i, r, e => by
  simp only [findStr] at e
  cases e
  rfl
 | E :: es, i, r, e => by
  simp only [findStr] at e
  split at e
  ·rename_i hk
   cases e
   unfold keyIs at hk
   split at hk
   ·rename_i q hq
    have hb : (s == q) = true := by rw [bytes_beq]; simpa using hk
    simp only [Instr.findNow, hq, Instr.sameNow, hb]
   ·cases hk
  ·rename_i hk
   have ih := findNow_ok e
   unfold keyIs at hk
   split at hk
   ·rename_i q hq
    have hb : (s == q) = false := by rw [bytes_beq]; simpa using hk
    simp only [Instr.findNow, hq, Instr.sameNow, hb]
    exact ih
   ·cases hk
  ·cases e
theorem findStr_key : ∀ {es : List MapEntry} {k : List UInt8} {i j : Nat} {v : Value}, findStr k es i = some (some (j, v)) →
  i ≤ j ∧ ∃ E, es[j - i]? = some E ∧ ∃ q, E.key = .string q ∧ bytes q = k
 | [], k, i, j, v, e => by simp [findStr] at e
 | E :: es, k, i, j, v, e => by
  simp only [findStr] at e
  split at e
  ·rename_i hk
   cases e
   unfold keyIs at hk
   split at hk
   ·rename_i q hq
    exact ⟨Nat.le_refl _, E, by simp, q, hq, Eq.symm (by simpa using hk)⟩
   ·cases hk
  ·obtain ⟨h1, E', h2, h3⟩ := findStr_key e
   refine ⟨by omega, E', ?_, h3⟩
   rw [show j - i = (j - (i + 1)) + 1 by omega]
   simpa using h2
  ·cases e
theorem lookup_ok (hF : Full w0 h w) {t : TypeId} {x ix v : Value} {ok : Bool} (e : alookup P h t x ix ok = some v) :
  (Instr.lookup t x ix ok).run P w = .ok v w := by
 unfold alookup at e
 split at e
 ·rename_i el r s hm
  obtain ⟨k, hu, hk⟩ := strMap_ok hm
  split at e
  ·cases e
  ·rename_i es he
   split at e
   ·cases e
   ·rename_i i u hf
    cases e
    have h1 := findNow_ok hf
    rcases entries_ok (P := P) hF he with ⟨rfl, rfl⟩ | ⟨b, clock, rfl, hg⟩
    ·simp [findStr] at hf
    ·cases ok <;> simp [Instr.lookup, run_underlying hu, checkKey_str hk, Instr.findKey, run_underlying hk, h1, hg]
   ·rename_i hf
    have h1 := findNow_ok hf
    split at e
    ·rename_i z hz
     cases e
     rcases entries_ok (P := P) hF he with ⟨rfl, rfl⟩ | ⟨b, clock, rfl, hg⟩
     ·cases ok <;> simp [Instr.lookup, run_underlying hu, checkKey_str hk, Instr.findKey, run_underlying hk, h1, zero_run hz]
     ·cases ok <;> simp [Instr.lookup, run_underlying hu, checkKey_str hk, Instr.findKey, run_underlying hk, h1, zero_run hz, hg]
    ·cases e
 ·cases e
theorem update_ok (hF : Full w0 h w) {t : TypeId} {m k v : Value} {h' : Heap} (e : aupdate w0.heap.size P h t m k v = some h') :
  ∃ w', (Instr.mapUpdate t m k v).run P w = .ok () w' ∧ Full w0 h' w' := by
 unfold aupdate at e
 split at e
 ·rename_i el b s hmt
  obtain ⟨kt, hu, hkt⟩ := strMap_ok hmt
  split at e
  ·rename_i es clock ha
   obtain ⟨hO, hg⟩ := get_map (P := P) hF ha
   split at e
   ·rename_i hb
    split at e
    ·rename_i hf
     cases e
     have hR := findNow_ok hf
     obtain ⟨w', h1, h2⟩ := setObj_ok (P := P) hF hb ha (by intro c e lo hi hq; cases hq) (o' := .map (es ++ [⟨.string s, v, clock⟩]) (clock + 1))
     refine ⟨w', ?_, h2⟩
     have h1' : (setObj b (.map (es.toArray.push ⟨.string s, v, clock⟩) (clock + 1))).run P w = .ok () w' := by
      rw [← h1]; simp [AO.obj]
     simp [Instr.mapUpdate, run_underlying hu, hg, checkKey_str hkt, Instr.findKey, run_underlying hkt, hR]
     simpa using h1'
    ·rename_i i u hf
     cases e
     have hR := findNow_ok hf
     obtain ⟨_, E, hE, q, hq, hqs⟩ := findStr_key hf
     have hqs' : q = s := by rw [← mk_bytes q, ← mk_bytes s, hqs]
     subst hqs'
     obtain ⟨w', h1, h2⟩ := setObj_ok (P := P) hF hb ha (by intro c e lo hi hq; cases hq) (o' := .map (es.modify i fun e => { e with key := .string q, val := v }) clock)
     refine ⟨w', ?_, h2⟩
     have hkey : (Instr.keyThatStays (.string q) (.string q)).run P w = .ok (.string q) w := by
      have hsb : Instr.sameBits 10000 (.string q) (.string q) = true := by
       show (q == q) = true
       rw [bytes_beq]; simp
      simp [Instr.keyThatStays, hsb]
     have hEi : es[i]? = some E := by simpa using hE
     have h1' : (setObj b (.map (es.toArray.modify i fun e => { e with key := .string q, val := v }) clock)).run P w = .ok () w' := by
      rw [← h1]; simp [AO.obj]
     simp [Instr.mapUpdate, run_underlying hu, hg, checkKey_str hkt, Instr.findKey, run_underlying hkt, hR, hEi, hq, hkey]
     simpa using h1'
    ·cases e
   ·cases e
  ·cases e
 ·cases e
theorem delete_ok (hF : Full w0 h w) {ts : Array TypeId} {t ty : TypeId} {m k : Value} {h' : Heap} (ht : ts[0]? = some t) (e : adelete w0.heap.size P h t m k = some h') :
  ∃ w', (Builtin.delete_ ts ty #[m, k]).run P w = .ok undef w' ∧ Full w0 h' w' := by
 unfold adelete at e
 split at e
 ·rename_i el s hmt
  obtain ⟨kt, hu, hkt⟩ := strMap_ok hmt
  cases e
  exact ⟨w, by simp [Builtin.delete_, ht, run_underlying hu, checkKey_str hkt, undef], hF⟩
 ·rename_i el b s hmt
  obtain ⟨kt, hu, hkt⟩ := strMap_ok hmt
  split at e
  ·rename_i es clock ha
   obtain ⟨hO, hg⟩ := get_map (P := P) hF ha
   split at e
   ·rename_i hb
    split at e
    ·rename_i hf
     cases e
     have hR := findNow_ok hf
     obtain ⟨w', h1, h2⟩ := setObj_ok (P := P) hF hb ha (by intro c e lo hi hq; cases hq) (o' := .map es clock)
     have h1' : (setObj b (.map es.toArray clock)).run P w = .ok () w' := h1
     exact ⟨w', by simp [Builtin.delete_, ht, run_underlying hu, hg, checkKey_str hkt, Instr.findKey, run_underlying hkt, hR, h1', undef], h2⟩
    ·rename_i i u hf
     cases e
     have hR := findNow_ok hf
     obtain ⟨w', h1, h2⟩ := setObj_ok (P := P) hF hb ha (by intro c e lo hi hq; cases hq) (o' := .map (es.eraseIdx i) clock)
     refine ⟨w', ?_, h2⟩
     have h1' : (setObj b (.map (es.toArray.eraseIdxIfInBounds i) clock)).run P w = .ok () w' := by
      rw [← h1]; simp [AO.obj]
     simp only [Builtin.delete_, ht, run_underlying hu, hg, checkKey_str hkt, Instr.findKey, run_underlying hkt, hR, List.getElem?_toArray, List.getElem?_cons_zero, List.getElem?_cons_succ, Sem.run_bind, Result.andThen_ok, Sem.run_pure]
     rw [h1']
     rfl
    ·cases e
   ·cases e
  ·cases e
 ·cases e
theorem range_ok (hF : Full w0 h w) {t : TypeId} {x v : Value} {h' : Heap} (e : arange P h t x = some (v, h')) :
  ∃ w', (Instr.range t x).run P w = .ok v w' ∧ Full w0 h' w' := by
 unfold arange at e
 split at e
 ·rename_i s hu
  simp only [newBlk] at e
  cases e
  have h1 := hF.new (.siter s 0)
  refine ⟨_, ?_, h1⟩
  simp only [← hF.size]
  simp [Instr.range, run_underlying hu, AO.obj]
 ·rename_i k el hu
  simp only [newBlk] at e
  cases e
  have h1 := hF.new (.miter none 0 [] 0)
  refine ⟨_, ?_, h1⟩
  simp only [← hF.size]
  simp [Instr.range, run_underlying hu, AO.obj]
 ·rename_i k el m hu
  split at e
  ·rename_i es clock ha
   simp only [newBlk] at e
   cases e
   obtain ⟨hO, hg⟩ := get_map (P := P) hF ha
   have h1 := hF.new (.miter (some m) clock [] clock)
   refine ⟨_, ?_, h1⟩
   simp only [← hF.size]
   simp [Instr.range, run_underlying hu, hg, AO.obj]
  ·cases e
 ·cases e
theorem next_ok (hF : Full w0 h w) {x : Value} {b : Bool} {ty : TypeId} :
  ∃ c, ∀ v h', anext w0.heap.size h x b c = some (v, h') → ∃ w', (Instr.next x b ty).run P w = .ok v w' ∧ Full w0 h' w' := by
 refine ⟨match x with
  | .pointer (some ⟨r, _, _⟩) => (match h.at r with
   | some (.miter (some m) _ seen _) => (match h.at m with
    | some (.map es _) => w.tape w.drawn (.mapNext (es.filter fun e => !seen.contains e.born).length)
    | _ => 0)
   | _ => 0)
  | _ => 0, fun v h' e => ?_⟩
 unfold anext at e
 split at e
 ·rename_i r
  split at e
  ·rename_i s pos ha
   have hO := hF.den r _ ha
   have hg : (getObj r).run P w = .ok (.stringIter s pos) w := by simp [getObj, Sem.run, hO, AO.obj]
   split at e
   ·rename_i hb
    split at e
    ·rename_i hp
     cases e
     obtain ⟨w', h1, h2⟩ := setObj_ok (P := P) hF hb ha (by intro c e lo hi hq; cases hq) (o' := .siter s (pos + (Utf8.decode s pos).2))
     refine ⟨w', ?_, h2⟩
     have h1' : (setObj r (.stringIter s (pos + (Utf8.decode s pos).2))).run P w = .ok () w' := h1
     simp [Instr.next, hg, hp, h1', goInt]
    ·rename_i hp
     cases e
     exact ⟨w, by simp [Instr.next, hg, hp], hF⟩
   ·cases e
  ·rename_i s1 s2 s3 ha
   have hO := hF.den r _ ha
   have hg : (getObj r).run P w = .ok (.mapIter none s1 s2.toArray s3) w := by simp [getObj, Sem.run, hO, AO.obj]
   cases e
   exact ⟨w, by simp [Instr.next, hg], hF⟩
  ·rename_i m since seen st ha
   have hO := hF.den r _ ha
   have hg : (getObj r).run P w = .ok (.mapIter (some m) since seen.toArray st) w := by simp [getObj, Sem.run, hO, AO.obj]
   split at e
   ·rename_i es clock ham
    obtain ⟨hO2, hg2⟩ := get_map (P := P) hF ham
    simp only [ha, ham] at e
    split at e
    ·rename_i hc
     obtain ⟨hb, hyoung, hst, hcl⟩ := hc
     subst hst
     have hleft : (es.toArray.filter fun e => !seen.toArray.contains e.born) = (es.filter fun e => !seen.contains e.born).toArray := by simp
     have hchk : (!seen.toArray.isEmpty && !es.toArray.isEmpty && es.toArray.all (fun e => decide (e.born ≥ st))) = false := by
      cases es with
      | nil => simp
      | cons E es =>
       have := hyoung E (by simp)
       have h1 : ¬ st ≤ E.born := by omega
       simp [h1]
     generalize hL : (es.filter fun e => !seen.contains e.born) = left at e hleft
     have hold : (left.toArray.filter fun e => decide (e.born < since)) = left.toArray := by
      have : ∀ x ∈ left, decide (x.born < since) = true := by
       intro x hx
       rw [← hL] at hx
       have := hyoung x ((List.mem_filter.1 hx).1)
       simpa using this
      rw [List.filter_toArray, List.filter_eq_self.2 this]
     have hnew : (left.toArray.filter fun e => decide (e.born ≥ since)) = #[] := by
      have : ∀ x ∈ left, ¬ decide (x.born ≥ since) = true := by
       intro x hx
       rw [← hL] at hx
       have := hyoung x ((List.mem_filter.1 hx).1)
       simp; omega
      rw [List.filter_toArray, List.filter_eq_nil_iff.2 this]
     unfold anextM at e
     cases left with
     | nil =>
      simp only at e
      cases e
      refine ⟨w, ?_, hF⟩
      have hcand : ((if (#[] : Array MapEntry).isEmpty = true then (#[none] : Array (Option MapEntry)) else #[]) ++ ((#[] : Array MapEntry) ++ #[]).map some) = #[none] := by simp
      have hch : (choose (.mapNext (#[none] : Array (Option MapEntry)).size)).run P w = .ok 0 w := by
       have h1 : (Question.mapNext 1).forced = true := rfl
       simp [choose, Sem.run, h1]
      simp only [Instr.next, Sem.run_bind, hg, Result.andThen_ok, hg2, hchk, Bool.false_eq_true, if_false, hleft, hold, hnew]
      rw [hcand, hch]
      rfl
     | cons A left =>
      simp only at e
      split at e
      ·rename_i E hE
       cases e
       have hn : (A :: left).length = left.length + 1 := rfl
       obtain ⟨W, hW, hFW⟩ : ∃ W, (choose (.mapNext (left.length + 1))).run P w = .ok (w.tape w.drawn (.mapNext (left.length + 1)) % (left.length + 1)) W ∧ Full w0 h W := by
        cases left with
        | nil =>
         refine ⟨w, ?_, hF⟩
         have h1 : (Question.mapNext 1).forced = true := rfl
         simp [choose, Sem.run, h1, Nat.mod_one]
        | cons A2 left =>
         refine ⟨w.drew, ?_, hF.drew⟩
         have h1 : (Question.mapNext (left.length + 1 + 1)).forced = false := by simp [Question.forced]
         simp [choose, Sem.run, h1, Question.cut, World.drew, -World.drew_eq]
       obtain ⟨w', h1, h2⟩ := setObj_ok (P := P) hFW hb ha (by intro c e lo hi hq; cases hq) (o' := .miter (some m) since (seen ++ [E.born]) st)
       refine ⟨w', ?_, h2⟩
       have h1' : (setObj r (.mapIter (some m) since (seen.toArray.push E.born) st)).run P W = .ok () w' := by
        rw [← h1]; simp [AO.obj]
       have hcand : ((if (A :: left).toArray.isEmpty = true then (#[none] : Array (Option MapEntry)) else #[]) ++ ((A :: left).toArray ++ #[]).map some) = ((A :: left).map some).toArray := by simp
       have hE' : ((A :: left).map some).toArray[w.tape w.drawn (.mapNext (left.length + 1)) % (left.length + 1)]? = some (some E) := by
        rw [hn] at hE
        simp only [List.getElem?_toArray, List.getElem?_map, hE, Option.map_some]
       have hsz : ((A :: left).map some).toArray.size = left.length + 1 := by simp
       simp only [Instr.next, Sem.run_bind, hg, Result.andThen_ok, hg2, hchk, Bool.false_eq_true, if_false, hleft, hold, hnew]
       rw [hcand, hsz, hW]
       simp only [Result.andThen_ok]
       rw [hE']
       simp only [Sem.run_bind, h1', Result.andThen_ok, Sem.run_pure]
      ·cases e
    ·cases e
   ·cases e
  ·cases e
 ·cases e
theorem entry_ok (hF : Full w0 h w) {x v : Value} (e : aentry h x = some v) : (Instr.entry x).run P w = .ok v w := by
 unfold aentry at e
 split at e
 ·rename_i r
  split at e
  ·rename_i m since seen st ha
   have hO := hF.den r _ ha
   have hg : (getObj r).run P w = .ok (.mapIter (some m) since seen.toArray st) w := by simp [getObj, Sem.run, hO, AO.obj]
   split at e
   ·rename_i stamp es clock hs hm
    obtain ⟨hO2, hg2⟩ := get_map (P := P) hF hm
    split at e
    ·rename_i hc
     split at e
     ·rename_i E hE
      cases e
      simp [Instr.entry, hg, hg2, hc, hs, hE]
     ·cases e
    ·cases e
   ·cases e
  ·cases e
 ·cases e
end
end Go.Proofs.YtbjaapiliegegaaGreatDoor.Sy
end
section
namespace Go.Proofs.YtbjaapiliegegaaGreatDoor.Sy
open Go Go.RowKit
theorem got_some {α : Type} {x : Option α} {K : α → Prop} (h : got x K) : ∃ a, x = some a ∧ K a := by
 unfold got at h
 split at h
 ·exact ⟨_, rfl, h⟩
 ·cases h
section
variable {w0 : World} {h : Heap} {w : World} {P : Program}
theorem tget_put (tm : Tm) (d : Option Tmp) (v : Value) (t : Nat) : tget (put tm d v) t = if d = some t then v else tget tm t := by
 cases d with
 | none => simp [put]
 | some k => simp [put, tget]
structure RF (nt : Nat) (tm : Tm) (T : Array Value) : Prop where
 size : T.size = nt
 at_ : ∀ t, t < nt → T.getD t undef = tget tm t
 out : ∀ t, nt ≤ t → tget tm t = undef
theorem RF.get {nt : Nat} {tm : Tm} {T : Array Value} (hF : RF nt tm T) (t : Nat) : T.getD t undef = tget tm t := by
 by_cases ht : t < nt
 ·exact hF.at_ t ht
 ·rw [hF.out t (by omega)]
  have := hF.size
  rw [Array.getD_eq_getD_getElem?, Array.getElem?_eq_none (by omega)]
  rfl
theorem RF.eval {nt : Nat} {tm : Tm} {T : Array Value} {ds : List Deferred} (hF : RF nt tm T) (x : Operand) : (⟨T, ds⟩ : Act).eval x = eval tm x := by
 cases x with
 | tmp t => exact hF.get t
 | const v => rfl
 | global g => rfl
 | func f => rfl
def fits (nt : Nat) (d : Option Tmp) : Bool :=
 match d with
 | some t => decide (t < nt)
 | none => true
theorem RF.put {nt : Nat} {tm : Tm} {T : Array Value} {ds : List Deferred} (hF : RF nt tm T) {d : Option Tmp} {v : Value} (hf : fits nt d = true) :
  RF nt (Sy.put tm d v) (((⟨T, ds⟩ : Act).put d v).tmps) := by
 cases d with
 | none => exact hF
 | some k =>
  have hk : k < nt := by simpa [fits] using hf
  have hs := hF.size
  refine ⟨by simp [Act.put, hs], fun t ht => ?_, fun t ht => ?_⟩
  ·rw [tget_put]
   by_cases e : k = t
   ·subst e
    simp [Act.put, hs, hk]
   ·rw [if_neg (by simpa using e)]
    simp only [Act.put]
    have := hF.at_ t ht
    rw [Array.getD_eq_getD_getElem?] at this ⊢
    rw [Array.getElem?_setIfInBounds_ne e]
    exact this
  ·rw [tget_put, if_neg (fun e => by cases e; exact absurd hk (Nat.not_lt.2 ht))]
   exact hF.out t ht
def Ends (w0 w : World) (r : Result Next) : Out → Prop
 | .val v h' => ∃ w', (r = .ok (.value v) w' ∨ (r = .ok .skip w' ∧ v = undef)) ∧ Full w0 h' w'
 | .call f args => r = .ok (.enter f args.toArray) w
 | .defer fn c args => r = .ok (.defer { target := .fn fn c.toArray, args := args.toArray }) w
def NoCount (P : Program) : Prop := ∀ (f : Nat) (F : Func), P.funcs[f]? = some F → (F.name == "runtime.NumGoroutine") = false
theorem callFunc_ok {f : FuncId} {args : List Value} {out : Out} (hng : NoCount P) (e : ofCall P f args = some out) :
  (callFunc f args.toArray).run P w = .ok (.enter f args.toArray) w ∧ out = .call f args := by
 unfold ofCall at e
 split at e
 ·rename_i F hF
  split at e
  ·rename_i c hb
   cases e
   refine ⟨?_, rfl⟩
   have h1 : F.name ≠ "runtime.NumGoroutine" := by simpa using hng f F hF
   have h2 : F.body ≠ none := by rw [hb]; simp
   simp [callFunc, hF, h1, h2]
  ·cases e
 ·cases e
theorem v1_out {x : Option Value} {out : Out} (e : v1 h x = some out) : ∃ v, out = .val v h ∧ x = some v := by
 unfold v1 at e
 split at e
 ·cases e; exact ⟨_, rfl, rfl⟩
 ·cases e
theorem v2_out {x : Option (Value × Heap)} {out : Out} (e : v2 x = some out) : ∃ v h', out = .val v h' ∧ x = some (v, h') := by
 unfold v2 at e
 split at e
 ·cases e; exact ⟨_, _, rfl, rfl⟩
 ·cases e
theorem v3_out {x : Option Heap} {out : Out} (e : v3 x = some out) : ∃ h', out = .val undef h' ∧ x = some h' := by
 unfold v3 at e
 split at e
 ·cases e; exact ⟨_, rfl, rfl⟩
 ·cases e
theorem sem_val {s : Sem Value} {w w' : World} {V : Value} (h : s.run P w = .ok V w') : (do pure (Next.value (← s)) : Sem Next).run P w = .ok (.value V) w' := by
 simp [h]
theorem sem_skip {s : Sem Unit} {w' : World} (h : s.run P w = .ok () w') : (do s; pure Next.skip : Sem Next).run P w = .ok .skip w' := by
 simp [h]
theorem opt_map {nt : Nat} {tm : Tm} {T : Array Value} {ds : List Deferred} (hF : RF nt tm T) (x : Option Operand) : x.map (⟨T, ds⟩ : Act).eval = opt tm x := by
 cases x with
 | none => rfl
 | some x => simp [opt, hF.eval]
theorem arr2 {A : Array Value} {x y : Value} (h : A.toList = [x, y]) : A = #[x, y] := Array.toList_inj.1 h
theorem builtin_ok (hF : Full w0 h w) {b : Builtin} {ts : Array TypeId} {ty : TypeId} {cs : Array Bool} {args : List Value} {out : Out} {c : Nat}
  (hb : b ≠ .append) (e : abuiltin w0.heap.size P h b ts args c = some out) : Ends w0 w ((builtin b ts ty cs args.toArray).run P w) out := by
 unfold abuiltin at e
 split at e
 ·split at e
  ·rename_i t ht
   obtain ⟨v, rfl, h1⟩ := v1_out e
   have h2 := len_ok (ty := ty) hF ht h1
   exact ⟨w, .inl (by simp [builtin, h2]), hF⟩
  ·cases e
 ·split at e
  ·rename_i t c0 ht hc
   split at e
   ·rename_i el hu
    cases e
    unfold capOf at hc
    split at hc
    ·cases hc
     refine ⟨w, .inl ?_, hF⟩
     simp [builtin, Builtin.cap_, ht, run_underlying hu, goInt]
    ·cases hc
   ·cases e
  ·cases e
 ·exact (hb rfl).elim
 ·split at e
  ·rename_i t ht
   obtain ⟨v, h', rfl, h1⟩ := v2_out e
   obtain ⟨w', h2, h3⟩ := copy_ok (ty := ty) hF ht h1
   exact ⟨w', .inl (by simp [builtin, h2]), h3⟩
  ·cases e
 ·split at e
  ·rename_i t ht
   obtain ⟨h', rfl, h1⟩ := v3_out e
   obtain ⟨w', h2, h4⟩ := delete_ok (ty := ty) hF ht h1
   exact ⟨w', .inl (by simp [builtin, h2]), h4⟩
  ·cases e
 ·obtain ⟨v, rfl, h1⟩ := v1_out e
  have h2 := max_ok (P := P) (w := w) (ts := ts) (ty := ty) h1
  exact ⟨w, .inl (by simp [builtin, h2]), hF⟩
 ·cases e
theorem arr_head (R : Value) (X : Array Value) : (#[R] ++ X)[0]? = some R := by simp [Array.getElem?_append]
theorem arr_tail (R : Value) (X : Array Value) : (#[R] ++ X).extract 1 (#[R] ++ X).size = X := by
 apply Array.toList_inj.1
 simp
theorem invoke_ok {t : TypeId} {V : Value} {m : String} {X C : Array Value} {g : FuncId} (h1 : (method (P.types.size + 99 + 1) t V m).run P w = .ok (g, V) w) :
  (invoke (.fn (.method m) C) (#[.iface t V] ++ X)).run P w = (callFunc g (#[V] ++ X)).run P w := by
 have e : invoke (.fn (.method m) C) (#[.iface t V] ++ X) = callMethod (.iface t V) m X := by
  simp only [invoke, arr_head, arr_tail]
 rw [e]
 show ((do let (f, receiver) ← method ((← program).types.size + Made.depth) t V m; callFunc f (#[receiver] ++ X)) : Sem Next).run P w = _
 simp only [Sem.run_bind]
 have hp : (program : Sem Program).run P w = .ok P w := rfl
 rw [hp]
 simp only [Result.andThen_ok, Made.depth]
 rw [h1]
 rfl
theorem map_args {nt : Nat} {tm : Tm} {T : Array Value} {ds : List Deferred} (hR : RF nt tm T) (xs : Array Operand) : xs.map (⟨T, ds⟩ : Act).eval = (xs.toList.map (eval tm)).toArray := by
 apply Array.toList_inj.1
 simp only [Array.toList_map]
 exact List.map_congr_left fun x _ => hR.eval x
theorem call_ok (hng : NoCount P) (hF : Full w0 h w) {nt : Nat} {tm : Tm} {T : Array Value} {ds : List Deferred} (hR : RF nt tm T) {o : Oper} {q : Call} {out : Out} {c : Nat}
  (hop : o.op = .call q) (hq : q.callee ≠ .builtin .append) (e : acall w0.heap.size P tm h q c = some out) : Ends w0 w ((execOp (⟨T, ds⟩ : Act).eval o).run P w) out := by
 obtain ⟨callee, cargs, ats⟩ := q
 unfold acall at e
 have hargs := map_args (ds := ds) hR cargs
 cases callee with
 | builtin b =>
  simp only [execOp, hop, resolve, Sem.run_bind, Sem.run_pure, Result.andThen_ok, invoke, hargs]
  exact builtin_ok hF (by rintro rfl; exact hq rfl) e
 | invoke r m =>
  simp only at e
  split at e
  ·rename_i t v hr
   split at e
   ·rename_i g hm
    have h1 := amethod_run (P := P) (V := v) hm (P.types.size + 99) w
    obtain ⟨h2, rfl⟩ := callFunc_ok (w := w) hng e
    have hrv : (⟨T, ds⟩ : Act).eval r = .iface t v := by rw [hR.eval, hr]
    show _ = _
    simp only [execOp, hop, resolve, hrv]
    simp only [Sem.run_bind, Sem.run_pure, Result.andThen_ok]
    rw [invoke_ok h1, hargs, ← h2]
    congr 2
    apply Array.toList_inj.1
    simp
   ·cases e
  ·cases e
 | value f =>
  simp only at e
  split at e
  ·rename_i g first captured hf
   obtain ⟨h2, rfl⟩ := callFunc_ok (w := w) hng e
   have hfv : (⟨T, ds⟩ : Act).eval f = .func (.func g) first captured := by rw [hR.eval, hf]
   show _ = _
   simp only [execOp, hop, resolve, hfv, Deferred.ofValue]
   simp only [Sem.run_bind, Sem.run_pure, Result.andThen_ok, invoke]
   rw [hargs, ← h2]
   congr 2
   apply Array.toList_inj.1
   simp
  ·cases e
theorem parts_map {nt : Nat} {tm : Tm} {T : Array Value} {ds : List Deferred} (hR : RF nt tm T) (ps : Array (Nat × Operand)) :
  (ps.map fun (i, x) => (i, (⟨T, ds⟩ : Act).eval x)).toList = aparts tm ps.toList := by
 simp only [Array.toList_map, aparts]
 exact List.map_congr_left fun x _ => by rw [hR.eval]
theorem op_ok (hng : NoCount P) (hF : Full w0 h w) {nt : Nat} {tm : Tm} {T : Array Value} {ds : List Deferred} (hR : RF nt tm T) {o : Oper} :
  ∃ c, ∀ out, aop w0.heap.size P tm h o.op (if chooses o.op then c else 0) = some out → Ends w0 w ((execOp (⟨T, ds⟩ : Act).eval o).run P w) out := by
 have hev : ∀ x : Operand, (⟨T, ds⟩ : Act).eval x = eval tm x := fun x => hR.eval x
 cases hop : o.op
 case convert s d x =>
  obtain ⟨c, hc⟩ := conv_ok (P := P) hF (s := s) (d := d) (x := eval tm x)
  refine ⟨c, fun out e => ?_⟩
  simp only [chooses, if_true, aop] at e
  obtain ⟨v', h', rfl, h1⟩ := v2_out e
  obtain ⟨w', h2, h3⟩ := hc _ _ h1
  exact ⟨w', .inl (by simp only [execOp, hop, hev]; exact sem_val h2), h3⟩
 case next it b =>
  obtain ⟨c, hc⟩ := next_ok (P := P) hF (x := eval tm it) (b := b) (ty := o.type)
  refine ⟨c, fun out e => ?_⟩
  simp only [chooses, if_true, aop] at e
  obtain ⟨v', h', rfl, h1⟩ := v2_out e
  obtain ⟨w', h2, h3⟩ := hc _ _ h1
  exact ⟨w', .inl (by simp only [execOp, hop, hev]; exact sem_val h2), h3⟩
 case call q =>
  by_cases hq : q.callee = .builtin .append
  ·obtain ⟨callee, cargs, ats⟩ := q
   simp only at hq
   subst hq
   have hargs := map_args (ds := ds) hR cargs
   match hl : cargs.toList.map (eval tm) with
   | [s, x] =>
    obtain ⟨c, hc⟩ := append_ok (P := P) hF (ts := ats) (ty := o.type) (s := s) (x := x)
    refine ⟨c, fun out e => ?_⟩
    simp only [chooses, if_true, aop, acall, hl, abuiltin] at e
    obtain ⟨v, h', rfl, h1⟩ := v2_out e
    obtain ⟨w', h2, h3⟩ := hc _ _ h1
    refine ⟨w', .inl ?_, h3⟩
    simp only [execOp, hop, resolve, Sem.run_bind, Sem.run_pure, Result.andThen_ok, invoke, hargs, hl]
    simp [builtin, h2]
   | [] => exact ⟨0, fun out e => by simp [aop, acall, hl, abuiltin] at e⟩
   | [_] => exact ⟨0, fun out e => by simp [aop, acall, hl, abuiltin] at e⟩
   | _ :: _ :: _ :: _ => exact ⟨0, fun out e => by simp [aop, acall, hl, abuiltin] at e⟩
  ·refine ⟨0, fun out e => ?_⟩
   simp only [aop] at e
   exact call_ok hng hF hR hop hq e
 all_goals
  refine ⟨0, fun out e => ?_⟩
  simp only [aop] at e
  try (cases e; done)
 case move x => cases e; exact ⟨w, .inl (by simp [execOp, hop, hev]), hF⟩
 case assign x => cases e; exact ⟨w, .inl (by simp [execOp, hop, hev]), hF⟩
 case pick q a b =>
  split at e
  ·rename_i t hq
   cases e
   refine ⟨w, .inl ?_, hF⟩
   cases t <;> simp [execOp, hop, hev, hq, asBool]
  ·cases e
 case alloc t =>
  split at e
  ·rename_i z hz
   cases e
   obtain ⟨w', h1, h2⟩ := alloc_ok hF hz
   exact ⟨w', .inl (by simp only [execOp, hop]; exact sem_val h1), h2⟩
  ·cases e
 case box t x =>
  cases e
  obtain ⟨w', h1, h2⟩ := box_ok (P := P) (e := t) (v := eval tm x) hF
  exact ⟨w', .inl (by simp only [execOp, hop, hev]; exact sem_val h1), h2⟩
 case build t ps =>
  obtain ⟨v, rfl, h1⟩ := v1_out e
  rw [← parts_map (ds := ds) hR] at h1
  have h2 := build_ok (w := w) h1
  exact ⟨w, .inl (by simp only [execOp, hop]; exact sem_val h2), hF⟩
 case buildSlice t n ps =>
  obtain ⟨v, h', rfl, h1⟩ := v2_out e
  rw [← parts_map (ds := ds) hR] at h1
  obtain ⟨w', h2, h3⟩ := buildSlice_ok hF h1
  exact ⟨w', .inl (by simp only [execOp, hop]; exact sem_val h2), h3⟩
 case load t a =>
  split at e
  ·rename_i b off ha
   obtain ⟨v, rfl, h1⟩ := v1_out e
   have h2 := aload_ok hF h1
   exact ⟨w, .inl (by simp only [execOp, hop, hev, ha]; exact sem_val (by simpa [Instr.loadAt, Instr.sureAddr] using h2)), hF⟩
  ·cases e
 case store t a x =>
  split at e
  ·rename_i b off ha
   obtain ⟨h', rfl, h1⟩ := v3_out e
   obtain ⟨w', h2, h3⟩ := store_ok hF h1
   exact ⟨w', .inr ⟨by simp only [execOp, hop, hev, ha]; exact sem_skip h2, rfl⟩, h3⟩
  ·cases e
 case entry it =>
  obtain ⟨v, rfl, h1⟩ := v1_out e
  have h2 := entry_ok (P := P) hF h1
  exact ⟨w, .inl (by simp only [execOp, hop, hev]; exact sem_val h2), hF⟩
 case nilCheck x =>
  obtain ⟨v, rfl, h1⟩ := v1_out e
  exact ⟨w, .inl (nilCheck_ok hop (by rw [hev]; exact h1)), hF⟩
 case binOp op t x y yt =>
  split at e
  ·rename_i hg
   obtain ⟨v, rfl, h1⟩ := v1_out e
   have h2 := bin_ok (w := w) h1
   refine ⟨w, .inl ?_, hF⟩
   simp only [execOp, hop, hev]
   exact sem_val (by simp [guard_ok (P := P) (t := t) (w := w) hg, h2])
  ·cases e
 case unOp op t x =>
  obtain ⟨v, rfl, h1⟩ := v1_out e
  have h2 := un_ok (P := P) (w := w) h1
  exact ⟨w, .inl (by simp only [execOp, hop, hev]; exact sem_val h2), hF⟩
 case makeInterface t x =>
  split at e
  ·cases e
  ·rename_i d hnd hd
   cases e
   refine ⟨w, .inl ?_, hF⟩
   simp only [execOp, hop, hev]
   refine sem_val ?_
   cases d <;> first | (exact (hnd _ rfl).elim) | simp [Instr.makeInterface, run_underlying hd]
  ·cases e
 case makeFunc fn first captured =>
  cases e
  refine ⟨w, .inl ?_, hF⟩
  simp only [execOp, hop]
  refine sem_val ?_
  rw [show (⟨T, ds⟩ : Act).eval = eval tm from funext hev]
  rfl
 case makeMap t r =>
  have h3 := hF.new (.map [] 0)
  have hsz := hF.size
  split at e
  ·rename_i hr
   cases e
   have hr' : r = none := by cases r <;> simp [opt] at hr ⊢
   subst hr'
   exact ⟨_, .inl (by simp only [execOp, hop]; exact sem_val (by simp [Instr.makeMap, hsz, AO.obj])), h3⟩
  ·rename_i k n hr
   split at e
   ·rename_i k' el hu
    cases e
    have hr' := opt_map (ds := ds) hR r
    rw [hr] at hr'
    exact ⟨_, .inl (by simp only [execOp, hop, hr']; exact sem_val (by simp [Instr.makeMap, run_underlying hu, asInt, asIntOf, hsz, AO.obj])), h3⟩
   ·cases e
  ·cases e
 case makeSlice t l c =>
  obtain ⟨v, h', rfl, h1⟩ := v2_out e
  obtain ⟨w', h2, h3⟩ := makeSlice_ok hF h1
  exact ⟨w', .inl (by simp only [execOp, hop, hev]; exact sem_val h2), h3⟩
 case slice t x lo hi mx =>
  obtain ⟨v, rfl, h1⟩ := v1_out e
  have h2 := slice_ok (w := w) h1
  exact ⟨w, .inl (by simp only [execOp, hop, hev, opt_map hR]; exact sem_val h2), hF⟩
 case fieldAddr t x f =>
  split at e
  ·rename_i b off0 off ft hx hfo
   split at e
   ·cases e
   ·rename_i z hz0 hz
    cases e
    exact ⟨w, .inl (by simp only [execOp, hop, hev, hx]; exact sem_val (fieldAddr_ok hfo hz (by rintro rfl; exact hz0 rfl))), hF⟩
   ·cases e
  ·cases e
 case field t x f =>
  split at e
  ·rename_i cs off ft hx hfo
   obtain ⟨v, rfl, h1⟩ := v1_out e
   have h2 := field_ok (w := w) hfo h1
   exact ⟨w, .inl (by simp only [execOp, hop, hev, hx]; exact sem_val h2), hF⟩
  ·cases e
 case indexAddr t x ix =>
  obtain ⟨v, rfl, h1⟩ := v1_out e
  have h2 := indexAddr_ok (w := w) h1
  exact ⟨w, .inl (by simp only [execOp, hop, hev]; exact sem_val h2), hF⟩
 case index t x ix =>
  obtain ⟨v, rfl, h1⟩ := v1_out e
  have h2 := index_ok (w := w) h1
  exact ⟨w, .inl (by simp only [execOp, hop, hev]; exact sem_val h2), hF⟩
 case lookup t x ix ok =>
  obtain ⟨v, rfl, h1⟩ := v1_out e
  have h2 := lookup_ok hF h1
  exact ⟨w, .inl (by simp only [execOp, hop, hev]; exact sem_val h2), hF⟩
 case mapUpdate t m k x =>
  obtain ⟨h', rfl, h1⟩ := v3_out e
  obtain ⟨w', h2, h3⟩ := update_ok hF h1
  exact ⟨w', .inr ⟨by simp only [execOp, hop, hev]; exact sem_skip h2, rfl⟩, h3⟩
 case range t x =>
  obtain ⟨v, h', rfl, h1⟩ := v2_out e
  obtain ⟨w', h2, h3⟩ := range_ok hF h1
  exact ⟨w', .inl (by simp only [execOp, hop, hev]; exact sem_val h2), h3⟩
 case typeAssert x xt asserted ok =>
  obtain ⟨v, rfl, h1⟩ := v1_out e
  have h2 := assert_ok (w := w) (xt := xt) h1
  exact ⟨w, .inl (by simp only [execOp, hop, hev]; exact sem_val h2), hF⟩
 case extract t ix =>
  split at e
  ·rename_i vs ht
   obtain ⟨v, rfl, h1⟩ := v1_out e
   exact ⟨w, .inl (by simp only [execOp, hop, hev, ht]; exact sem_val (by simp [Instr.extract, h1])), hF⟩
  ·cases e
 case defer q =>
  obtain ⟨callee, cargs, ats⟩ := q
  have hargs := map_args (ds := ds) hR cargs
  split at e
  ·rename_i f hcal
   simp only at hcal
   subst hcal
   split at e
   ·rename_i fn first captured hf
    cases e
    have hfv : (⟨T, ds⟩ : Act).eval f = .func fn first captured := by rw [hev, hf]
    show _ = _
    simp only [execOp, hop, resolve, hfv, Deferred.ofValue]
    simp only [Sem.run_bind, Sem.run_pure, Result.andThen_ok, hargs]
    congr 3
    all_goals (apply Array.toList_inj.1; simp)
   ·cases e
  ·cases e
end
end Go.Proofs.YtbjaapiliegegaaGreatDoor.Sy
end
